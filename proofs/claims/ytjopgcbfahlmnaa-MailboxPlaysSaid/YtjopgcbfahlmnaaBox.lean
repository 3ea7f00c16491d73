/- The contracts of the mailbox of layer 18: what stands in it, and Put, Len, Room, Last; slices.Clone of bytes. -/
import Derived.Test.YtjopgcbfahlmnaaRows
import Derived.Test.YtjopgcbfahlmnaaSep
import Derived.Test.YtjopgcbfahlmnaaRegT
import Derived.Test.YtjopgcbfahlmnaaRegion
namespace Go.Proofs.Ytjopgcbfahlmnaa
open Go.RowKit Go.Pw
set_option linter.unusedVariables false

theorem Try.info5 : (Try.prog.info? 5).map (fun i => (i.zero, i.size, i.bytes)) = some (some (.int .u8 0), 1, 1) := by kernel_rfl
theorem Try.info36 : (Try.prog.info? 36).map (fun i => (i.zero, i.size, i.bytes)) = some (some (.agg #[.int .u64 0, .slice none 0 0]), 2, 32) := by kernel_rfl

/-- A copy of bytes: a row of the call's own. -/
def Fresh (xs : List Int) (w : World) (e : Ending) (w' : World) : Prop := ∃ v, e = .returned v ∧ w'.ownsRow 0 5 1 v xs.length (xs.map (Value.int .u8)) ∧ SoN w (.slice none 0 0) v ∧ Only w w' []

set_option maxHeartbeats 400000 in
theorem clone_any (p : Value) (xs : List Int) (w : World) (hp : Src w p 1 xs.length (xs.map (Value.int .u8))) (hl : xs.length ≤ 1000000000) :
    Calls Try.prog 14 #[p] w (Fresh xs w) := by
  obtain ⟨i0, hi, hz0, hz1, hz2⟩ := info_parts Try.info5
  obtain ⟨ao, c, rfl, h1, h2, h3, h4, _⟩ := id hp
  have hn := Lib.run_eql_slice_nil (P := Try.prog) w 23 5 ao xs.length c 0 0 Try.underlying23
  cases ao with
  | none =>
    have h0 := (h4 rfl).1
    obtain rfl : xs = [] := List.eq_nil_of_length_eq_zero h0
    obtain rfl : c = 0 := (h4 rfl).2
    simp only [Option.isNone_none, List.length_nil] at hn ⊢
    clear hp h1 h2 h3 h4 h0 hl
    go_enter Try.func14, Try.ntmps14
    go_wp2
    go_ret
    exact ⟨_, rfl, World.ownsRow_nil _ _ _ _, SoN.refl _ _, Only.refl _ _⟩
  | some a =>
    simp only [Option.isNone_some] at hn
    have hs := hp.off (Only.alloc w (.cells #[] 5) []) (fun _ _ _ => by simp)
    have hown : (w.alloc (.cells #[] 5)).ownsRow 0 5 1 (.slice (some ⟨w.heap.size, 0, none⟩) 0 0) 0 [] := World.ownsRow_made w #[] 0 (Nat.zero_le _) (Nat.zero_le _) rfl
    go_enter Try.func14, Try.ntmps14
    go_wp2_with (at_builtin; refine wpList_append_src rfl _ _ 23 rfl 5 i0 (.int .u8 0) 1 1 Try.underlying23 hi hz0 hz1 hz2 rfl (by decide) (.slice (some ⟨w.heap.size, 0, none⟩) 0 0) 0 [] rfl hown _ xs.length _ rfl hs (one_ints _ _) (by unfold maxLen; omega) (by omega) ?_; intro v' w' g1 g2 g3; simp only [Nat.zero_add, List.nil_append] at g1)
    go_ret
    exact ⟨v', rfl, g1, fun k hk => by
      rcases g3 k hk with h | h
      · right; simp [Value.ownBlock] at h; omega
      · right; simp at h; omega, ((Only.alloc w _ []).step (Only.grown (L := [w.heap.size]) g2 (fun k hk => by simp [Value.ownBlock] at hk; simp; omega)) (fun i hi => .inr (by simp at hi; omega)))⟩

/-- An item: its number, where its bytes lie, they. -/
structure It where
  n : Int
  ao : Option Addr
  cp : Nat
  bs : List Int
def ev (x : It) : Value := .slice x.ao x.bs.length x.cp
def ic (x : It) : List Value := [.int .u64 x.n, ev x]
def flat (l : List It) : List Value := l.flatMap ic
def env (x : It) : Res := row 5 1 (ev x) x.bs.length (x.bs.map (Value.int .u8))
/-- What is said of an item. -/
def ct (x : It) : Int × List Int := (x.n, x.bs)
theorem flat_len (l : List It) : (flat l).length = l.length * 2 := by
  induction l with
  | nil => rfl
  | cons x l ih => simp only [flat, List.flatMap_cons, List.length_append, List.length_cons] at ih ⊢; rw [ih]; simp [ic]; omega
theorem flat_snoc (l : List It) (x : It) : flat (l ++ [x]) = flat l ++ ic x := by simp [flat]
theorem flat_one (l : List It) : ∀ u ∈ flat l, u.oneCell' = true := by
  intro u hu
  obtain ⟨x, _, hx⟩ := List.mem_flatMap.1 hu
  simp only [ic, List.mem_cons, List.not_mem_nil, or_false] at hx
  rcases hx with rfl | rfl <;> rfl
theorem flat_drop (l : List It) (i : Nat) : (flat l).drop (2 * i) = flat (l.drop i) := by
  induction l generalizing i with
  | nil => simp [flat]
  | cons x l ih =>
    cases i with
    | zero => simp
    | succ i =>
      rw [List.drop_succ_cons, ← ih, show 2 * (i + 1) = 2 * i + 2 by omega]
      rfl
theorem flat_at {l : List It} {i : Nat} (hi : i < l.length) : (flat l)[2 * i]? = some (.int .u64 l[i].n) ∧ (flat l)[2 * i + 1]? = some (ev l[i]) := by
  have h := flat_drop l i
  rw [List.drop_eq_getElem_cons hi] at h
  constructor
  · have := congrArg (fun x => x[0]?) h
    rw [List.getElem?_drop] at this
    exact this
  · have := congrArg (fun x => x[1]?) h
    rw [List.getElem?_drop] at this
    exact this

/-- Items that are the call's own, with all their bytes. -/
def itemsR (v : Value) (l : List It) : Res := two (row 36 2 v l.length (flat l)) (many (l.map env))
/-- A mailbox: its block, its items. -/
def box (B : Nat) (v : Value) (l : List It) (last : Int) : Res := two (blk B [v, .int .u64 last] 31) (itemsR v l)

/-- The item that is appended. -/
theorem items_app {w0 wr w1 w2 w3 : World} {rs : List Res} {v v' : Value} {l : List It} (x : It) (h : Sep w0 wr (itemsR v l :: rs))
    (g1 : w1.ownsRow 0 5 1 (ev x) x.bs.length (x.bs.map (Value.int .u8))) (g2 : SoN wr (.slice none 0 0) (ev x)) (g3 : Only wr w1 []) (g4 : Only w1 w2 [])
    (h1 : w3.ownsRow 0 36 2 v' (l.length + 1) (flat l ++ ic x)) (h2 : w2.grownBy w3 v.ownBlock) (h3 : SoN w2 v v') : Sep w0 w3 (itemsR v' (l ++ [x]) :: rs) := by
  have s1 : Sep w0 w1 (env x :: row 36 2 v l.length (flat l) :: many (l.map env) :: rs) := h.split.row0 g1 g2 g3
  have s2 := (s1.quiet g4).up 1 (by simp)
  have s3 : Sep w0 w3 (row 36 2 v' (l.length + 1) (flat l ++ ic x) :: env x :: many (l.map env) :: rs) := Sep.app (m := 1) s2 h1 h2 h3
  have s4 : Sep w0 w3 (many (l.map env) :: env x :: row 36 2 v' (l.length + 1) (flat l ++ ic x) :: rs) := (s3.up 2 (by simp)).perm (List.Perm.cons _ (List.Perm.swap _ _ _))
  have s5 := s4.many_snoc.up 1 (by simp)
  have e : many (l.map env ++ [env x]) = many ((l ++ [x]).map env) := by rw [List.map_append]; rfl
  have s6 : Sep w0 w3 (row 36 2 v' (l ++ [x]).length (flat (l ++ [x])) :: many ((l ++ [x]).map env) :: rs) := by
    rw [← e, flat_snoc, List.length_append]
    exact s5
  exact s6.join

theorem box_facts {w0 w : World} {rs : List Res} {B : Nat} {v : Value} {l : List It} {last : Int} (h : Sep w0 w (box B v l last :: rs)) :
    w.heap[B]? = some (.cells #[v, .int .u64 last] 31 (0, 0)) ∧ w.ownsRow 0 36 2 v l.length (flat l) ∧ (∀ x ∈ l, w.ownsRow 0 5 1 (ev x) x.bs.length (x.bs.map (Value.int .u8))) ∧ v.ownBlock ≠ some B := by
  have h0 : (box B v l last).ok w := h.head
  refine ⟨h0.1, h0.2.1.1, fun x hx => h0.2.1.2.1.1 (env x) (List.mem_map.2 ⟨x, hx, rfl⟩), fun e => h0.2.2 B (by simp [blk]) ?_⟩
  exact List.mem_append.2 (.inl (by simp [row, e]))

theorem box_slice {w : World} {v : Value} {l : List It} (h : w.ownsRow 0 36 2 v l.length (flat l)) : ∃ ao c, v = .slice ao l.length c := own_slice h

set_option maxHeartbeats 400000 in
theorem len_any {w0 : World} {rs : List Res} (B : Nat) (v : Value) (l : List It) (last : Int) (w : World) (h : Sep w0 w (box B v l last :: rs)) :
    Calls Try.prog 11 #[.pointer (some ⟨B, 0, none⟩)] w fun e w' => e = .returned (.int .i64 l.length) ∧ w = w' := by
  obtain ⟨hB, hr, _, _⟩ := box_facts h
  obtain ⟨ao, c, rfl⟩ := box_slice hr
  have h0 := cell_two0 hB
  go_enter Try.func11, Try.ntmps11
  go_wp2
  go_ret
  exact ⟨rfl, rfl⟩
theorem len_nil (w : World) : Calls Try.prog 11 #[.pointer none] w fun e w' => e = .returned (.int .i64 0) ∧ w = w' := by
  go_enter Try.func11, Try.ntmps11
  go_wp2
  go_ret
  exact ⟨rfl, rfl⟩
set_option maxHeartbeats 400000 in
theorem room_any {w0 : World} {rs : List Res} (B : Nat) (v : Value) (l : List It) (last : Int) (w : World) (h : Sep w0 w (box B v l last :: rs)) (hl : l.length ≤ 1000000000) :
    Calls Try.prog 12 #[.pointer (some ⟨B, 0, none⟩)] w fun e w' => e = .returned (.int .i64 (32 - l.length)) ∧ w = w' := by
  obtain ⟨hB, hr, _, _⟩ := box_facts h
  obtain ⟨ao, c, rfl⟩ := box_slice hr
  have h0 := cell_two0 hB
  go_enter Try.func12, Try.ntmps12
  go_wp2
  go_ret
  exact ⟨rfl, rfl⟩
theorem room_nil (w : World) : Calls Try.prog 12 #[.pointer none] w fun e w' => e = .returned (.int .i64 0) ∧ w = w' := by
  go_enter Try.func12, Try.ntmps12
  go_wp2
  go_ret
  exact ⟨rfl, rfl⟩
set_option maxHeartbeats 400000 in
theorem last_any {w0 : World} {rs : List Res} (B : Nat) (v : Value) (l : List It) (last : Int) (w : World) (h : Sep w0 w (box B v l last :: rs)) :
    Calls Try.prog 13 #[.pointer (some ⟨B, 0, none⟩)] w fun e w' => e = .returned (.int .u64 last) ∧ w = w' := by
  obtain ⟨hB, hr, _, _⟩ := box_facts h
  have h1 := cell_two1 hB
  go_enter Try.func13, Try.ntmps13
  go_wp2
  go_ret
  exact ⟨rfl, rfl⟩
theorem last_nil (w : World) : Calls Try.prog 13 #[.pointer none] w fun e w' => e = .returned (.int .u64 0) ∧ w = w' := by
  go_enter Try.func13, Try.ntmps13
  go_wp2
  go_ret
  exact ⟨rfl, rfl⟩

set_option maxHeartbeats 400000 in
theorem put_nil (p : Value) (w : World) : Calls Try.prog 7 #[.pointer none, p] w fun e w' => e = .returned (.tuple #[.int .u64 0, .int .i64 2]) ∧ w = w' := by
  go_enter Try.func7, Try.ntmps7
  go_wp2
  go_ret2
  exact ⟨rfl, rfl⟩
set_option maxHeartbeats 400000 in
theorem put_long (B : Nat) (ao : Option Addr) (n c : Nat) (w : World) (hn : 65536 < n) : Calls Try.prog 7 #[.pointer (some ⟨B, 0, none⟩), .slice ao n c] w fun e w' => e = .returned (.tuple #[.int .u64 0, .int .i64 5]) ∧ w = w' := by
  have d : decide ((65536 : Int) < n) = true := by simp; omega
  go_enter Try.func7, Try.ntmps7
  go_wp2
  go_ret2
  exact ⟨rfl, rfl⟩
set_option maxHeartbeats 400000 in
theorem put_full {w0 : World} {rs : List Res} (B : Nat) (v : Value) (l : List It) (last : Int) (ao : Option Addr) (n c : Nat) (w : World) (h : Sep w0 w (box B v l last :: rs)) (hl : 32 ≤ l.length ∧ l.length ≤ 1000000000) (hn : n ≤ 65536) :
    Calls Try.prog 7 #[.pointer (some ⟨B, 0, none⟩), .slice ao n c] w fun e w' => e = .returned (.tuple #[.int .u64 0, .int .i64 3]) ∧ w = w' := by
  have d : decide ((65536 : Int) < n) = false := by simp; omega
  have d2 : decide ((32 : Int) - l.length < 1) = true := by simp; omega
  go_enter Try.func7, Try.ntmps7
  go_wp2_with (go_at_call 12; refine (room_any B v l last _ h hl.2).mono ?_; rintro e w' ⟨rfl, rfl⟩)
  go_ret2
  exact ⟨rfl, rfl⟩

/-- What Put leaves. -/
def Putted (w0 : World) (rs : List Res) (B : Nat) (l : List It) (last : Int) (xs : List Int) (e : Ending) (w' : World) : Prop :=
  e = .returned (.tuple #[.int .u64 (last + 1), .int .i64 0]) ∧ ∃ v' x, ct x = (last + 1, xs) ∧ Sep w0 w' (box B v' (l ++ [x]) (last + 1) :: rs)

set_option maxRecDepth 100000 in
set_option maxHeartbeats 1600000 in
theorem put_off {w0 : World} {rs : List Res} (B : Nat) (v : Value) (l : List It) (last : Int) (p : Value) (xs : List Int) (w : World) (h : Sep w0 w (box B v l last :: rs)) (hl : l.length < 32) (hla : 0 ≤ last ∧ last ≤ 1000000000) (hp : Src w p 1 xs.length (xs.map (Value.int .u8))) (hpo : Off p [B]) (hn : xs.length ≤ 65536) :
    Calls Try.prog 7 #[.pointer (some ⟨B, 0, none⟩), p] w (Putted w0 rs B l last xs) := by
  obtain ⟨i0, hi, hz0, hz1, hz2⟩ := info_parts Try.info36
  obtain ⟨ap, cp, rfl, _, _, _⟩ := id hp
  have d : decide ((65536 : Int) < xs.length) = false := by simp; omega
  have d2 : decide ((32 : Int) - l.length < 1) = false := by simp; omega
  obtain ⟨hB, hr, _, hne⟩ := box_facts h
  have h1 := cell_two1 hB
  have f1 := free_two hB 1
  go_enter Try.func7, Try.ntmps7
  go_wp2_with (go_at_call 12; refine (room_any B v l last _ h (by omega)).mono ?_; rintro e w' ⟨rfl, rfl⟩)
  have s1 : Sep w0 (w.setCell ⟨B, 1, none⟩ (.int .u64 (last + 1))) (box B v l (last + 1) :: rs) := (h.split.put 1 _).join
  have ho := Only.setCell w ⟨B, 1, none⟩ (.int .u64 (last + 1)) [B] (by simp)
  have hp2 := hp.off ho hpo
  generalize hW : w.setCell ⟨B, 1, none⟩ (.int .u64 (last + 1)) = W at *
  clear hW h hB hr hne h1 f1 ho
  obtain ⟨hB1, hr1, _, hne1⟩ := box_facts s1
  have hne1 : B ∉ v.ownBlock.toList := by simpa using hne1
  generalize hpv : Value.slice ap xs.length cp = p at *
  refine wp_region_t (S := fun w' => Only W.drew w' v.ownBlock.toList) 16 (by kernel_rfl) (by kernel_rfl) (Only.refl _ _) (fun hZ hHeld => ?_)
  refine' wpAnyT_take (i := 0) (v := _) hZ (op_at' rfl) (by rfl) (by kernel_rfl) (by kernel_rfl) (by kernel_rfl) (by kernel_rfl) (fun _ _ _ h => h) (Or.inl ⟨by rfl, ?hy1⟩) (by assumption) ?rest1
  case hy1 =>
    intro w' hS
    go_simp
    try with_reducible rfl
  try simp only [Act.put, List.setIfInBounds_toArray, List.set_cons_zero, List.set_cons_succ]
  refine' wpAnyT_take (i := 1) (v := _) hZ (op_at' rfl) (by rfl) (by kernel_rfl) (by kernel_rfl) (by kernel_rfl) (by kernel_rfl) (fun _ _ _ h => h) (Or.inl ⟨by rfl, ?hy2⟩) (by assumption) ?rest2
  case hy2 =>
    intro w' hS
    go_simp
    try with_reducible rfl
  try simp only [Act.put, List.setIfInBounds_toArray, List.set_cons_zero, List.set_cons_succ]
  refine' wpAnyT_take (i := 2) (v := _) hZ (op_at' rfl) (by rfl) (by kernel_rfl) (by kernel_rfl) (by kernel_rfl) (by kernel_rfl) (fun _ _ _ h => h) (Or.inl ⟨by rfl, ?hy3⟩) (by assumption) ?rest3
  case hy3 =>
    intro w' hS
    have hB2 := hS.at hB1 hne1
    have c0 := cell_two0 hB2
    have c1 := cell_two1 hB2
    go_simp
    try with_reducible rfl
  try simp only [Act.put, List.setIfInBounds_toArray, List.set_cons_zero, List.set_cons_succ]
  refine' wpAnyT_take (i := 3) (v := _) hZ (op_at' rfl) (by rfl) (by kernel_rfl) (by kernel_rfl) (by kernel_rfl) (by kernel_rfl) (fun _ _ _ h => h) (Or.inl ⟨by rfl, ?hy4⟩) (by assumption) ?rest4
  case hy4 =>
    intro w' hS
    go_simp
    try with_reducible rfl
  try simp only [Act.put, List.setIfInBounds_toArray, List.set_cons_zero, List.set_cons_succ]
  refine' wpAnyT_take (i := 4) (v := _) hZ (op_at' rfl) (by rfl) (by kernel_rfl) (by kernel_rfl) (by kernel_rfl) (by kernel_rfl) (fun _ _ _ h => h) (Or.inl ⟨by rfl, ?hy5⟩) (by assumption) ?rest5
  case hy5 =>
    intro w' hS
    have hB2 := hS.at hB1 hne1
    have c0 := cell_two0 hB2
    have c1 := cell_two1 hB2
    go_simp
    try with_reducible rfl
  try simp only [Act.put, List.setIfInBounds_toArray, List.set_cons_zero, List.set_cons_succ]
  refine' wpAnyT_take (i := 5) (v := _) hZ (op_at' rfl) (by rfl) (by kernel_rfl) (by kernel_rfl) (by kernel_rfl) (by kernel_rfl) (fun _ _ _ h => h) (Or.inl ⟨by rfl, ?hy6⟩) (by assumption) ?rest6
  case hy6 =>
    intro w' hS
    go_simp
    try with_reducible rfl
  try simp only [Act.put, List.setIfInBounds_toArray, List.set_cons_zero, List.set_cons_succ]
  refine' wpAnyT_take (i := 6) (v := _) hZ (op_at' rfl) (by rfl) (by kernel_rfl) (by kernel_rfl) (by kernel_rfl) (by kernel_rfl) (fun _ _ _ h => h) (Or.inl ⟨by rfl, ?hy7⟩) (by assumption) ?rest7
  case hy7 =>
    intro w' hS
    have hB2 := hS.at hB1 hne1
    have c0 := cell_two0 hB2
    have c1 := cell_two1 hB2
    go_simp
    try with_reducible rfl
  try simp only [Act.put, List.setIfInBounds_toArray, List.set_cons_zero, List.set_cons_succ]
  refine' wpAnyT_take (i := 7) (v := _) hZ (op_at' rfl) (by rfl) (by kernel_rfl) (by kernel_rfl) (by kernel_rfl) (by kernel_rfl) (fun _ _ _ h => h) (Or.inl ⟨by rfl, ?hy8⟩) (by assumption) ?rest8
  case hy8 =>
    intro w' hS
    go_simp
    try with_reducible rfl
  try simp only [Act.put, List.setIfInBounds_toArray, List.set_cons_zero, List.set_cons_succ]
  refine' wpAnyT_take (i := 8) (v := _) hZ (op_at' rfl) (by rfl) (by kernel_rfl) (by kernel_rfl) (by kernel_rfl) (by kernel_rfl) (fun _ _ _ h => h) (Or.inl ⟨by rfl, ?hy9⟩) (by assumption) ?rest9
  case hy9 =>
    intro w' hS
    have hB2 := hS.at hB1 hne1
    have c0 := cell_two0 hB2
    have c1 := cell_two1 hB2
    go_simp
    try with_reducible rfl
  try simp only [Act.put, List.setIfInBounds_toArray, List.set_cons_zero, List.set_cons_succ]
  refine' wpAnyT_take (i := 9) (v := _) hZ (op_at' rfl) (by rfl) (by kernel_rfl) (by kernel_rfl) (by kernel_rfl) (by kernel_rfl) (fun _ _ _ h => h) (Or.inl ⟨by rfl, ?hy10⟩) (by assumption) ?rest10
  case hy10 =>
    intro w' hS
    go_simp
    try with_reducible rfl
  try simp only [Act.put, List.setIfInBounds_toArray, List.set_cons_zero, List.set_cons_succ]
  refine wpAnyT_one (i := 10) (by kernel_rfl) (op_at' rfl) (fun K hK => ?_)
  go_simp
  refine (clone_any p xs W.drew (hp2.off (Only.drew _ []) (fun _ _ _ => by simp)) (by omega)).mono ?_
  rintro e w5 ⟨v5, rfl, g1, g2, g3⟩
  obtain ⟨a5, c5, rfl⟩ := own_slice g1
  go_wp2_with fail
  refine hK.out _ _ (g3.mono (by simp)) (fun hHeld => ?_)
  clear hK K
  try simp only [Act.put, List.setIfInBounds_toArray, List.set_cons_zero, List.set_cons_succ]
  refine' wpAnyT_take (i := 11) (v := _) hZ (op_at' rfl) (by rfl) (by kernel_rfl) (by kernel_rfl) (by kernel_rfl) (by kernel_rfl) (fun _ _ _ h => h) (Or.inl ⟨by rfl, ?hy11⟩) (by assumption) ?rest11
  case hy11 =>
    intro w' hS
    go_simp
    try with_reducible rfl
  try simp only [Act.put, List.setIfInBounds_toArray, List.set_cons_zero, List.set_cons_succ]
  refine wpAnyT_one (i := 12) (by kernel_rfl) (op_at' rfl) (fun K hK => ?_)
  go_simp
  go_wp2_with fail
  refine hK.out _ _ ((g3.mono (by simp)).trans (Only.alloc w5 _ _)) (fun hHeld => ?_)
  clear hK K
  try simp only [Act.put, List.setIfInBounds_toArray, List.set_cons_zero, List.set_cons_succ]
  refine wpAnyT_one (i := 13) (by kernel_rfl) (op_at' rfl) (fun K hK => ?_)
  have hr6 : (w5.alloc (.cells #[.int .u64 (last + 1), .slice a5 xs.length c5] 36)).ownsRow 0 36 2 v l.length (flat l) := own_new hr1 ((Only.drew W []).trans (g3.trans (Only.alloc w5 _ []))) (by simp)
  have hs6 : Src (w5.alloc (.cells #[.int .u64 (last + 1), .slice a5 xs.length c5] 36)) (.slice (some ⟨w5.heap.size, 0, none⟩) 1 1) 2 1 [.int .u64 (last + 1), .slice a5 xs.length c5] := src_lit w5 _ _ _ _ rfl
  refine step_append_src (by rfl) (.tmp 28) (.tmp 36) 28 (by rfl) 36 i0 (.agg #[.int .u64 0, .slice none 0 0]) 2 32 Try.underlying28 hi hz0 hz1 hz2 rfl (by decide) v l.length (flat l) (by rfl) hr6 _ 1 [.int .u64 (last + 1), .slice a5 xs.length c5] (by rfl) hs6 (by simp [Value.oneCell']) (by unfold maxLen; omega) (by omega) (fun v' w7 q1 q2 q3 => ?_)
  have hS7 : Only W.drew w7 v.ownBlock.toList := ((g3.mono (by simp)).trans (Only.alloc w5 _ _)).trans (Only.grown q2 (fun k hk => by simp [hk]))
  obtain ⟨a7, c7, rfl⟩ := own_slice q1
  go_wp2_with fail
  refine hK.out _ _ (hS7) (fun hHeld => ?_)
  clear hK K
  try simp only [Act.put, List.setIfInBounds_toArray, List.set_cons_zero, List.set_cons_succ]
  refine' wpAnyT_take (i := 14) (v := _) hZ (op_at' rfl) (by rfl) (by kernel_rfl) (by kernel_rfl) (by kernel_rfl) (by kernel_rfl) (fun _ _ _ h => h) (Or.inl ⟨by rfl, ?hy12⟩) (by assumption) ?rest12
  case hy12 =>
    intro w' hS
    have hB2 := hS.at hB1 hne1
    have c0 := cell_two0 hB2
    have c1 := cell_two1 hB2
    go_simp
    try with_reducible rfl
  try simp only [Act.put, List.setIfInBounds_toArray, List.set_cons_zero, List.set_cons_succ]
  refine' wpAnyT_take (i := 15) (v := _) hZ (op_at' rfl) (by rfl) (by kernel_rfl) (by kernel_rfl) (by kernel_rfl) (by kernel_rfl) (fun _ _ _ h => h) (Or.inl ⟨by rfl, ?hy13⟩) (by assumption) ?rest13
  case hy13 =>
    intro w' hS
    go_simp
    try with_reducible rfl
  try simp only [Act.put, List.setIfInBounds_toArray, List.set_cons_zero, List.set_cons_succ]
  refine wpAnyT_last (by kernel_rfl) (op_at' rfl) (by kernel_rfl) (fun K hK => ?_)
  have hB7 := hS7.at (show W.drew.heap[B]? = _ from hB1) hne1
  have c0 := cell_two0 hB7
  have f0 := free_two hB7 0
  go_simp
  go_wp2_with fail
  refine hK.out _ _ ?_
  clear hK K
  try simp only [Act.put, List.setIfInBounds_toArray, List.set_cons_zero, List.set_cons_succ]
  have t1 := items_app ⟨last + 1, a5, c5, xs⟩ (s1.split.up 1 (by simp)) g1 g2 ((Only.drew W []).trans g3) (Only.alloc w5 _ []) q1 q2 q3
  have t2 := ((t1.up 1 (by simp)).put 0 (.slice a7 (l.length + 1) c7)).join
  have hB8 := (box_facts t2).1
  have c8 := cell_two1 hB8
  clear hZ hHeld hS7 hB7 c0 f0 q1 q2 q3 hr6 hs6 g1 g2 g3 s1 hB1 hr1 hp2 t1 hB8
  generalize hV : w7.setCell _ _ = V at *
  clear hV
  go_wp2_with fail
  go_ret2
  exact ⟨rfl, _, _, rfl, t2⟩
theorem put_ok {w0 : World} {rs : List Res} (B : Nat) (v : Value) (l : List It) (last : Int) (p : Value) (xs : List Int) (w : World) (h : Sep w0 w (box B v l last :: rs)) (hl : l.length < 32) (hla : 0 ≤ last ∧ last ≤ 1000000000) (hp : Src w p 1 xs.length (xs.map (Value.int .u8))) (hpo : ∀ k, p.ownBlock = some k → k ≠ B) (hn : xs.length ≤ 65536) :
    Calls Try.prog 7 #[.pointer (some ⟨B, 0, none⟩), p] w (Putted w0 rs B l last xs) :=
  put_off B v l last p xs w h hl hla hp (fun _ k hk => by simpa using hpo k hk) hn
end Go.Proofs.Ytjopgcbfahlmnaa
