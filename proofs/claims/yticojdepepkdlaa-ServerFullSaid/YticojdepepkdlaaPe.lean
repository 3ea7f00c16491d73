/- Several texts in one: Box, Box2, Box4. -/
import Derived.Test.YticojdepepkdlaaRows
import Derived.Test.YticojdepepkdlaaPa
set_option linter.unusedSimpArgs false
set_option linter.unusedVariables false
/- The contracts of the mailbox of layer 18: what stands in it, and Put, Len, Room, Last; slices.Clone of bytes. -/
namespace Go.Proofs.Yticojdepepkdlaa
open Go.RowKit Go.Pw
set_option linter.unusedVariables false

theorem Try.infoB5 : (Try.prog.info? 5).map (fun i => (i.zero, i.size, i.bytes)) = some (some (.int .u8 0), 1, 1) := by kernel_rfl
theorem Try.info83 : (Try.prog.info? 83).map (fun i => (i.zero, i.size, i.bytes)) = some (some (.agg #[.int .u64 0, .slice none 0 0]), 2, 32) := by kernel_rfl

/-- A copy of bytes: a row of the call's own. -/
def FreshB (xs : List Int) (w : World) (e : Ending) (w' : World) : Prop := ∃ v, e = .returned v ∧ w'.ownsRow 0 5 1 v xs.length (xs.map (Value.int .u8)) ∧ SoN w (.slice none 0 0) v ∧ Only w w' []

set_option maxHeartbeats 400000 in
theorem clone_any (p : Value) (xs : List Int) (w : World) (hp : Src w p 1 xs.length (xs.map (Value.int .u8))) (hl : xs.length ≤ 1000000000) :
    Calls Try.prog 28 #[p] w (FreshB xs w) := by
  obtain ⟨i0, hi, hz0, hz1, hz2⟩ := info_parts Try.infoB5
  obtain ⟨ao, c, rfl, h1, h2, h3, h4, _⟩ := id hp
  have hn := Lib.run_eql_slice_nil (P := Try.prog) w 32 5 ao xs.length c 0 0 Try.underlying32
  cases ao with
  | none =>
    have h0 := (h4 rfl).1
    obtain rfl : xs = [] := List.eq_nil_of_length_eq_zero h0
    obtain rfl : c = 0 := (h4 rfl).2
    simp only [Option.isNone_none, List.length_nil] at hn ⊢
    clear hp h1 h2 h3 h4 h0 hl
    go_enter Try.func28, Try.ntmps28
    go_wp2
    go_ret
    exact ⟨_, rfl, World.ownsRow_nil _ _ _ _, SoN.refl _ _, Only.refl _ _⟩
  | some a =>
    simp only [Option.isNone_some] at hn
    have hs := hp.off (Only.alloc w (.cells #[] 5) []) (fun _ _ _ => by simp)
    have hown : (w.alloc (.cells #[] 5)).ownsRow 0 5 1 (.slice (some ⟨w.heap.size, 0, none⟩) 0 0) 0 [] := World.ownsRow_made w #[] 0 (Nat.zero_le _) (Nat.zero_le _) rfl
    go_enter Try.func28, Try.ntmps28
    go_wp2_with (at_builtin; refine wpList_append_src rfl _ _ 32 rfl 5 i0 (.int .u8 0) 1 1 Try.underlying32 hi hz0 hz1 hz2 rfl (by decide) (.slice (some ⟨w.heap.size, 0, none⟩) 0 0) 0 [] rfl hown _ xs.length _ rfl hs (one_ints _ _) (by unfold maxLen; omega) (by omega) ?_; intro v' w' g1 g2 g3; simp only [Nat.zero_add, List.nil_append] at g1)
    go_ret
    exact ⟨v', rfl, g1, fun k hk => by
      rcases g3 k hk with h | h
      · right; simp [Value.ownBlock] at h; omega
      · right; simp at h; omega, ((Only.alloc w _ []).step (Only.grown (L := [w.heap.size]) g2 (fun k hk => by simp [Value.ownBlock] at hk; simp; omega)) (fun i hi => .inr (by simp at hi; omega)))⟩

/-- An item: its number, where its bytes lie, they. -/
structure It where
  n : Int
  ao : Option Addr
  cp : Nat
  bs : List Int
def ev (x : It) : Value := .slice x.ao x.bs.length x.cp
def ic (x : It) : List Value := [.int .u64 x.n, ev x]
def flat (l : List It) : List Value := l.flatMap ic
def env (x : It) : Res := row 5 1 (ev x) x.bs.length (x.bs.map (Value.int .u8))
/-- What is said of an item. -/
def ct (x : It) : Int × List Int := (x.n, x.bs)
theorem flat_len (l : List It) : (flat l).length = l.length * 2 := by
  induction l with
  | nil => rfl
  | cons x l ih => simp only [flat, List.flatMap_cons, List.length_append, List.length_cons] at ih ⊢; rw [ih]; simp [ic]; omega
theorem flat_snoc (l : List It) (x : It) : flat (l ++ [x]) = flat l ++ ic x := by simp [flat]
theorem flat_one (l : List It) : ∀ u ∈ flat l, u.oneCell' = true := by
  intro u hu
  obtain ⟨x, _, hx⟩ := List.mem_flatMap.1 hu
  simp only [ic, List.mem_cons, List.not_mem_nil, or_false] at hx
  rcases hx with rfl | rfl <;> rfl
theorem flat_drop (l : List It) (i : Nat) : (flat l).drop (2 * i) = flat (l.drop i) := by
  induction l generalizing i with
  | nil => simp [flat]
  | cons x l ih =>
    cases i with
    | zero => simp
    | succ i =>
      rw [List.drop_succ_cons, ← ih, show 2 * (i + 1) = 2 * i + 2 by omega]
      rfl
theorem flat_at {l : List It} {i : Nat} (hi : i < l.length) : (flat l)[2 * i]? = some (.int .u64 l[i].n) ∧ (flat l)[2 * i + 1]? = some (ev l[i]) := by
  have h := flat_drop l i
  rw [List.drop_eq_getElem_cons hi] at h
  constructor
  · have := congrArg (fun x => x[0]?) h
    rw [List.getElem?_drop] at this
    exact this
  · have := congrArg (fun x => x[1]?) h
    rw [List.getElem?_drop] at this
    exact this

/-- Items that are the call's own, with all their bytes. -/
def itemsR (v : Value) (l : List It) : Res := two (row 83 2 v l.length (flat l)) (many (l.map env))
/-- A mailbox: its block, its items. -/
def box (B : Nat) (v : Value) (l : List It) (last : Int) : Res := two (blk B [v, .int .u64 last] 71) (itemsR v l)

/-- The item that is appended. -/
theorem items_app {w0 wr w1 w2 w3 : World} {rs : List Res} {v v' : Value} {l : List It} (x : It) (h : Sep w0 wr (itemsR v l :: rs))
    (g1 : w1.ownsRow 0 5 1 (ev x) x.bs.length (x.bs.map (Value.int .u8))) (g2 : SoN wr (.slice none 0 0) (ev x)) (g3 : Only wr w1 []) (g4 : Only w1 w2 [])
    (h1 : w3.ownsRow 0 83 2 v' (l.length + 1) (flat l ++ ic x)) (h2 : w2.grownBy w3 v.ownBlock) (h3 : SoN w2 v v') : Sep w0 w3 (itemsR v' (l ++ [x]) :: rs) := by
  have s1 : Sep w0 w1 (env x :: row 83 2 v l.length (flat l) :: many (l.map env) :: rs) := h.split.row0 g1 g2 g3
  have s2 := (s1.quiet g4).up 1 (by simp)
  have s3 : Sep w0 w3 (row 83 2 v' (l.length + 1) (flat l ++ ic x) :: env x :: many (l.map env) :: rs) := Sep.app (m := 1) s2 h1 h2 h3
  have s4 : Sep w0 w3 (many (l.map env) :: env x :: row 83 2 v' (l.length + 1) (flat l ++ ic x) :: rs) := (s3.up 2 (by simp)).perm (List.Perm.cons _ (List.Perm.swap _ _ _))
  have s5 := s4.many_snoc.up 1 (by simp)
  have e : many (l.map env ++ [env x]) = many ((l ++ [x]).map env) := by rw [List.map_append]; rfl
  have s6 : Sep w0 w3 (row 83 2 v' (l ++ [x]).length (flat (l ++ [x])) :: many ((l ++ [x]).map env) :: rs) := by
    rw [← e, flat_snoc, List.length_append]
    exact s5
  exact s6.join

theorem box_facts {w0 w : World} {rs : List Res} {B : Nat} {v : Value} {l : List It} {last : Int} (h : Sep w0 w (box B v l last :: rs)) :
    w.heap[B]? = some (.cells #[v, .int .u64 last] 71 (0, 0)) ∧ w.ownsRow 0 83 2 v l.length (flat l) ∧ (∀ x ∈ l, w.ownsRow 0 5 1 (ev x) x.bs.length (x.bs.map (Value.int .u8))) ∧ v.ownBlock ≠ some B := by
  have h0 : (box B v l last).ok w := h.head
  refine ⟨h0.1, h0.2.1.1, fun x hx => h0.2.1.2.1.1 (env x) (List.mem_map.2 ⟨x, hx, rfl⟩), fun e => h0.2.2 B (by simp [blk]) ?_⟩
  exact List.mem_append.2 (.inl (by simp [row, e]))

theorem box_slice {w : World} {v : Value} {l : List It} (h : w.ownsRow 0 83 2 v l.length (flat l)) : ∃ ao c, v = .slice ao l.length c := own_slice h

set_option maxHeartbeats 400000 in
theorem len_any {w0 : World} {rs : List Res} (B : Nat) (v : Value) (l : List It) (last : Int) (w : World) (h : Sep w0 w (box B v l last :: rs)) :
    Calls Try.prog 12 #[.pointer (some ⟨B, 0, none⟩)] w fun e w' => e = .returned (.int .i64 l.length) ∧ w = w' := by
  obtain ⟨hB, hr, _, _⟩ := box_facts h
  obtain ⟨ao, c, rfl⟩ := box_slice hr
  have h0 := cell_two0 hB
  go_enter Try.func12, Try.ntmps12
  go_wp2
  go_ret
  exact ⟨rfl, rfl⟩
theorem len_nil (w : World) : Calls Try.prog 12 #[.pointer none] w fun e w' => e = .returned (.int .i64 0) ∧ w = w' := by
  go_enter Try.func12, Try.ntmps12
  go_wp2
  go_ret
  exact ⟨rfl, rfl⟩
set_option maxHeartbeats 400000 in
theorem room_any {w0 : World} {rs : List Res} (B : Nat) (v : Value) (l : List It) (last : Int) (w : World) (h : Sep w0 w (box B v l last :: rs)) (hl : l.length ≤ 1000000000) :
    Calls Try.prog 27 #[.pointer (some ⟨B, 0, none⟩)] w fun e w' => e = .returned (.int .i64 (32 - l.length)) ∧ w = w' := by
  obtain ⟨hB, hr, _, _⟩ := box_facts h
  obtain ⟨ao, c, rfl⟩ := box_slice hr
  have h0 := cell_two0 hB
  go_enter Try.func27, Try.ntmps27
  go_wp2
  go_ret
  exact ⟨rfl, rfl⟩
theorem room_nil (w : World) : Calls Try.prog 27 #[.pointer none] w fun e w' => e = .returned (.int .i64 0) ∧ w = w' := by
  go_enter Try.func27, Try.ntmps27
  go_wp2
  go_ret
  exact ⟨rfl, rfl⟩
set_option maxHeartbeats 400000 in
theorem put_nil (p : Value) (w : World) : Calls Try.prog 14 #[.pointer none, p] w fun e w' => e = .returned (.tuple #[.int .u64 0, .int .i64 2]) ∧ w = w' := by
  go_enter Try.func14, Try.ntmps14
  go_wp2
  go_ret2
  exact ⟨rfl, rfl⟩
set_option maxHeartbeats 400000 in
theorem put_long (B : Nat) (ao : Option Addr) (n c : Nat) (w : World) (hn : 65536 < n) : Calls Try.prog 14 #[.pointer (some ⟨B, 0, none⟩), .slice ao n c] w fun e w' => e = .returned (.tuple #[.int .u64 0, .int .i64 5]) ∧ w = w' := by
  have d : decide ((65536 : Int) < n) = true := by simp; omega
  go_enter Try.func14, Try.ntmps14
  go_wp2
  go_ret2
  exact ⟨rfl, rfl⟩
set_option maxHeartbeats 400000 in
theorem put_full {w0 : World} {rs : List Res} (B : Nat) (v : Value) (l : List It) (last : Int) (ao : Option Addr) (n c : Nat) (w : World) (h : Sep w0 w (box B v l last :: rs)) (hl : 32 ≤ l.length ∧ l.length ≤ 1000000000) (hn : n ≤ 65536) :
    Calls Try.prog 14 #[.pointer (some ⟨B, 0, none⟩), .slice ao n c] w fun e w' => e = .returned (.tuple #[.int .u64 0, .int .i64 3]) ∧ w = w' := by
  have d : decide ((65536 : Int) < n) = false := by simp; omega
  have d2 : decide ((32 : Int) - l.length < 1) = true := by simp; omega
  go_enter Try.func14, Try.ntmps14
  go_wp2_with (go_at_call 27; refine (room_any B v l last _ h hl.2).mono ?_; rintro e w' ⟨rfl, rfl⟩)
  go_ret2
  exact ⟨rfl, rfl⟩

/-- What Put leaves. -/
def Putted (w0 : World) (rs : List Res) (B : Nat) (l : List It) (last : Int) (xs : List Int) (e : Ending) (w' : World) : Prop :=
  e = .returned (.tuple #[.int .u64 (last + 1), .int .i64 0]) ∧ ∃ v' x, ct x = (last + 1, xs) ∧ Sep w0 w' (box B v' (l ++ [x]) (last + 1) :: rs)

set_option maxRecDepth 100000 in
set_option maxHeartbeats 1600000 in
theorem put_off {w0 : World} {rs : List Res} (B : Nat) (v : Value) (l : List It) (last : Int) (p : Value) (xs : List Int) (w : World) (h : Sep w0 w (box B v l last :: rs)) (hl : l.length < 32) (hla : 0 ≤ last ∧ last ≤ 1000000000) (hp : Src w p 1 xs.length (xs.map (Value.int .u8))) (hpo : Off p [B]) (hn : xs.length ≤ 65536) :
    Calls Try.prog 14 #[.pointer (some ⟨B, 0, none⟩), p] w (Putted w0 rs B l last xs) := by
  obtain ⟨i0, hi, hz0, hz1, hz2⟩ := info_parts Try.info83
  obtain ⟨ap, cp, rfl, _, _, _⟩ := id hp
  have d : decide ((65536 : Int) < xs.length) = false := by simp; omega
  have d2 : decide ((32 : Int) - l.length < 1) = false := by simp; omega
  obtain ⟨hB, hr, _, hne⟩ := box_facts h
  have h1 := cell_two1 hB
  have f1 := free_two hB 1
  go_enter Try.func14, Try.ntmps14
  go_wp2_with (go_at_call 27; refine (room_any B v l last _ h (by omega)).mono ?_; rintro e w' ⟨rfl, rfl⟩)
  have s1 : Sep w0 (w.setCell ⟨B, 1, none⟩ (.int .u64 (last + 1))) (box B v l (last + 1) :: rs) := (h.split.put 1 _).join
  have ho := Only.setCell w ⟨B, 1, none⟩ (.int .u64 (last + 1)) [B] (by simp)
  have hp2 := hp.off ho hpo
  generalize hW : w.setCell ⟨B, 1, none⟩ (.int .u64 (last + 1)) = W at *
  clear hW h hB hr hne h1 f1 ho
  obtain ⟨hB1, hr1, _, hne1⟩ := box_facts s1
  have hne1 : B ∉ v.ownBlock.toList := by simpa using hne1
  generalize hpv : Value.slice ap xs.length cp = p at *
  refine wp_region_t (S := fun w' => Only W.drew w' v.ownBlock.toList) 16 (by kernel_rfl) (by kernel_rfl) (Only.refl _ _) (fun hZ hHeld => ?_)
  refine' wpAnyT_take (i := 0) (v := _) hZ (op_at' rfl) (by rfl) (by kernel_rfl) (by kernel_rfl) (by kernel_rfl) (by kernel_rfl) (fun _ _ _ h => h) (Or.inl ⟨by rfl, ?hy1⟩) (by assumption) ?rest1
  case hy1 =>
    intro w' hS
    go_simp
    try with_reducible rfl
  try simp only [Act.put, List.setIfInBounds_toArray, List.set_cons_zero, List.set_cons_succ]
  refine' wpAnyT_take (i := 1) (v := _) hZ (op_at' rfl) (by rfl) (by kernel_rfl) (by kernel_rfl) (by kernel_rfl) (by kernel_rfl) (fun _ _ _ h => h) (Or.inl ⟨by rfl, ?hy2⟩) (by assumption) ?rest2
  case hy2 =>
    intro w' hS
    go_simp
    try with_reducible rfl
  try simp only [Act.put, List.setIfInBounds_toArray, List.set_cons_zero, List.set_cons_succ]
  refine' wpAnyT_take (i := 2) (v := _) hZ (op_at' rfl) (by rfl) (by kernel_rfl) (by kernel_rfl) (by kernel_rfl) (by kernel_rfl) (fun _ _ _ h => h) (Or.inl ⟨by rfl, ?hy3⟩) (by assumption) ?rest3
  case hy3 =>
    intro w' hS
    have hB2 := hS.at hB1 hne1
    have c0 := cell_two0 hB2
    have c1 := cell_two1 hB2
    go_simp
    try with_reducible rfl
  try simp only [Act.put, List.setIfInBounds_toArray, List.set_cons_zero, List.set_cons_succ]
  refine' wpAnyT_take (i := 3) (v := _) hZ (op_at' rfl) (by rfl) (by kernel_rfl) (by kernel_rfl) (by kernel_rfl) (by kernel_rfl) (fun _ _ _ h => h) (Or.inl ⟨by rfl, ?hy4⟩) (by assumption) ?rest4
  case hy4 =>
    intro w' hS
    go_simp
    try with_reducible rfl
  try simp only [Act.put, List.setIfInBounds_toArray, List.set_cons_zero, List.set_cons_succ]
  refine' wpAnyT_take (i := 4) (v := _) hZ (op_at' rfl) (by rfl) (by kernel_rfl) (by kernel_rfl) (by kernel_rfl) (by kernel_rfl) (fun _ _ _ h => h) (Or.inl ⟨by rfl, ?hy5⟩) (by assumption) ?rest5
  case hy5 =>
    intro w' hS
    have hB2 := hS.at hB1 hne1
    have c0 := cell_two0 hB2
    have c1 := cell_two1 hB2
    go_simp
    try with_reducible rfl
  try simp only [Act.put, List.setIfInBounds_toArray, List.set_cons_zero, List.set_cons_succ]
  refine' wpAnyT_take (i := 5) (v := _) hZ (op_at' rfl) (by rfl) (by kernel_rfl) (by kernel_rfl) (by kernel_rfl) (by kernel_rfl) (fun _ _ _ h => h) (Or.inl ⟨by rfl, ?hy6⟩) (by assumption) ?rest6
  case hy6 =>
    intro w' hS
    go_simp
    try with_reducible rfl
  try simp only [Act.put, List.setIfInBounds_toArray, List.set_cons_zero, List.set_cons_succ]
  refine' wpAnyT_take (i := 6) (v := _) hZ (op_at' rfl) (by rfl) (by kernel_rfl) (by kernel_rfl) (by kernel_rfl) (by kernel_rfl) (fun _ _ _ h => h) (Or.inl ⟨by rfl, ?hy7⟩) (by assumption) ?rest7
  case hy7 =>
    intro w' hS
    have hB2 := hS.at hB1 hne1
    have c0 := cell_two0 hB2
    have c1 := cell_two1 hB2
    go_simp
    try with_reducible rfl
  try simp only [Act.put, List.setIfInBounds_toArray, List.set_cons_zero, List.set_cons_succ]
  refine' wpAnyT_take (i := 7) (v := _) hZ (op_at' rfl) (by rfl) (by kernel_rfl) (by kernel_rfl) (by kernel_rfl) (by kernel_rfl) (fun _ _ _ h => h) (Or.inl ⟨by rfl, ?hy8⟩) (by assumption) ?rest8
  case hy8 =>
    intro w' hS
    go_simp
    try with_reducible rfl
  try simp only [Act.put, List.setIfInBounds_toArray, List.set_cons_zero, List.set_cons_succ]
  refine' wpAnyT_take (i := 8) (v := _) hZ (op_at' rfl) (by rfl) (by kernel_rfl) (by kernel_rfl) (by kernel_rfl) (by kernel_rfl) (fun _ _ _ h => h) (Or.inl ⟨by rfl, ?hy9⟩) (by assumption) ?rest9
  case hy9 =>
    intro w' hS
    have hB2 := hS.at hB1 hne1
    have c0 := cell_two0 hB2
    have c1 := cell_two1 hB2
    go_simp
    try with_reducible rfl
  try simp only [Act.put, List.setIfInBounds_toArray, List.set_cons_zero, List.set_cons_succ]
  refine' wpAnyT_take (i := 9) (v := _) hZ (op_at' rfl) (by rfl) (by kernel_rfl) (by kernel_rfl) (by kernel_rfl) (by kernel_rfl) (fun _ _ _ h => h) (Or.inl ⟨by rfl, ?hy10⟩) (by assumption) ?rest10
  case hy10 =>
    intro w' hS
    go_simp
    try with_reducible rfl
  try simp only [Act.put, List.setIfInBounds_toArray, List.set_cons_zero, List.set_cons_succ]
  refine wpAnyT_one (i := 10) (by kernel_rfl) (op_at' rfl) (fun K hK => ?_)
  go_simp
  refine (clone_any p xs W.drew (hp2.off (Only.drew _ []) (fun _ _ _ => by simp)) (by omega)).mono ?_
  rintro e w5 ⟨v5, rfl, g1, g2, g3⟩
  obtain ⟨a5, c5, rfl⟩ := own_slice g1
  go_wp2_with fail
  refine hK.out _ _ (g3.mono (by simp)) (fun hHeld => ?_)
  clear hK K
  try simp only [Act.put, List.setIfInBounds_toArray, List.set_cons_zero, List.set_cons_succ]
  refine' wpAnyT_take (i := 11) (v := _) hZ (op_at' rfl) (by rfl) (by kernel_rfl) (by kernel_rfl) (by kernel_rfl) (by kernel_rfl) (fun _ _ _ h => h) (Or.inl ⟨by rfl, ?hy11⟩) (by assumption) ?rest11
  case hy11 =>
    intro w' hS
    go_simp
    try with_reducible rfl
  try simp only [Act.put, List.setIfInBounds_toArray, List.set_cons_zero, List.set_cons_succ]
  refine wpAnyT_one (i := 12) (by kernel_rfl) (op_at' rfl) (fun K hK => ?_)
  go_simp
  go_wp2_with fail
  refine hK.out _ _ ((g3.mono (by simp)).trans (Only.alloc w5 _ _)) (fun hHeld => ?_)
  clear hK K
  try simp only [Act.put, List.setIfInBounds_toArray, List.set_cons_zero, List.set_cons_succ]
  refine wpAnyT_one (i := 13) (by kernel_rfl) (op_at' rfl) (fun K hK => ?_)
  have hr6 : (w5.alloc (.cells #[.int .u64 (last + 1), .slice a5 xs.length c5] 83)).ownsRow 0 83 2 v l.length (flat l) := own_new hr1 ((Only.drew W []).trans (g3.trans (Only.alloc w5 _ []))) (by simp)
  have hs6 : Src (w5.alloc (.cells #[.int .u64 (last + 1), .slice a5 xs.length c5] 83)) (.slice (some ⟨w5.heap.size, 0, none⟩) 1 1) 2 1 [.int .u64 (last + 1), .slice a5 xs.length c5] := src_lit w5 _ _ _ _ rfl
  refine step_append_src (by rfl) (.tmp 28) (.tmp 36) 47 (by rfl) 83 i0 (.agg #[.int .u64 0, .slice none 0 0]) 2 32 Try.underlying47 hi hz0 hz1 hz2 rfl (by decide) v l.length (flat l) (by rfl) hr6 _ 1 [.int .u64 (last + 1), .slice a5 xs.length c5] (by rfl) hs6 (by simp [Value.oneCell']) (by unfold maxLen; omega) (by omega) (fun v' w7 q1 q2 q3 => ?_)
  have hS7 : Only W.drew w7 v.ownBlock.toList := ((g3.mono (by simp)).trans (Only.alloc w5 _ _)).trans (Only.grown q2 (fun k hk => by simp [hk]))
  obtain ⟨a7, c7, rfl⟩ := own_slice q1
  go_wp2_with fail
  refine hK.out _ _ (hS7) (fun hHeld => ?_)
  clear hK K
  try simp only [Act.put, List.setIfInBounds_toArray, List.set_cons_zero, List.set_cons_succ]
  refine' wpAnyT_take (i := 14) (v := _) hZ (op_at' rfl) (by rfl) (by kernel_rfl) (by kernel_rfl) (by kernel_rfl) (by kernel_rfl) (fun _ _ _ h => h) (Or.inl ⟨by rfl, ?hy12⟩) (by assumption) ?rest12
  case hy12 =>
    intro w' hS
    have hB2 := hS.at hB1 hne1
    have c0 := cell_two0 hB2
    have c1 := cell_two1 hB2
    go_simp
    try with_reducible rfl
  try simp only [Act.put, List.setIfInBounds_toArray, List.set_cons_zero, List.set_cons_succ]
  refine' wpAnyT_take (i := 15) (v := _) hZ (op_at' rfl) (by rfl) (by kernel_rfl) (by kernel_rfl) (by kernel_rfl) (by kernel_rfl) (fun _ _ _ h => h) (Or.inl ⟨by rfl, ?hy13⟩) (by assumption) ?rest13
  case hy13 =>
    intro w' hS
    go_simp
    try with_reducible rfl
  try simp only [Act.put, List.setIfInBounds_toArray, List.set_cons_zero, List.set_cons_succ]
  refine wpAnyT_last (by kernel_rfl) (op_at' rfl) (by kernel_rfl) (fun K hK => ?_)
  have hB7 := hS7.at (show W.drew.heap[B]? = _ from hB1) hne1
  have c0 := cell_two0 hB7
  have f0 := free_two hB7 0
  go_simp
  go_wp2_with fail
  refine hK.out _ _ ?_
  clear hK K
  try simp only [Act.put, List.setIfInBounds_toArray, List.set_cons_zero, List.set_cons_succ]
  have t1 := items_app ⟨last + 1, a5, c5, xs⟩ (s1.split.up 1 (by simp)) g1 g2 ((Only.drew W []).trans g3) (Only.alloc w5 _ []) q1 q2 q3
  have t2 := ((t1.up 1 (by simp)).put 0 (.slice a7 (l.length + 1) c7)).join
  have hB8 := (box_facts t2).1
  have c8 := cell_two1 hB8
  clear hZ hHeld hS7 hB7 c0 f0 q1 q2 q3 hr6 hs6 g1 g2 g3 s1 hB1 hr1 hp2 t1 hB8
  generalize hV : w7.setCell _ _ = V at *
  clear hV
  go_wp2_with fail
  go_ret2
  exact ⟨rfl, _, _, rfl, t2⟩
theorem put_ok {w0 : World} {rs : List Res} (B : Nat) (v : Value) (l : List It) (last : Int) (p : Value) (xs : List Int) (w : World) (h : Sep w0 w (box B v l last :: rs)) (hl : l.length < 32) (hla : 0 ≤ last ∧ last ≤ 1000000000) (hp : Src w p 1 xs.length (xs.map (Value.int .u8))) (hpo : ∀ k, p.ownBlock = some k → k ≠ B) (hn : xs.length ≤ 65536) :
    Calls Try.prog 14 #[.pointer (some ⟨B, 0, none⟩), p] w (Putted w0 rs B l last xs) :=
  put_off B v l last p xs w h hl hla hp (fun _ k hk => by simpa using hpo k hk) hn
end Go.Proofs.Yticojdepepkdlaa

/- The contract of From of layer 18 (mailbox). -/
namespace Go.Proofs.Yticojdepepkdlaa
open Go.RowKit Go.Pw
set_option linter.unusedVariables false

/-- Those behind a number, so many at most, behind some. -/
def fromF (n most : Int) : List (Int × List Int) → List (Int × List Int) → List (Int × List Int)
  | acc, [] => acc
  | acc, x :: r => fromF n most (if n < x.1 ∧ (acc.length : Int) < most then acc ++ [x] else acc) r

/-- An item where it lies. -/
theorem item_at {w : World} {g c : Nat} {l : List It} (h : w.ownsRow 0 83 2 (.slice (some ⟨g, 0, none⟩) l.length c) l.length (flat l)) {k : Nat} (hk : k < l.length) :
    w.cell? ⟨g, k * 2, none⟩ = some (.int .u64 l[k].n) ∧ w.cell? ⟨g, k * 2 + 1, none⟩ = some (ev l[k]) := by
  have h1 := h.cellAt (k * 2) (by omega)
  have h2 := h.cellAt (k * 2 + 1) (by omega)
  have := flat_at hk
  rw [Nat.mul_comm] at this
  exact ⟨h1.trans this.1, h2.trans this.2⟩

theorem items_facts {w0 w : World} {rs : List Res} {v : Value} {l : List It} (h : Sep w0 w (itemsR v l :: rs)) :
    w.ownsRow 0 83 2 v l.length (flat l) ∧ ∀ x ∈ l, w.ownsRow 0 5 1 (ev x) x.bs.length (x.bs.map (Value.int .u8)) := by
  have h0 : (itemsR v l).ok w := h.head
  exact ⟨h0.1, fun x hx => h0.2.1.1 (env x) (List.mem_map.2 ⟨x, hx, rfl⟩)⟩

/-- What From leaves. -/
def Froms (w0 : World) (rs : List Res) (l : List It) (n most : Int) (e : Ending) (w' : World) : Prop :=
  ∃ v' l', e = .returned v' ∧ l'.map ct = fromF n most [] (l.map ct) ∧ Sep w0 w' (itemsR v' l' :: rs)

set_option maxHeartbeats 400000 in
theorem from_nil (n most : Int) (w : World) : Calls Try.prog 22 #[.pointer none, .int .u64 n, .int .i64 most] w fun e w' => e = .returned (.slice none 0 0) ∧ w = w' := by
  go_enter Try.func22, Try.ntmps22
  go_wp2
  go_ret
  exact ⟨rfl, rfl⟩

set_option maxRecDepth 100000 in
set_option maxHeartbeats 3200000 in
theorem from_any {w0 : World} {rs : List Res} (B : Nat) (v : Value) (l : List It) (last n most : Int) (w : World) (h : Sep w0 w (box B v l last :: rs)) (hl : l.length ≤ 1000000) (hb : ∀ x ∈ l, x.bs.length ≤ 100000000 ∧ 0 ≤ x.n ∧ x.n < 18446744073709551616) (hn : 0 ≤ n ∧ n < 18446744073709551616) (hm : -9223372036854775808 ≤ most ∧ most ≤ 9223372036854775807) :
    Calls Try.prog 22 #[.pointer (some ⟨B, 0, none⟩), .int .u64 n, .int .i64 most] w (Froms w0 (box B v l last :: rs) l n most) := by
  obtain ⟨i0, hi, hz0, hz1, hz2⟩ := info_parts Try.info83
  obtain ⟨hB, hr, _, _⟩ := box_facts h
  obtain ⟨ao, c, rfl⟩ := box_slice hr
  have h0 := cell_two0 hB
  go_enter Try.func22, Try.ntmps22
  go_wp2_with fail
  clear h0 hB hr
  go_loopw [7, 18] (fun u i wr => ∃ (k : Nat) (v' : Value) (l' : List It), i = .int .i64 k ∧ k ≤ l.length ∧ u = v' ∧ l'.length ≤ k ∧ fromF n most (l'.map ct) ((l.drop k).map ct) = fromF n most [] (l.map ct) ∧ Sep w0 wr (itemsR v' l' :: box B (.slice ao l.length c) l last :: rs)) (fun _ i _ => l.length - (intOf i).toNat)
  case atStart => exact ⟨0, _, [], rfl, Nat.zero_le _, rfl, Nat.le_refl _, rfl, by
    have s1 := (h.rown 83 2).perm (List.Perm.refl _)
    exact (s1.many_nil.up 1 (by simp)).join⟩
  case round =>
    clear h
    obtain ⟨k, v', l', rfl, hk, rfl, hl', hf, hs⟩ := hrel
    have hf := Lib.hid hf
    by_cases hkl : k < l.length
    · obtain ⟨_, hr, henv, _⟩ := box_facts hs.tail
      obtain ⟨g, rfl, _⟩ := own_some hr (by omega)
      obtain ⟨hrow, _⟩ := items_facts hs
      have hit := item_at hr hkl
      have hbx := hb l[k] (List.getElem_mem _)
      have hev := henv l[k] (List.getElem_mem _)
      have hfk : Hid ((l.drop k).map ct = ct l[k] :: (l.drop (k + 1)).map ct) := by
        show (l.drop k).map ct = _
        rw [List.drop_eq_getElem_cons hkl]; rfl
      generalize l[k] = x at *
      obtain ⟨xn, ao, cp, bs⟩ := x
      simp only [ev, ct] at hit hev hfk hbx
      obtain ⟨hc0, hc1⟩ := hit
      have hc0a : ∀ o, (wr.alloc o).cell? ⟨g, k * 2, none⟩ = some (.int .u64 xn) := cell_al hc0
      have hc1a : ∀ o, (wr.alloc o).cell? ⟨g, k * 2 + 1, none⟩ = some (.slice ao bs.length cp) := cell_al hc1
      obtain ⟨a', c', rfl⟩ := own_slice hrow
      by_cases h1 : n < xn
      · have d1 : decide (n < xn) = true := by simpa using h1
        by_cases h2 : (l'.length : Int) < most
        · have d2 : decide ((l'.length : Int) < most) = true := by simpa using h2
          go_wp2_with fail
          obtain ⟨V, X, hV, hX0, hX, hoV, hX1, hX2⟩ := new_block wr (.cells #[.int .u64 xn, .slice ao bs.length cp] 83)
          rw [← hV, ← hX0]
          have hs2 := hs.quiet hoV
          have hneX : X ∉ (Value.slice a' l'.length c').ownBlock.toList := fun hm => by
            have := (hrow.lt X (by simpa using hm)).2
            omega
          have hsrc := (own_src hev).off (hoV.trans (Only.drew V [])) (fun _ _ _ => by simp)
          have hrow := own_new hrow hoV (by simp)
          clear hV hX0 hc0 hc1 hc0a hc1a hev hs hr henv
          generalize hv' : Value.slice a' l'.length c' = v' at *
          refine wp_region_held_drew (S := fun w' => Only V.drew w' v'.ownBlock.toList) (by kernel_rfl) (Only.refl _ _) (fun hHeld => ?_)
          refine' wpAnyH_take (i := 0) (v := _) (op_at rfl) (by kernel_rfl) (by kernel_rfl) (by kernel_rfl) (fun _ _ _ h => h) (Or.inl ⟨by rfl, ?hy1⟩) (by assumption) ?rest1
          case hy1 =>
            intro w' hS
            go_simp
            try with_reducible rfl
          try simp only [Act.put, List.setIfInBounds_toArray, List.set_cons_zero, List.set_cons_succ]
          refine' wpAnyH_take (i := 1) (v := _) (op_at rfl) (by kernel_rfl) (by kernel_rfl) (by kernel_rfl) (fun _ _ _ h => h) (Or.inl ⟨by rfl, ?hy2⟩) (by assumption) ?rest2
          case hy2 =>
            intro w' hS
            go_simp
            try with_reducible rfl
          try simp only [Act.put, List.setIfInBounds_toArray, List.set_cons_zero, List.set_cons_succ]
          refine' wpAnyH_take (i := 2) (v := _) (op_at rfl) (by kernel_rfl) (by kernel_rfl) (by kernel_rfl) (fun _ _ _ h => h) (Or.inl ⟨by rfl, ?hy3⟩) (by assumption) ?rest3
          case hy3 =>
            intro w' hS
            have hX2 := hS.at (show V.drew.heap[X]? = _ from hX) hneX
            have c0 := cell_two0 hX2
            have c1 := cell_two1 hX2
            go_simp
            try with_reducible rfl
          try simp only [Act.put, List.setIfInBounds_toArray, List.set_cons_zero, List.set_cons_succ]
          refine' wpAnyH_take (i := 3) (v := _) (op_at rfl) (by kernel_rfl) (by kernel_rfl) (by kernel_rfl) (fun _ _ _ h => h) (Or.inl ⟨by rfl, ?hy4⟩) (by assumption) ?rest4
          case hy4 =>
            intro w' hS
            go_simp
            try with_reducible rfl
          try simp only [Act.put, List.setIfInBounds_toArray, List.set_cons_zero, List.set_cons_succ]
          refine' wpAnyH_take (i := 4) (v := _) (op_at rfl) (by kernel_rfl) (by kernel_rfl) (by kernel_rfl) (fun _ _ _ h => h) (Or.inl ⟨by rfl, ?hy5⟩) (by assumption) ?rest5
          case hy5 =>
            intro w' hS
            have hX2 := hS.at (show V.drew.heap[X]? = _ from hX) hneX
            have c0 := cell_two0 hX2
            have c1 := cell_two1 hX2
            go_simp
            try with_reducible rfl
          try simp only [Act.put, List.setIfInBounds_toArray, List.set_cons_zero, List.set_cons_succ]
          refine wpAnyH_ready (rs := [5]) (by kernel_rfl) (by simp) (AllReadyH.cons (op_at rfl) (fun K hK => ?_) AllReadyH.nil)
          go_simp
          refine (clone_any (.slice ao bs.length cp) bs V.drew hsrc (by omega)).mono ?_
          rintro e w5 ⟨v5, rfl, g1, g2, g3⟩
          obtain ⟨a5, c5, rfl⟩ := own_slice g1
          go_wp2_with fail
          refine hK.out _ _ (g3.mono (by simp)) (fun hHeld => ?_)
          clear hK K
          try simp only [Act.put, List.setIfInBounds_toArray, List.set_cons_zero, List.set_cons_succ]
          refine' wpAnyH_take (i := 6) (v := _) (op_at rfl) (by kernel_rfl) (by kernel_rfl) (by kernel_rfl) (fun _ _ _ h => h) (Or.inl ⟨by rfl, ?hy6⟩) (by assumption) ?rest6
          case hy6 =>
            intro w' hS
            go_simp
            try with_reducible rfl
          try simp only [Act.put, List.setIfInBounds_toArray, List.set_cons_zero, List.set_cons_succ]
          refine wpAnyH_ready (rs := [7]) (by kernel_rfl) (by simp) (AllReadyH.cons (op_at rfl) (fun K hK => ?_) AllReadyH.nil)
          go_simp
          go_wp2_with fail
          refine hK.out _ _ ((g3.mono (by simp)).trans (Only.alloc w5 _ _)) (fun hHeld => ?_)
          clear hK K
          try simp only [Act.put, List.setIfInBounds_toArray, List.set_cons_zero, List.set_cons_succ]
          refine wpAnyH_ready (rs := [8]) (by kernel_rfl) (by simp) (AllReadyH.cons (op_at rfl) (fun K hK => ?_) AllReadyH.nil)
          have hr6 : (w5.alloc (.cells #[.int .u64 xn, .slice a5 bs.length c5] 83)).ownsRow 0 83 2 v' l'.length (flat l') := own_new hrow (((Only.drew V []).trans g3).trans (Only.alloc w5 _ [])) (by simp)
          have hs6 : Src (w5.alloc (.cells #[.int .u64 xn, .slice a5 bs.length c5] 83)) (.slice (some ⟨w5.heap.size, 0, none⟩) 1 1) 2 1 [.int .u64 xn, .slice a5 bs.length c5] := src_lit w5 _ _ _ _ rfl
          refine step_append_src (by rfl) (.tmp 32) (.tmp 39) 47 (by rfl) 83 i0 (.agg #[.int .u64 0, .slice none 0 0]) 2 32 Try.underlying47 hi hz0 hz1 hz2 rfl (by decide) v' l'.length (flat l') (by rfl) hr6 _ 1 [.int .u64 xn, .slice a5 bs.length c5] (by rfl) hs6 (by simp [Value.oneCell']) (by unfold maxLen; omega) (by omega) (fun v7 w7 q1 q2 q3 => ?_)
          have hS7 : Only V.drew w7 v'.ownBlock.toList := ((g3.mono (by simp)).trans (Only.alloc w5 _ _)).trans (Only.grown q2 (fun k hk => by simp [hk]))
          obtain ⟨a7, c7, rfl⟩ := own_slice q1
          go_wp2_with fail
          refine hK.out _ _ (hS7) (fun hHeld => ?_)
          clear hK K
          try simp only [Act.put, List.setIfInBounds_toArray, List.set_cons_zero, List.set_cons_succ]
          refine' wpAnyH_take (i := 9) (v := _) (op_at rfl) (by kernel_rfl) (by kernel_rfl) (by kernel_rfl) (fun _ _ _ h => h) (Or.inl ⟨by rfl, ?hy7⟩) (by assumption) ?rest7
          case hy7 =>
            intro w' hS
            go_simp
            try with_reducible rfl
          try simp only [Act.put, List.setIfInBounds_toArray, List.set_cons_zero, List.set_cons_succ]
          refine wpAnyH_done (by kernel_rfl) ?_ _
          have t1 := items_app ⟨xn, a5, c5, bs⟩ hs2 g1 g2 ((Only.drew V []).trans g3) (Only.alloc w5 _ []) q1 q2 q3
          go_wp2_with fail
          refine ⟨⟨k + 1, _, l' ++ [⟨xn, a5, c5, bs⟩], by simp, by omega, rfl, by simp; omega, ?_, t1⟩, by simp [intOf]; omega⟩
          rw [← hf.out, hfk.out, List.map_append]
          simp only [fromF, List.map_cons, List.map_nil, ct]
          rw [if_pos ⟨h1, by rw [List.length_map]; exact h2⟩]
        · have d2 : decide ((l'.length : Int) < most) = false := by simpa using h2
          go_wp2_with fail
          refine ⟨⟨k + 1, _, l', by simp, by omega, rfl, by omega, ?_, hs.quiet (Only.alloc _ _ _)⟩, by simp [intOf]; omega⟩
          rw [← hf.out, hfk.out]
          simp only [fromF]
          rw [if_neg (fun hh => h2 (by have := hh.2; rwa [List.length_map] at this))]
      · have d1 : decide (n < xn) = false := by simpa using h1
        go_wp2_with fail
        refine ⟨⟨k + 1, _, l', by simp, by omega, rfl, by omega, ?_, hs.quiet (Only.alloc _ _ _)⟩, by simp [intOf]; omega⟩
        rw [← hf.out, hfk.out]
        simp only [fromF]
        rw [if_neg (fun hh => h1 hh.1)]
    · obtain rfl : k = l.length := by omega
      have d1 : decide ((l.length : Int) < l.length) = false := by simp
      obtain ⟨hrow, _⟩ := items_facts hs
      obtain ⟨a', c', rfl⟩ := own_slice hrow
      go_wp2_with fail
      go_ret
      exact ⟨_, l', rfl, by have := hf.out; simpa [fromF] using this, hs⟩

end Go.Proofs.Yticojdepepkdlaa

/- The contracts of Ack of layer 18 (mailbox), and of what it calls: slices.DeleteFunc, slices.IndexFunc at items, by the closure of Ack. -/
namespace Go.Proofs.Yticojdepepkdlaa
open Go.RowKit Go.Pw
set_option linter.unusedVariables false

/-- The closure of Ack: it captured the block of n. -/
abbrev ackf (Nb : Nat) : Value := .func (.func 49) #[] #[.pointer (some ⟨Nb, 0, none⟩)]

set_option maxHeartbeats 400000 in
theorem ackf_any (Nb : Nat) (n xn : Int) (ao : Option Addr) (m c : Nat) (w : World) (h : w.heap[Nb]? = some (.cells #[.int .u64 n] 43 (0, 0))) :
    Calls Try.prog 49 #[.agg #[.int .u64 xn, .slice ao m c], .pointer (some ⟨Nb, 0, none⟩)] w fun e w' => e = .returned (.bool (decide (xn ≤ n))) ∧ Only w w' [] := by
  have hc := cell_of_one h
  have hca : ∀ o, (w.alloc o).cell? ⟨Nb, 0, none⟩ = some (.int .u64 n) := cell_al hc
  go_enter Try.func49, Try.ntmps49
  go_wp2
  go_ret
  exact ⟨rfl, Only.alloc _ _ _⟩

/-- The first of the items up to a number. -/
def fi (n : Int) (l : List It) : Nat := l.findIdx fun x => decide (x.n ≤ n)
def fiR (n : Int) (l : List It) : Int := if fi n l < l.length then fi n l else -1

set_option maxRecDepth 100000 in
set_option maxHeartbeats 1600000 in
theorem index_any {w0 : World} {rs : List Res} (Nb : Nat) (n : Int) (v : Value) (l : List It) (w : World) (h : Sep w0 w (row 83 2 v l.length (flat l) :: blk Nb [.int .u64 n] 43 :: rs)) (hl : l.length ≤ 1000000000) :
    Calls Try.prog 67 #[v, ackf Nb] w fun e w' => e = .returned (.int .i64 (fiR n l)) ∧ Only w w' [] := by
  obtain ⟨ao, c, rfl⟩ := own_slice (show w.ownsRow 0 _ 2 v l.length (flat l) from h.head)
  go_enter Try.func67, Try.ntmps67
  go_wp2_with fail
  go_loopw [8] (fun i wr => ∃ k : Nat, i = .int .i64 k ∧ k ≤ l.length ∧ (∀ j (hj : j < k), ∀ x, l[j]? = some x → n < x.n) ∧ Only w wr []) (fun i _ => l.length - (intOf i).toNat)
  case atStart => exact ⟨0, rfl, Nat.zero_le _, fun j hj => by omega, Only.refl _ _⟩
  case round =>
    obtain ⟨k, rfl, hk, hq, ho⟩ := hrel
    have hq := Lib.hid hq
    by_cases hkl : k < l.length
    · have hs := h.quiet ho
      have hrow : wr.ownsRow 0 83 2 (.slice ao l.length c) l.length (flat l) := hs.head
      have hN : wr.heap[Nb]? = some (.cells #[.int .u64 n] 43 (0, 0)) := hs.tail.head
      obtain ⟨g, rfl, _⟩ := own_some hrow (by omega)
      have hit := item_at hrow hkl
      have hlk : l[k]? = some l[k] := List.getElem?_eq_getElem hkl
      generalize l[k] = x at *
      obtain ⟨xn, ao, cp, bs⟩ := x
      simp only [ev] at hit
      obtain ⟨hc0, hc1⟩ := hit
      have Hlk := Lib.hid hlk
      clear hlk hrow hs
      have d1 : decide ((k : Int) < l.length) = true := by simpa using hkl
      by_cases hx : xn ≤ n
      · have hfin : Hid (fiR n l = k) := by
          have e : fi n l = k := by
            unfold fi
            rw [List.findIdx_eq hkl]
            have hlk := Hlk.out
            rw [List.getElem?_eq_getElem hkl] at hlk
            refine ⟨by rw [Option.some.inj hlk]; simpa using hx, fun j hj => ?_⟩
            have hjl : j < l.length := by omega
            have := hq.out j hj l[j] (List.getElem?_eq_getElem hjl)
            simp only [decide_eq_false_iff_not]
            omega
          show fiR n l = _
          rw [fiR, e, if_pos hkl]
        have hx' : decide (xn ≤ n) = true := by simpa using hx
        go_wp2_with fail
        refine (ackf_any Nb n xn ao bs.length cp _ hN).mono ?_
        rintro e w2 ⟨rfl, ho2⟩
        go_wp2_with fail
        go_ret
        exact ⟨by rw [hfin.out]; rfl, ho.trans ho2⟩
      · have hx' : decide (xn ≤ n) = false := by simpa using hx
        have hq2 : Hid (∀ j (hj : j < k + 1), ∀ x, l[j]? = some x → n < x.n) := by
          intro j hj y hy
          by_cases hjk : j = k
          · subst hjk
            rw [Hlk.out] at hy
            cases hy
            show n < xn
            omega
          · exact hq.out j (by omega) y hy
        go_wp2_with fail
        refine (ackf_any Nb n xn ao bs.length cp _ hN).mono ?_
        rintro e w2 ⟨rfl, ho2⟩
        go_wp2_with fail
        refine ⟨⟨k + 1, by simp, by omega, hq2.out, ho.trans ho2⟩, by simp [intOf]; omega⟩
    · obtain rfl : k = l.length := by omega
      have d1 : decide ((l.length : Int) < l.length) = false := by simp
      have hfin : Hid (fiR n l = -1) := by
        show fiR n l = _
        refine if_neg fun hh => ?_
        have := List.findIdx_getElem (w := hh)
        have h1 := hq.out _ hh l[fi n l] (List.getElem?_eq_getElem hh)
        have h2 : l[fi n l].n ≤ n := of_decide_eq_true this
        omega
      go_wp2_with fail
      go_ret
      exact ⟨by rw [hfin.out]; rfl, ho⟩

/-- What DeleteFunc leaves: the items behind the number. -/
def kp (n : Int) (l : List It) : List It := l.filter fun x => decide (n < x.n)
theorem kp_snoc (n : Int) (l : List It) (x : It) : kp n (l ++ [x]) = kp n l ++ (if n < x.n then [x] else []) := by
  unfold kp
  rw [List.filter_append]
  by_cases h : n < x.n <;> simp [h]

def Deleted (w0 : World) (rs : List Res) (n : Int) (l : List It) (e : Ending) (w' : World) : Prop := ∃ v', e = .returned v' ∧ Sep w0 w' (row 83 2 v' (kp n l).length (flat (kp n l)) :: rs)

set_option maxRecDepth 100000 in
set_option maxHeartbeats 3200000 in
theorem delete_any {w0 : World} {rs : List Res} (Nb : Nat) (n : Int) (v : Value) (l : List It) (w : World) (h : Sep w0 w (row 83 2 v l.length (flat l) :: blk Nb [.int .u64 n] 43 :: rs)) (hl : l.length ≤ 1000000000) :
    Calls Try.prog 48 #[v, ackf Nb] w (Deleted w0 (blk Nb [.int .u64 n] 43 :: rs) n l) := by
  by_cases hfi : fi n l < l.length
  · have hR : fiR n l = fi n l := if_pos hfi
    obtain ⟨i, hi⟩ : ∃ i, fi n l = i := ⟨_, rfl⟩
    have hpre : Hid (kp n (l.take (i + 1)) = l.take i) := by
      show kp n (l.take (i + 1)) = l.take i
      rw [← hi] at *
      rw [List.take_succ_eq_append_getElem hfi, kp_snoc]
      have h0 : l[fi n l].n ≤ n := of_decide_eq_true (List.findIdx_getElem (w := hfi))
      rw [if_neg (by omega), List.append_nil]
      refine List.filter_eq_self.2 fun x hx => ?_
      obtain ⟨j, hj, rfl⟩ := List.mem_iff_getElem.1 hx
      rw [List.length_take] at hj
      have := List.not_of_lt_findIdx (p := fun x : It => decide (x.n ≤ n)) (xs := l) (i := j) (by unfold fi at hj; omega)
      simp at this
      simp only [decide_eq_true_eq]
      rw [List.getElem_take]
      exact this
    have hc := index_any Nb n v l w h hl
    rw [hR, hi] at hc
    have Hc := Lib.hid hc
    clear hc hR
    rw [hi] at hfi
    have h2 : ((i : Int) == -1) = false := by simp <;> omega
    have hrow : w.ownsRow 0 83 2 v l.length (flat l) := h.head
    obtain ⟨ao, c, rfl⟩ := own_slice hrow
    obtain ⟨g, rfl, _⟩ := own_some hrow (by omega)
    clear hi hrow
    go_enter Try.func48, Try.ntmps48
    go_wp2_with fail
    refine Hc.out.mono ?_
    rintro e w1 ⟨rfl, ho1⟩
    have hs := h.quiet ho1
    clear h Hc ho1
    go_wp2_with fail
    go_loopw [5, 6] (fun a b wr => ∃ (p q : Nat) (m : List It), a = .int .i64 p ∧ b = .int .i64 q ∧ p < q ∧ q ≤ l.length ∧ m.length = l.length ∧ m.take p = kp n (l.take q) ∧ m.drop q = l.drop q ∧ Sep w0 wr (row 83 2 (.slice (some ⟨g, 0, none⟩) l.length c) l.length (flat m) :: blk Nb [.int .u64 n] 43 :: rs)) (fun _ b _ => l.length - (intOf b).toNat)
    case atStart => exact ⟨i, i + 1, l, rfl, by simp, by omega, by omega, rfl, hpre.out.symm, rfl, hs⟩
    case round =>
      clear hs hpre
      obtain ⟨p, q, m, rfl, rfl, hpq, hq, hml0, hmp0, hmq0, hs⟩ := hrel
      have hml := Lib.hid hml0
      have hmp := Lib.hid hmp0
      have hmq := Lib.hid hmq0
      clear hml0 hmp0 hmq0
      have hN : wr.heap[Nb]? = some (.cells #[.int .u64 n] 43 (0, 0)) := hs.tail.head
      have hrow : wr.ownsRow 0 83 2 (.slice (some ⟨g, 0, none⟩) l.length c) l.length (flat m) := hs.head
      by_cases hql : q < l.length
      · have d1 : decide ((q : Int) < l.length) = true := by simpa using hql
        have hqm : q < m.length := by rw [hml.out]; exact hql
        have hpm : p < m.length := by rw [hml.out]; omega
        have hrow' : wr.ownsRow 0 83 2 (.slice (some ⟨g, 0, none⟩) m.length c) m.length (flat m) := by rw [hml.out]; exact hrow
        obtain ⟨hc0, hc1⟩ := item_at hrow' hqm
        have hlq : Hid (l.take (q + 1) = l.take q ++ [m[q]] ∧ l.drop (q + 1) = m.drop (q + 1)) := by
          have e := hmq.out
          rw [List.drop_eq_getElem_cons hqm, List.drop_eq_getElem_cons hql, List.cons.injEq] at e
          rw [e.1]
          exact ⟨List.take_succ_eq_append_getElem hql, e.2.symm⟩
        generalize m[q] = x at *
        obtain ⟨xn, ao, cp, bs⟩ := x
        simp only [ev] at hc0 hc1
        by_cases hx : xn ≤ n
        · have hx' : decide (xn ≤ n) = true := by simpa using hx
          go_wp2_with fail
          have hs2 := hs.quiet (Only.alloc wr (.cells #[.int .u64 xn, .slice ao bs.length cp] 83) [])
          refine (ackf_any Nb n xn ao bs.length cp _ hs2.tail.head).mono ?_
          rintro e w2 ⟨rfl, ho2⟩
          have hs3 := hs2.quiet ho2
          clear hs hs2 ho2 hrow hrow' hN hc0 hc1
          go_wp2_with fail
          refine ⟨⟨p, q + 1, m, rfl, by simp, by omega, by omega, hml.out, ?_, hlq.out.2.symm, hs3⟩, by simp [intOf]; omega⟩
          rw [hlq.out.1, kp_snoc, if_neg (by simp only; omega), List.append_nil]
          exact hmp.out
        · have hx' : decide (xn ≤ n) = false := by simpa using hx
          go_wp2_with fail
          have hs2 := hs.quiet (Only.alloc wr (.cells #[.int .u64 xn, .slice ao bs.length cp] 83) [])
          have hX := cell_two0 (heap_alloc_new wr (.cells #[.int .u64 xn, .slice ao bs.length cp] 83))
          refine (ackf_any Nb n xn ao bs.length cp _ hs2.tail.head).mono ?_
          rintro e w2 ⟨rfl, ho2⟩
          have hs3 := hs2.quiet ho2
          have hX := ho2.at (heap_alloc_new wr (.cells #[.int .u64 xn, .slice ao bs.length cp] 83)) (by simp)
          have hx0 := cell_two0 hX
          have hx1 := cell_two1 hX
          have hr2 : w2.ownsRow 0 83 2 (.slice (some ⟨g, 0, none⟩) l.length c) l.length (flat m) := hs3.head
          have hr2' : w2.ownsRow 0 83 2 (.slice (some ⟨g, 0, none⟩) m.length c) m.length (flat m) := by rw [hml.out]; exact hr2
          obtain ⟨hp0, hp1⟩ := item_at hr2' hpm
          have f0 := hr2.frozenAt (p * 2)
          have f1 := hr2.frozenAt (p * 2 + 1)
          have hset : Hid (setL (flat m) (p * 2) [.int .u64 xn, .slice ao bs.length cp] = flat (m.set p ⟨xn, ao, cp, bs⟩)) := fl_set (enc := ic) (k := 2) (fun _ => rfl) hpm ⟨xn, ao, cp, bs⟩
          have hs4 := hs3.puts (p * 2) [.int .u64 xn, .slice ao bs.length cp]
          rw [hset.out] at hs4
          generalize m[p] = y at *
          simp only [ev] at hp0 hp1
          clear hs hs2 ho2 hrow hrow' hN hc0 hc1 hX hr2 hr2' hs3
          have hne : w.heap.size = w.heap.size := rfl
          go_wp2_with fail
          refine ⟨⟨p + 1, q + 1, m.set p ⟨xn, ao, cp, bs⟩, by simp, by simp, by omega, by omega, by rw [List.length_set]; exact hml.out, ?_, ?_, hs4⟩, by simp [intOf]; omega⟩
          · rw [hlq.out.1, kp_snoc, if_pos (by simp only; omega), ← hmp.out, List.take_succ_eq_append_getElem (by rw [List.length_set]; exact hpm), List.getElem_set_self, List.take_set_of_le (Nat.le_refl _)]
          · rw [List.drop_set_of_lt (by omega), hlq.out.2]
      · obtain rfl : q = l.length := by omega
        have d1 : decide ((l.length : Int) < l.length) = false := by simp
        obtain ⟨vs, hvs, hcl⟩ := run_clear_recs (P := Try.prog) wr 47 83 0 (.agg #[.int .u64 0, .slice none 0 0]) 2 Try.underlying47 (fun _ => by kernel_rfl) rfl (by simp [Value.cells, Value.oneCell']) g (p * 2) (l.length - p) (c - p) (by omega) (by decide) (row_there hrow (p * 2) ((l.length - p) * 2) (by omega))
        have hs2 := hs.puts (p * 2) vs
        have hfin : Hid ((setL (flat m) (p * 2) vs).take (p * 2) = flat (kp n l)) := by
          show (setL (flat m) (p * 2) vs).take (p * 2) = _
          rw [setL_take _ _ _ _ (Nat.le_refl _)]
          have := fl_take (enc := ic) (k := 2) (fun _ => rfl) m p
          have e := hmp.out
          rw [List.take_length] at e
          rw [e] at this
          exact this
        have hkl : Hid ((kp n l).length = p) := by
          have e := congrArg List.length hmp.out
          rw [List.take_length, List.length_take, Nat.min_eq_left (by rw [hml.out]; omega)] at e
          exact e.symm
        have hcap : l.length ≤ c := by
          obtain ⟨_, _, e, h1, _⟩ := own_src hrow
          cases e
          exact h1
        have hpc : ¬ c = p := by omega
        clear hrow hN
        go_wp2_with fail
        go_ret
        refine ⟨_, rfl, ?_⟩
        rw [hkl.out, ← hfin.out]
        refine hs2.step (L := []) (Only.refl _ _) (by simp) (row_head hs2.head (by omega)) (fun k hk => .inl hk)
  · have hR : fiR n l = -1 := if_neg hfi
    obtain ⟨ao, c, rfl⟩ := own_slice (show w.ownsRow 0 83 2 v l.length (flat l) from h.head)
    have hall : Hid (kp n l = l) := by
      refine List.filter_eq_self.2 fun x hx => ?_
      have h0 : ¬ (x.n ≤ n) := fun h => hfi (List.findIdx_lt_length_of_exists ⟨x, hx, by simpa using h⟩)
      simp only [decide_eq_true_eq]
      omega
    have hc := index_any Nb n _ l w h hl
    rw [hR] at hc
    have Hc := Lib.hid hc
    clear hc hR hfi
    go_enter Try.func48, Try.ntmps48
    go_wp2_with fail
    refine Hc.out.mono ?_
    rintro e w1 ⟨rfl, ho1⟩
    have hs := h.quiet ho1
    clear h Hc ho1
    go_wp2_with fail
    go_ret
    exact ⟨_, rfl, by rw [hall.out]; exact hs⟩

/-- What Ack leaves. -/
def Acked (w0 : World) (rs : List Res) (B : Nat) (l : List It) (last n : Int) (e : Ending) (w' : World) : Prop :=
  e = .returned (.int .i64 ((l.length : Int) - (kp n l).length)) ∧ ∃ v', Sep w0 w' (box B v' (kp n l) last :: rs)

theorem ack_nil (n : Int) (w : World) : Calls Try.prog 23 #[.pointer none, .int .u64 n] w fun e w' => e = .returned (.int .i64 0) ∧ Only w w' [] := by
  go_enter Try.func23, Try.ntmps23
  go_wp2
  go_ret
  exact ⟨rfl, Only.alloc _ _ _⟩

set_option maxHeartbeats 1600000 in
theorem ack_any {w0 : World} {rs : List Res} (B : Nat) (v : Value) (l : List It) (last n : Int) (w : World) (h : Sep w0 w (box B v l last :: rs)) (hl : l.length ≤ 1000000000) :
    Calls Try.prog 23 #[.pointer (some ⟨B, 0, none⟩), .int .u64 n] w (Acked w0 rs B l last n) := by
  obtain ⟨ao, c, rfl⟩ := box_slice (box_facts h).2.1
  go_enter Try.func23, Try.ntmps23
  have s1 := h.box [.int .u64 n] 43
  have hB := (box_facts s1.tail).1
  have h0 := cell_two0 hB
  go_wp2_with fail
  have s2 : Sep w0 (w.alloc (.cells #[.int .u64 n] 43)) (row 83 2 (.slice ao l.length c) l.length (flat l) :: blk w.heap.size [.int .u64 n] 43 :: many (l.map env) :: blk B [.slice ao l.length c, .int .u64 last] 71 :: rs) := by
    have t1 := ((s1.up 1 (by simp)).split.up 1 (by simp)).split
    exact (t1.up 3 (by simp)).perm ((List.Perm.swap _ _ _).trans (List.Perm.cons _ (List.Perm.cons _ (List.Perm.refl _))))
  refine (delete_any w.heap.size n _ l _ s2 hl).mono ?_
  rintro e w1 ⟨v1, rfl, s3⟩
  obtain ⟨a1, c1, rfl⟩ := own_slice (show w1.ownsRow 0 83 2 v1 (kp n l).length (flat (kp n l)) from s3.head)
  have hB1 : w1.heap[B]? = some (.cells #[.slice ao l.length c, .int .u64 last] 71 (0, 0)) := (s3.up 3 (by simp)).head
  have h0 := cell_two0 hB1
  have f0 := free_two hB1 0
  have s4 := (s3.up 3 (by simp)).put 0 (.slice a1 (kp n l).length c1)
  have s5 : Sep w0 (w1.setCell ⟨B, 0, none⟩ (.slice a1 (kp n l).length c1)) (box B (.slice a1 (kp n l).length c1) (kp n l) last :: rs) := by
    have t1 := (s4.up 2 (by simp)).tail
    have t2 := t1.up 2 (by simp)
    have t3 : Sep w0 _ (many ((kp n l).map env) :: blk B _ _ :: row _ _ _ _ _ :: rs) := t2.step (L := []) (Only.refl _ _) (by simp) (many_sub t2.head (List.Sublist.map _ List.filter_sublist)) (fun k hk => .inl (many_fp_sub (List.Sublist.map _ List.filter_sublist) k hk))
    have t4 := (t3.up 2 (by simp)).join
    exact (t4.up 1 (by simp)).join
  clear s1 s2 s3 s4 hB1 h hB
  have hB2 := (box_facts s5).1
  have hk0 : 0 ≤ ((kp n l).length : Int) := by omega
  have hk1 : ((kp n l).length : Int) ≤ 1000000000 := by have : (kp n l).length ≤ l.length := List.length_filter_le _ _; omega
  go_wp2_with fail
  go_ret
  exact ⟨rfl, _, s5⟩
end Go.Proofs.Yticojdepepkdlaa

