/- MailboxKeeps returns true for all bytes, numbers and bounds: what was put, and what was told, may be written over; a nil box has nothing. No condition. -/
import Derived.Test.YtjopgcbfahlmnaaBoxA
import Derived.Test.YtjopgcbfahlmnaaOpenS
import Derived.Test.YtjopgcbfahlmnaaSMailboxKeeps
namespace Go.Proofs.Ytjopgcbfahlmnaa
open Go.RowKit Go.Pw
set_option linter.unusedVariables false

/-- append to a slice that was made of one constant byte. -/
theorem app_const (w : World) (x : Int) (ty : TypeId) (p : Value) (ps : List Int) (hp : Src w p 1 ps.length (ps.map (Value.int .u8))) (hl : ps.length ≤ 1000000) :
    ∃ g c w' cur fr, (Builtin.append_ #[23, 23] ty #[.slice (some ⟨w.heap.size, 0, none⟩) 1 1, p]).run Try.prog (w.alloc (.cells #[.int .u8 x] 5 (1, 2))) = .ok (.slice (some ⟨g, 0, none⟩) (1 + ps.length) c) w' ∧
      w'.heap[g]? = some (.cells cur 5 fr) ∧ (fr = (0, 0) ∨ fr = (1, 2)) ∧ w.heap.size ≤ g ∧ Src w' (.slice (some ⟨g, 0, none⟩) (1 + ps.length) c) 1 (1 + ps.length) ((x :: ps).map (Value.int .u8)) ∧ Only w w' [] := by
  obtain ⟨i0, hi, hz0, hz1, hz2⟩ := info_parts Try.info5
  have hW : (w.alloc (.cells #[.int .u8 x] 5 (1, 2))).heap[w.heap.size]? = some (.cells #[.int .u8 x] 5 (1, 2)) := heap_alloc_new w _
  have hsx := src_litF w [.int .u8 x] 5 (1, 2) 1 1 rfl
  have hoW : Only w (w.alloc (.cells #[.int .u8 x] 5 (1, 2))) [] := Only.alloc w _ []
  have hpW := hp.off hoW (fun _ _ _ => by simp)
  obtain ⟨ap, cp, rfl, h1, h2, h3, h4, h5⟩ := hpW
  by_cases hm : ps = []
  · subst hm
    refine ⟨w.heap.size, 1, _, _, _, ?_, hW, .inr rfl, Nat.le_refl _, by simpa using hsx, hoW⟩
    cases ap <;> simp [Builtin.append_, run_underlying Try.underlying23, run_underlying Try.underlying5, sizeOf, typeInfo, hi, Builtin.lenOf, Builtin.firstCells, storeCells, loadCells, loadCellsFrom]
  · have hpos : 0 < ps.length := List.length_pos_iff.2 hm
    cases ap with
    | none => have := (h4 rfl).1; omega
    | some a =>
      have hr := run_append_grow (P := Try.prog) (w.alloc (.cells #[.int .u8 x] 5 (1, 2))) 23 ty 5 i0 _ Try.underlying23 hi hz0 ⟨w.heap.size, 0, none⟩ 1 1 [.int .u8 x] (by rw [hz1]; rfl) (fun j u hj => by
        cases j with
        | zero => simp at hj; subst hj; rw [Addr.add_lit, cell_in hW]; rfl
        | succ j => simp at hj) a ps.length cp (ps.map (.int .u8)) (by rw [hz1]; simp) (h5 a rfl) (by omega) (by omega) (growslice_fits (by omega) (by rw [hz2]; omega))
      have hb := heap_alloc_new (w.alloc (.cells #[.int .u8 x] 5 (1, 2))).drew (.cells ([Value.int .u8 x].toArray ++ (ps.map (Value.int .u8)).toArray ++ Builtin.zeroCells (Value.int IntKind.u8 0).cells (grownCap (w.alloc (.cells #[.int .u8 x] 5 (1, 2))) (1 + ps.length) 1 5 - (1 + ps.length))) 5)
      refine ⟨_, _, _, _, _, hr, hb, .inl rfl, by simp, ⟨_, _, rfl, grownCap_ge _ _ _ _, grownCap_le_maxLen _ _ _ _ (by unfold maxLen; omega), by simp; omega, by simp, fun b hb' j u hj => ?_⟩, (hoW.trans (Only.drew _ _)).trans (Only.alloc _ _ _)⟩
      obtain rfl := Option.some.inj hb'
      rw [Addr.add_lit]
      refine (cell_in hb (0 + j)).trans ?_
      rw [Nat.zero_add]
      simp only [List.map_cons] at hj
      have hlt := (List.getElem?_eq_some_iff.1 hj).1
      rw [Array.getElem?_append_left (by simp at hlt ⊢; omega)]
      simpa using hj

/-- A block that is there. -/
def some1 (g : Nat) : Res where
  fp := [g]
  ok w := g < w.heap.size
  loc w w' h k := by
    have := h g (by simp)
    rcases Nat.lt_or_ge g w'.heap.size with h' | h'
    · exact h'
    · rw [Array.getElem?_eq_none h', Array.getElem?_eq_getElem k] at this; cases this
  lt w h k hk := by obtain rfl : k = g := by simpa using hk
                    exact h
def blkF (g : Nat) (cs : Array Value) (T : TypeId) (fr : Nat × Nat) : Res where
  fp := [g]
  ok w := w.heap[g]? = some (.cells cs T fr)
  loc w w' h k := (h g (by simp)).trans k
  lt w h k hk := by obtain rfl : k = g := by simpa using hk
                    exact (Array.getElem?_eq_some_iff.1 h).1
def emp : Res where
  fp := []
  ok _ := True
  loc _ _ _ _ := trivial
  lt _ _ k hk := by simp at hk

theorem str_cons (ps : List Int) : (⟨#[120]⟩ : ByteArray) ++ strOfNums ps = strOfNums (120 :: ps) := by
  apply ByteArray.ext
  rw [ByteArray.data_append]
  simp [strOfNums]
theorem run_cons (ps : List Int) (hl : ps.length ≤ 1000000) (w : World) : (Op.stringOp .add ⟨#[120]⟩ (strOfNums ps)).run Try.prog w = .ok (.string (strOfNums (120 :: ps))) w := by
  rw [run_string_add_sum w _ _ (by rw [strOfNums_size]; simp [ByteArray.size]; omega), str_cons]

set_option maxRecDepth 100000 in
set_option maxHeartbeats 3200000 in
theorem keeps_walk (ap : Option Addr) (cp : Nat) (ps : List Int) (n most : Int) (w : World) (hp : Src w (.slice ap ps.length cp) 1 ps.length (ps.map (Value.int .u8))) (bp : ∀ x ∈ ps, 0 ≤ x ∧ x < 256) (hl : ps.length ≤ 300) :
    Calls Try.prog 5 #[.slice ap ps.length cp, .int .u64 n, .int .i64 most] w fun e w' => e = .returned (.bool true) ∧ Below w.heap.size w w' := by
  have d0 : decide ((300 : Int) < ps.length) = false := by simp; omega
  have kc := fun (w : World) (C : Array Value) (n c : Nat) => Lib.run_convert_bytes_const (P := Try.prog) w 23 5 C n c Try.underlying23 Try.underlying5
  go_enter Try.func5, Try.ntmps5
  go_wp2_with fail
  refine (awake18 _).mono ?_
  rintro e w1 ⟨rfl, h1⟩
  obtain ⟨g, cq, w2, cur, fr, hap, hg, hfr, hgs, hq, ho2⟩ := app_const w1 120 23 (.slice ap ps.length cp) ps (hp.off h1 (fun _ _ _ => by simp)) (by omega)
  have hap := Lib.hid hap
  go_wp2_with (at_builtin; refine wpList_append_run rfl _ _ 23 rfl _ _ rfl rfl hap.out ?_)
  have hsz2 : g < w2.heap.size := (Array.getElem?_eq_some_iff.1 hg).1
  have s0 : Sep w w2 [blkF g cur 5 fr] := ((Sep.nil w).quiet h1).add ho2 hg (fun k hk => by
    obtain rfl : k = g := by simpa [blkF] using hk
    exact hgs)
  have s1 := box_new s0
  have hq1 := hq.off (Only.alloc w2 (.cells #[.slice none 0 0, .int .u64 0] 31) []) (fun _ _ _ => by simp)
  have hc0 : cur[0]? = some (.int .u8 120) := by
    obtain ⟨_, _, e, _, _, _, _, h5⟩ := hq
    cases e
    have := h5 _ rfl 0 (.int .u8 120) (by simp)
    rw [Addr.add_lit, cell_in hg] at this
    exact this
  rw [show 1 + ps.length = (120 :: ps).length by simp [Nat.add_comm]] at hq1 ⊢
  refine (put_ok w2.heap.size _ [] 0 _ (120 :: ps) _ s1 (by simp) (by decide) hq1 (fun j hj => by simp [Value.ownBlock] at hj; omega) (by simp; omega)).mono ?_
  rintro e w3 ⟨rfl, v1, x1, hx1, t1⟩
  obtain ⟨xn, xa, xc, xb⟩ := x1
  simp only [ct, Prod.mk.injEq] at hx1
  obtain ⟨rfl, rfl⟩ := hx1
  generalize hB : w2.heap.size = B at *
  clear hB s0 s1 hq1 hq hap ho2 hg
  have hg3 : w3.heap[g]? = some (.cells cur 5 fr) := t1.tail.head
  have hcg : w3.cell? ⟨g, 0, none⟩ = some (.int .u8 120) := (cell_in hg3 0).trans hc0
  have hfg : w3.frozen? ⟨g, 0, none⟩ = false := by rcases hfr with rfl | rfl <;> simp [World.frozen?, hg3]
  have t2 := (t1.up 1 (by simp)).step (b := some1 g) (L := [g]) (Only.setCell w3 ⟨g, 0, none⟩ (.int .u8 121) [g] (by simp)) (fun k hk => .inl (by simpa [blkF] using hk)) (by have := (Array.getElem?_eq_some_iff.1 hg3).1; simpa [some1] using this) (fun k hk => .inl hk)
  have t2 := t2.up 1 (by simp)
  clear t1 hg3
  go_wp2_with fail
  clear hcg hfg
  refine (from_any B _ _ _ 0 1 _ t2 (by simp) (by simp; omega) (by decide) (by decide)).mono ?_
  rintro e w4 ⟨v4, l4, rfl, hl4, t4⟩
  have e2 : fromF 0 1 [] [((1 : Int), (120 :: ps))] = [(1, 120 :: ps)] := by simp [fromF]
  obtain ⟨a4, c4, rfl⟩ := ct_one (hl4.trans e2)
  clear hl4 e2 t2
  obtain ⟨hrow, henv⟩ := items_facts t4
  obtain ⟨a5, c5, rfl⟩ := own_slice hrow
  obtain ⟨g5, rfl, _⟩ := own_some hrow (by simp)
  have hev := henv ⟨1, a4, c4, 120 :: ps⟩ (by simp)
  obtain ⟨k0, k1⟩ := item_at hrow (k := 0) (by simp)
  simp only [ev, List.getElem_cons_zero, List.length_cons, List.length_nil, Nat.zero_mul, Nat.zero_add] at k0 k1 hev hrow t4 ⊢
  obtain ⟨g6, rfl, _⟩ := own_some hev (by simp)
  have ho4 := t4.only
  have k2 := hev.cellAt 0 (by simp)
  have f2 := hev.frozenAt 0
  simp only [List.map_cons, List.getElem?_cons_zero] at k2
  have k1d : ∀ n, (w4.drewN n).cell? ⟨g5, 1, none⟩ = some (.slice (some ⟨g6, 0, none⟩) (ps.length + 1) c4) := fun _ => k1
  have s1 := fun n => run_str (P := Try.prog) (w := w4.drewN n) (S := 23) (T := 9) Try.underlying23 Try.underlying5 Try.underlying9 ((own_src hev).off (Only.drewN w4 n []) (fun _ _ _ => by simp)) (by simp)
  have s2 := fun n => run_str (P := Try.prog) (w := w4.drewN n) (S := 23) (T := 9) Try.underlying23 Try.underlying5 Try.underlying9 (hp.off (ho4.trans (Only.drewN w4 n [])) (fun _ _ _ => by simp)) rfl
  have hadd := run_cons ps (by omega)
  have hxx : ((strOfNums (120 :: ps)).toList == (strOfNums (120 :: ps)).toList) = true := by simp
  go_wp2_with fail
  go_quiet (fail)
  go_wp2_with fail
  refine (put_nil _ _).mono ?_
  rintro e w5 ⟨rfl, rfl⟩
  have t5 : Sep w ((w4.drewN nq).setCell ⟨g6, 0, none⟩ (.int .u8 122)) [emp, box B v1 [⟨0 + 1, xa, xc, 120 :: ps⟩] (0 + 1), some1 g] := by
    refine (t4.quiet (Only.drewN w4 nq [])).step (b := emp) (L := [g6]) (Only.setCell _ _ _ _ (by simp)) (fun k hk => .inl ?_) trivial (fun k hk => by simp [emp] at hk)
    obtain rfl : k = g6 := by simpa using hk
    refine List.mem_append.2 (.inr (List.mem_flatMap.2 ⟨env ⟨1, some ⟨k, 0, none⟩, c4, 120 :: ps⟩, by simp, by simp [env, row, ev, Value.ownBlock]⟩))
  have t6 := t5.tail
  clear t4 t5 hrow henv hev k0 k1 k1d s1 s2 k2 f2
  generalize (w4.drewN nq).setCell ⟨g6, 0, none⟩ (.int .u8 122) = V at *
  go_wp2_with fail
  refine wp_region_held_drew (S := fun w' => Sep w w' [box B v1 [⟨0 + 1, xa, xc, 120 :: ps⟩] (0 + 1), some1 g]) (by kernel_rfl) (t6.quiet (Only.drew V [])) (fun hHeld => ?_)
  refine' wpAnyH_take (i := 0) (v := _) (op_at rfl) (by kernel_rfl) (by kernel_rfl) (by kernel_rfl) (fun _ _ _ h => h) (Or.inl ⟨by rfl, ?hy1⟩) (by assumption) ?rest1
  case hy1 =>
    intro w' hS
    go_simp
    try with_reducible rfl
  try simp only [Act.put, List.setIfInBounds_toArray, List.set_cons_zero, List.set_cons_succ]
  refine' wpAnyH_take (i := 6) (v := _) (op_at rfl) (by kernel_rfl) (by kernel_rfl) (by kernel_rfl) (fun _ _ _ h => h) (Or.inl ⟨by rfl, ?hy2⟩) (by assumption) ?rest2
  case hy2 =>
    intro w' hS
    go_simp
    try with_reducible rfl
  try simp only [Act.put, List.setIfInBounds_toArray, List.set_cons_zero, List.set_cons_succ]
  refine' wpAnyH_take (i := 7) (v := _) (op_at rfl) (by kernel_rfl) (by kernel_rfl) (by kernel_rfl) (fun _ _ _ h => h) (Or.inl ⟨by rfl, ?hy3⟩) (by assumption) ?rest3
  case hy3 =>
    intro w' hS
    have s2 := run_str (P := Try.prog) (S := 23) (T := 9) Try.underlying23 Try.underlying5 Try.underlying9 (hS.src hp) rfl
    go_simp
    try with_reducible rfl
  try simp only [Act.put, List.setIfInBounds_toArray, List.set_cons_zero, List.set_cons_succ]
  refine' wpAnyH_take (i := 8) (v := _) (op_at rfl) (by kernel_rfl) (by kernel_rfl) (by kernel_rfl) (fun _ _ _ h => h) (Or.inl ⟨by rfl, ?hy4⟩) (by assumption) ?rest4
  case hy4 =>
    intro w' hS
    have hadd := run_cons ps (by omega)
    go_simp
    try with_reducible rfl
  try simp only [Act.put, List.setIfInBounds_toArray, List.set_cons_zero, List.set_cons_succ]
  refine wpAnyH_ready (rs := [1]) (by kernel_rfl) (by simp) (AllReadyH.cons (op_at rfl) (fun K hK => ?_) AllReadyH.nil)
  go_simp
  refine (from_any B v1 _ _ 0 1 _ hHeld (by simp) (by simp; omega) (by decide) (by decide)).mono ?_
  rintro e w6 ⟨v6, l6, rfl, hl6, t7⟩
  have e3 : fromF 0 1 [] [((1 : Int), (120 :: ps))] = [(1, 120 :: ps)] := by simp [fromF]
  obtain ⟨a8, c8, rfl⟩ := ct_one (hl6.trans e3)
  clear hl6 e3
  obtain ⟨hrow, henv⟩ := items_facts t7
  obtain ⟨a7, c7, rfl⟩ := own_slice hrow
  obtain ⟨g7, rfl, _⟩ := own_some hrow (by simp)
  have hev := henv ⟨1, a8, c8, 120 :: ps⟩ (by simp)
  obtain ⟨g8, rfl, _⟩ := own_some hev (by simp)
  go_wp2_with fail
  refine hK.out _ _ (t7.tail) (fun hHeld => ?_)
  clear hK K
  try simp only [Act.put, List.setIfInBounds_toArray, List.set_cons_zero, List.set_cons_succ]
  refine wpAnyH_more (S' := fun w' => Sep w w' [itemsR (.slice (some ⟨g7, 0, none⟩) 1 c7) [⟨1, some ⟨g8, 0, none⟩, c8, 120 :: ps⟩], box B v1 [⟨0 + 1, xa, xc, 120 :: ps⟩] (0 + 1), some1 g]) (fun w' h => h.tail) _ _ _ _ ?_
  clear hHeld hrow henv hev
  have hHeld := t7
  refine' wpAnyH_take (i := 2) (v := _) (op_at rfl) (by kernel_rfl) (by kernel_rfl) (by kernel_rfl) (fun _ _ _ h => h) (Or.inl ⟨by rfl, ?hy5⟩) (by assumption) ?rest5
  case hy5 =>
    intro w' hS
    go_simp
    try with_reducible rfl
  try simp only [Act.put, List.setIfInBounds_toArray, List.set_cons_zero, List.set_cons_succ]
  refine' wpAnyH_take (i := 3) (v := _) (op_at rfl) (by kernel_rfl) (by kernel_rfl) (by kernel_rfl) (fun _ _ _ h => h) (Or.inl ⟨by rfl, ?hy6⟩) (by assumption) ?rest6
  case hy6 =>
    intro w' hS
    go_simp
    try with_reducible rfl
  try simp only [Act.put, List.setIfInBounds_toArray, List.set_cons_zero, List.set_cons_succ]
  refine' wpAnyH_take (i := 4) (v := _) (op_at rfl) (by kernel_rfl) (by kernel_rfl) (by kernel_rfl) (fun _ _ _ h => h) (Or.inl ⟨by rfl, ?hy7⟩) (by assumption) ?rest7
  case hy7 =>
    intro w' hS
    obtain ⟨hrow, henv⟩ := items_facts hS
    obtain ⟨_, k1⟩ := item_at hrow (k := 0) (by simp)
    simp only [ev, List.getElem_cons_zero, Nat.zero_mul, Nat.zero_add, List.length_cons] at k1
    go_simp
    try with_reducible rfl
  try simp only [Act.put, List.setIfInBounds_toArray, List.set_cons_zero, List.set_cons_succ]
  refine' wpAnyH_take (i := 5) (v := _) (op_at rfl) (by kernel_rfl) (by kernel_rfl) (by kernel_rfl) (fun _ _ _ h => h) (Or.inl ⟨by rfl, ?hy8⟩) (by assumption) ?rest8
  case hy8 =>
    intro w' hS
    obtain ⟨hrow, henv⟩ := items_facts hS
    have hev := henv ⟨1, some ⟨g8, 0, none⟩, c8, 120 :: ps⟩ (by simp)
    have s1 := run_str (P := Try.prog) (S := 23) (T := 9) Try.underlying23 Try.underlying5 Try.underlying9 (own_src hev) rfl
    simp only [ev, List.length_cons] at s1
    go_simp
    try with_reducible rfl
  try simp only [Act.put, List.setIfInBounds_toArray, List.set_cons_zero, List.set_cons_succ]
  refine' wpAnyH_take (i := 9) (v := _) (op_at rfl) (by kernel_rfl) (by kernel_rfl) (by kernel_rfl) (fun _ _ _ h => h) (Or.inl ⟨by rfl, ?hy9⟩) (by assumption) ?rest9
  case hy9 =>
    intro w' hS
    have hxx : ((strOfNums (120 :: ps)).toList == (strOfNums (120 :: ps)).toList) = true := by simp
    go_simp
    try with_reducible rfl
  try simp only [Act.put, List.setIfInBounds_toArray, List.set_cons_zero, List.set_cons_succ]
  refine' wpAnyH_take (i := 10) (v := _) (op_at rfl) (by kernel_rfl) (by kernel_rfl) (by kernel_rfl) (fun _ _ _ h => h) (Or.inl ⟨by rfl, ?hy10⟩) (by assumption) ?rest10
  case hy10 =>
    intro w' hS
    go_simp
    try with_reducible rfl
  try simp only [Act.put, List.setIfInBounds_toArray, List.set_cons_zero, List.set_cons_succ]
  refine' wpAnyH_take (i := 11) (v := _) (op_at rfl) (by kernel_rfl) (by kernel_rfl) (by kernel_rfl) (fun _ _ _ h => h) (Or.inl ⟨by rfl, ?hy11⟩) (by assumption) ?rest11
  case hy11 =>
    intro w' hS
    go_simp
    try with_reducible rfl
  try simp only [Act.put, List.setIfInBounds_toArray, List.set_cons_zero, List.set_cons_succ]
  refine' wpAnyH_take (i := 12) (v := _) (op_at rfl) (by kernel_rfl) (by kernel_rfl) (by kernel_rfl) (fun _ _ _ h => h) (Or.inl ⟨by rfl, ?hy12⟩) (by assumption) ?rest12
  case hy12 =>
    intro w' hS
    go_simp
    try with_reducible rfl
  try simp only [Act.put, List.setIfInBounds_toArray, List.set_cons_zero, List.set_cons_succ]
  refine' wpAnyH_take (i := 13) (v := _) (op_at rfl) (by kernel_rfl) (by kernel_rfl) (by kernel_rfl) (fun _ _ _ h => h) (Or.inl ⟨by rfl, ?hy13⟩) (by assumption) ?rest13
  case hy13 =>
    intro w' hS
    go_simp
    try with_reducible rfl
  try simp only [Act.put, List.setIfInBounds_toArray, List.set_cons_zero, List.set_cons_succ]
  refine' wpAnyH_take (i := 14) (v := _) (op_at rfl) (by kernel_rfl) (by kernel_rfl) (by kernel_rfl) (fun _ _ _ h => h) (Or.inl ⟨by rfl, ?hy14⟩) (by assumption) ?rest14
  case hy14 =>
    intro w' hS
    go_simp
    try with_reducible rfl
  try simp only [Act.put, List.setIfInBounds_toArray, List.set_cons_zero, List.set_cons_succ]
  refine' wpAnyH_take (i := 15) (v := _) (op_at rfl) (by kernel_rfl) (by kernel_rfl) (by kernel_rfl) (fun _ _ _ h => h) (Or.inl ⟨by rfl, ?hy15⟩) (by assumption) ?rest15
  case hy15 =>
    intro w' hS
    go_simp
    try with_reducible rfl
  try simp only [Act.put, List.setIfInBounds_toArray, List.set_cons_zero, List.set_cons_succ]
  refine' wpAnyH_take (i := 16) (v := _) (op_at rfl) (by kernel_rfl) (by kernel_rfl) (by kernel_rfl) (fun _ _ _ h => h) (Or.inl ⟨by rfl, ?hy16⟩) (by assumption) ?rest16
  case hy16 =>
    intro w' hS
    go_simp
    try with_reducible rfl
  try simp only [Act.put, List.setIfInBounds_toArray, List.set_cons_zero, List.set_cons_succ]
  refine' wpAnyH_take (i := 17) (v := _) (op_at rfl) (by kernel_rfl) (by kernel_rfl) (by kernel_rfl) (fun _ _ _ h => h) (Or.inl ⟨by rfl, ?hy17⟩) (by assumption) ?rest17
  case hy17 =>
    intro w' hS
    go_simp
    try with_reducible rfl
  try simp only [Act.put, List.setIfInBounds_toArray, List.set_cons_zero, List.set_cons_succ]
  refine wpAnyH_ready (rs := [18]) (by kernel_rfl) (by simp) (AllReadyH.cons (op_at rfl) (fun K hK => ?_) AllReadyH.nil)
  go_simp
  refine (from_nil _ _ _).mono ?_
  rintro e w' ⟨rfl, rfl⟩
  go_wp2_with fail
  refine hK.out _ _ (hHeld) (fun hHeld => ?_)
  clear hK K
  try simp only [Act.put, List.setIfInBounds_toArray, List.set_cons_zero, List.set_cons_succ]
  refine' wpAnyH_take (i := 19) (v := _) (op_at rfl) (by kernel_rfl) (by kernel_rfl) (by kernel_rfl) (fun _ _ _ h => h) (Or.inl ⟨by rfl, ?hy18⟩) (by assumption) ?rest18
  case hy18 =>
    intro w' hS
    go_simp
    try with_reducible rfl
  try simp only [Act.put, List.setIfInBounds_toArray, List.set_cons_zero, List.set_cons_succ]
  refine' wpAnyH_take (i := 20) (v := _) (op_at rfl) (by kernel_rfl) (by kernel_rfl) (by kernel_rfl) (fun _ _ _ h => h) (Or.inl ⟨by rfl, ?hy19⟩) (by assumption) ?rest19
  case hy19 =>
    intro w' hS
    go_simp
    try with_reducible rfl
  try simp only [Act.put, List.setIfInBounds_toArray, List.set_cons_zero, List.set_cons_succ]
  refine' wpAnyH_take (i := 21) (v := _) (op_at rfl) (by kernel_rfl) (by kernel_rfl) (by kernel_rfl) (fun _ _ _ h => h) (Or.inl ⟨by rfl, ?hy20⟩) (by assumption) ?rest20
  case hy20 =>
    intro w' hS
    go_simp
    try with_reducible rfl
  try simp only [Act.put, List.setIfInBounds_toArray, List.set_cons_zero, List.set_cons_succ]
  refine' wpAnyH_take (i := 22) (v := _) (op_at rfl) (by kernel_rfl) (by kernel_rfl) (by kernel_rfl) (fun _ _ _ h => h) (Or.inl ⟨by rfl, ?hy21⟩) (by assumption) ?rest21
  case hy21 =>
    intro w' hS
    go_simp
    try with_reducible rfl
  try simp only [Act.put, List.setIfInBounds_toArray, List.set_cons_zero, List.set_cons_succ]
  refine' wpAnyH_take (i := 23) (v := _) (op_at rfl) (by kernel_rfl) (by kernel_rfl) (by kernel_rfl) (fun _ _ _ h => h) (Or.inl ⟨by rfl, ?hy22⟩) (by assumption) ?rest22
  case hy22 =>
    intro w' hS
    go_simp
    try with_reducible rfl
  try simp only [Act.put, List.setIfInBounds_toArray, List.set_cons_zero, List.set_cons_succ]
  refine' wpAnyH_take (i := 24) (v := _) (op_at rfl) (by kernel_rfl) (by kernel_rfl) (by kernel_rfl) (fun _ _ _ h => h) (Or.inl ⟨by rfl, ?hy23⟩) (by assumption) ?rest23
  case hy23 =>
    intro w' hS
    go_simp
    try with_reducible rfl
  try simp only [Act.put, List.setIfInBounds_toArray, List.set_cons_zero, List.set_cons_succ]
  refine wpAnyH_ready (rs := [25]) (by kernel_rfl) (by simp) (AllReadyH.cons (op_at rfl) (fun K hK => ?_) AllReadyH.nil)
  go_simp
  refine (ack_nil _ _).mono ?_
  rintro e w8 ⟨rfl, ho8⟩
  go_wp2_with fail
  refine hK.out _ _ (hHeld.quiet ho8) (fun hHeld => ?_)
  clear hK K
  try simp only [Act.put, List.setIfInBounds_toArray, List.set_cons_zero, List.set_cons_succ]
  refine' wpAnyH_take (i := 26) (v := _) (op_at rfl) (by kernel_rfl) (by kernel_rfl) (by kernel_rfl) (fun _ _ _ h => h) (Or.inl ⟨by rfl, ?hy24⟩) (by assumption) ?rest24
  case hy24 =>
    intro w' hS
    go_simp
    try with_reducible rfl
  try simp only [Act.put, List.setIfInBounds_toArray, List.set_cons_zero, List.set_cons_succ]
  refine' wpAnyH_take (i := 27) (v := _) (op_at rfl) (by kernel_rfl) (by kernel_rfl) (by kernel_rfl) (fun _ _ _ h => h) (Or.inl ⟨by rfl, ?hy25⟩) (by assumption) ?rest25
  case hy25 =>
    intro w' hS
    go_simp
    try with_reducible rfl
  try simp only [Act.put, List.setIfInBounds_toArray, List.set_cons_zero, List.set_cons_succ]
  refine' wpAnyH_take (i := 28) (v := _) (op_at rfl) (by kernel_rfl) (by kernel_rfl) (by kernel_rfl) (fun _ _ _ h => h) (Or.inl ⟨by rfl, ?hy26⟩) (by assumption) ?rest26
  case hy26 =>
    intro w' hS
    go_simp
    try with_reducible rfl
  try simp only [Act.put, List.setIfInBounds_toArray, List.set_cons_zero, List.set_cons_succ]
  refine' wpAnyH_take (i := 29) (v := _) (op_at rfl) (by kernel_rfl) (by kernel_rfl) (by kernel_rfl) (fun _ _ _ h => h) (Or.inl ⟨by rfl, ?hy27⟩) (by assumption) ?rest27
  case hy27 =>
    intro w' hS
    go_simp
    try with_reducible rfl
  try simp only [Act.put, List.setIfInBounds_toArray, List.set_cons_zero, List.set_cons_succ]
  refine' wpAnyH_take (i := 31) (v := _) (op_at rfl) (by kernel_rfl) (by kernel_rfl) (by kernel_rfl) (fun _ _ _ h => h) (Or.inl ⟨by rfl, ?hy28⟩) (by assumption) ?rest28
  case hy28 =>
    intro w' hS
    go_simp
    try with_reducible rfl
  try simp only [Act.put, List.setIfInBounds_toArray, List.set_cons_zero, List.set_cons_succ]
  refine wpAnyH_ready (rs := [30]) (by kernel_rfl) (by simp) (AllReadyH.cons (op_at rfl) (fun K hK => ?_) AllReadyH.nil)
  go_simp
  refine (room_nil _).mono ?_
  rintro e w' ⟨rfl, rfl⟩
  go_wp2_with fail
  refine hK.out _ _ (hHeld) (fun hHeld => ?_)
  clear hK K
  try simp only [Act.put, List.setIfInBounds_toArray, List.set_cons_zero, List.set_cons_succ]
  refine wpAnyH_ready (rs := [32]) (by kernel_rfl) (by simp) (AllReadyH.cons (op_at rfl) (fun K hK => ?_) AllReadyH.nil)
  go_simp
  refine (len_nil _).mono ?_
  rintro e w' ⟨rfl, rfl⟩
  go_wp2_with fail
  refine hK.out _ _ (hHeld) (fun hHeld => ?_)
  clear hK K
  try simp only [Act.put, List.setIfInBounds_toArray, List.set_cons_zero, List.set_cons_succ]
  refine' wpAnyH_take (i := 33) (v := _) (op_at rfl) (by kernel_rfl) (by kernel_rfl) (by kernel_rfl) (fun _ _ _ h => h) (Or.inl ⟨by rfl, ?hy29⟩) (by assumption) ?rest29
  case hy29 =>
    intro w' hS
    go_simp
    try with_reducible rfl
  try simp only [Act.put, List.setIfInBounds_toArray, List.set_cons_zero, List.set_cons_succ]
  refine' wpAnyH_take (i := 34) (v := _) (op_at rfl) (by kernel_rfl) (by kernel_rfl) (by kernel_rfl) (fun _ _ _ h => h) (Or.inl ⟨by rfl, ?hy30⟩) (by assumption) ?rest30
  case hy30 =>
    intro w' hS
    go_simp
    try with_reducible rfl
  try simp only [Act.put, List.setIfInBounds_toArray, List.set_cons_zero, List.set_cons_succ]
  refine' wpAnyH_take (i := 35) (v := _) (op_at rfl) (by kernel_rfl) (by kernel_rfl) (by kernel_rfl) (fun _ _ _ h => h) (Or.inl ⟨by rfl, ?hy31⟩) (by assumption) ?rest31
  case hy31 =>
    intro w' hS
    go_simp
    try with_reducible rfl
  try simp only [Act.put, List.setIfInBounds_toArray, List.set_cons_zero, List.set_cons_succ]
  refine' wpAnyH_take (i := 36) (v := _) (op_at rfl) (by kernel_rfl) (by kernel_rfl) (by kernel_rfl) (fun _ _ _ h => h) (Or.inl ⟨by rfl, ?hy32⟩) (by assumption) ?rest32
  case hy32 =>
    intro w' hS
    go_simp
    try with_reducible rfl
  try simp only [Act.put, List.setIfInBounds_toArray, List.set_cons_zero, List.set_cons_succ]
  refine' wpAnyH_take (i := 37) (v := _) (op_at rfl) (by kernel_rfl) (by kernel_rfl) (by kernel_rfl) (fun _ _ _ h => h) (Or.inl ⟨by rfl, ?hy33⟩) (by assumption) ?rest33
  case hy33 =>
    intro w' hS
    go_simp
    try with_reducible rfl
  try simp only [Act.put, List.setIfInBounds_toArray, List.set_cons_zero, List.set_cons_succ]
  refine wpAnyH_ready (rs := [38]) (by kernel_rfl) (by simp) (AllReadyH.cons (op_at rfl) (fun K hK => ?_) AllReadyH.nil)
  go_simp
  refine (last_nil _).mono ?_
  rintro e w' ⟨rfl, rfl⟩
  go_wp2_with fail
  refine hK.out _ _ (hHeld) (fun hHeld => ?_)
  clear hK K
  try simp only [Act.put, List.setIfInBounds_toArray, List.set_cons_zero, List.set_cons_succ]
  refine' wpAnyH_take (i := 39) (v := _) (op_at rfl) (by kernel_rfl) (by kernel_rfl) (by kernel_rfl) (fun _ _ _ h => h) (Or.inl ⟨by rfl, ?hy34⟩) (by assumption) ?rest34
  case hy34 =>
    intro w' hS
    go_simp
    try with_reducible rfl
  try simp only [Act.put, List.setIfInBounds_toArray, List.set_cons_zero, List.set_cons_succ]
  refine' wpAnyH_take (i := 40) (v := _) (op_at rfl) (by kernel_rfl) (by kernel_rfl) (by kernel_rfl) (fun _ _ _ h => h) (Or.inl ⟨by rfl, ?hy35⟩) (by assumption) ?rest35
  case hy35 =>
    intro w' hS
    go_simp
    try with_reducible rfl
  try simp only [Act.put, List.setIfInBounds_toArray, List.set_cons_zero, List.set_cons_succ]
  refine' wpAnyH_take (i := 41) (v := _) (op_at rfl) (by kernel_rfl) (by kernel_rfl) (by kernel_rfl) (fun _ _ _ h => h) (Or.inl ⟨by rfl, ?hy36⟩) (by assumption) ?rest36
  case hy36 =>
    intro w' hS
    go_simp
    try with_reducible rfl
  try simp only [Act.put, List.setIfInBounds_toArray, List.set_cons_zero, List.set_cons_succ]
  refine wpAnyH_done (by kernel_rfl) ?_ _
  go_wp2_with fail
  go_ret
  exact ⟨rfl, hHeld.only.below (Nat.le_refl _) (by simp)⟩

set_option maxRecDepth 100000 in
set_option maxHeartbeats 1600000 in
theorem keeps_bail (ap : Option Addr) (lp cp : Nat) (n most : Int) (w : World) (h : 300 < lp) :
    Calls Try.prog 5 #[.slice ap lp cp, .int .u64 n, .int .i64 most] w fun e w' => e = .returned (.bool true) ∧ Below w.heap.size w w' := by
  have d0 : decide ((300 : Int) < lp) = true := by simp; omega
  go_enter Try.func5, Try.ntmps5
  go_wp2_with fail
  refine (awake18 _).mono ?_
  rintro e w1 ⟨rfl, h1⟩
  go_wp2_with fail
  refine (awake18 _).mono ?_
  rintro e w2 ⟨rfl, h2⟩
  go_wp2_with fail
  go_ret
  exact ⟨rfl, (h1.trans h2).below (Nat.le_refl _) (by simp)⟩

theorem mailboxKeeps_holds : Rows.MailboxKeepsSaid := mailboxKeeps.said fun H enc base W v0 v1 v2 d0 p0 d1 p1 d2 p2 h0 t0 h1 t1 h2 t2 => by
  obtain ⟨ap, cp, ps, rfl, hp, bp⟩ := open_bytes Try.underlying23 Try.underlying5 (by kernel_rfl) h0 t0
  obtain ⟨n, rfl, _, _, hw⟩ := Go.ChangeShapes.open_int Try.underlying29 h1 t1
  obtain ⟨m, rfl, _, _, hm⟩ := Go.ChangeShapes.open_int Try.underlying3 h2 t2
  by_cases hc : ps.length ≤ 300
  · exact keeps_walk ap cp ps n m W hp bp hc
  · exact keeps_bail ap _ cp n m W (by omega)
end Go.Proofs.Ytjopgcbfahlmnaa
