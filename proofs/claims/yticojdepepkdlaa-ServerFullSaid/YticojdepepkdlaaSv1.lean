/- How a Server of layer 19 (server) lies; New, Box, Link. Printed by gen_sv1.py. -/
import Derived.Test.YticojdepepkdlaaPi
import Derived.Test.YticojdepepkdlaaPd
import Derived.Test.YticojdepepkdlaaPb
set_option linter.unusedSimpArgs false
set_option linter.unusedVariables false
namespace Go.Proofs.Yticojdepepkdlaa
open Go.RowKit Go.Pw
set_option linter.unusedVariables false

/-- What was taken, as it lies. -/
structure Sn where
  u : Int
  d : Int
  n : Int
  to : Int
  av : Value
  ok : av.oneCell' = true
def sc (x : Sn) : List Value := [.int .i64 x.u, .int .i64 x.d, .int .u32 x.n, .int .i64 x.to, x.av]
theorem sc_len (x : Sn) : (sc x).length = 5 := rfl
theorem sc_one (x : Sn) : ∀ u ∈ sc x, u.oneCell' = true := by
  intro u hu
  simp only [sc, List.mem_cons, List.not_mem_nil, or_false] at hu
  rcases hu with rfl | rfl | rfl | rfl | rfl <;> first | exact x.ok | rfl
theorem sc_arr (x : Sn) : (sc x).toArray.all (·.oneCell') = true := all_oneCell_toArray (sc_one x)
abbrev sb (RB BM LM : Nat) (lv : Value) : List Value := [.pointer (some ⟨RB, 0, none⟩), .map (some BM), .map (some LM), lv]
/-- The server as it lies. -/
abbrev srvR (SB RB BM LM : Nat) (v : Value) (l : List Li) (bm lm : List ((Int × Int) × Value)) (lv : Value) (logs : List Sn) (rs : List Res) : List Res :=
  regR RB v l (blk SB (sb RB BM LM lv) 69 :: mapR BM bm :: mapR LM lm :: row 60 5 lv logs.length (fl sc logs) :: rs)
theorem sb_at {w : World} {SB RB BM LM : Nat} {lv : Value} (h : (blk SB (sb RB BM LM lv) 69).ok w) :
    w.cell? ⟨SB, 0, none⟩ = some (.pointer (some ⟨RB, 0, none⟩)) ∧ w.cell? ⟨SB, 1, none⟩ = some (.map (some BM)) ∧ w.cell? ⟨SB, 2, none⟩ = some (.map (some LM)) ∧ w.cell? ⟨SB, 3, none⟩ = some lv :=
  ⟨cell_in (show w.heap[SB]? = _ from h) 0, cell_in (show w.heap[SB]? = _ from h) 1, cell_in (show w.heap[SB]? = _ from h) 2, cell_in (show w.heap[SB]? = _ from h) 3⟩
theorem box_nil {w0 w : World} {rs : List Res} {X : Nat} (h : Sep w0 w (blk X [.slice none 0 0, .int .u64 0] 71 :: rs)) : Sep w0 w (box X (.slice none 0 0) [] 0 :: rs) := by
  have h1 := (h.many_nil.rown 83 2)
  have h2 : Sep w0 w (row 83 2 (.slice none 0 0) 0 [] :: many [] :: blk X [.slice none 0 0, .int .u64 0] 71 :: rs) := h1
  exact (h2.join.sel 2 [1, 0]).join
theorem regs_none {w0 w : World} {rs : List Res} {B : Nat} (h : Sep w0 w (blk B [.slice none 0 0] 86 :: rs)) : Sep w0 w (regR B (.slice none 0 0) [] rs) :=
  (h.many_nil.rown 95 14).sel 3 [0, 2, 1]

theorem map_new {w0 w : World} {rs : List Res} (h : Sep w0 w rs) : Sep w0 (w.alloc (.map #[] 0)) (mapR w.heap.size [] :: rs) :=
  h.add (Only.alloc _ _ _) ⟨#[], 0, heap_alloc_new w _, rfl⟩ (fun k hk => by simp [mapR] at hk; omega)
theorem snew_any (w : World) : Calls Try.prog 6 #[] w fun e w' => ∃ SB RB BM LM, e = .returned (.pointer (some ⟨SB, 0, none⟩)) ∧ Sep w w' (srvR SB RB BM LM (.slice none 0 0) [] [] [] (.slice none 0 0) [] []) := by
  go_enter Try.func6, Try.ntmps6
  go_wp2_with fail
  refine (new_any _).mono ?_
  rintro e w1 ⟨rfl, rfl⟩
  have s1 := (Sep.nil w).box [.slice none 0 0] 86
  generalize w.heap.size = RB at *
  generalize w.alloc (.cells [Value.slice none 0 0].toArray 86) = w1 at *
  go_wp2_with (first
    | (refine wpList_makeMap_new rfl 66 rfl ?_; intro BM w2 o2 l2 h2; have s2 := s1.add (b := mapR BM []) o2 ⟨#[], 0, h2, rfl⟩ (fun k hk => by simp [mapR] at hk; omega); clear s1)
    | (refine wpList_makeMap_new rfl 67 rfl ?_; intro LM w3 o3 l3 h3; have s3 := s2.add (b := mapR LM []) o3 ⟨#[], 0, h3, rfl⟩ (fun k hk => by simp [mapR] at hk; omega); clear s2)
    | (refine wpList_box_new rfl 69 _ rfl (.agg (sb RB BM LM (.slice none 0 0)).toArray) rfl ?_; intro SB w4 o4 l4 h4; have s4 := s3.add (b := blk SB (sb RB BM LM (.slice none 0 0)) 69) o4 h4 (fun k hk => by simp [blk] at hk; omega); clear s3))
  have s5 : Sep w w4 (regR RB (.slice none 0 0) [] (blk SB (sb RB BM LM (.slice none 0 0)) 69 :: mapR BM [] :: mapR LM [] :: [])) := regs_none (s4.sel 4 [3, 0, 2, 1])
  have s6 := (s5.rown 60 5).sel 7 [1, 2, 3, 4, 5, 6, 0]
  go_ret
  exact ⟨SB, RB, BM, LM, rfl, s6⟩

set_option maxRecDepth 100000 in
set_option maxHeartbeats 1600000 in
theorem sbox_any {w0 : World} {rs : List Res} (SB RB BM LM : Nat) (v : Value) (l : List Li) (bm lm : List ((Int × Int) × Value)) (lv : Value) (logs : List Sn) (u d : Int) (w : World) (h : Sep w0 w (srvR SB RB BM LM v l bm lm lv logs rs)) :
    Calls Try.prog 11 #[.pointer (some ⟨SB, 0, none⟩), wv u d] w fun e w' => e = .returned ((getM bm (u, d)).getD (.pointer none)) ∧ Only w w' [] := by
  have hsb := fun (w' : World) (o : Only w w' []) => sb_at ((h.quiet o).sel 4 [3]).head
  have hlk := fun (w' : World) (o : Only w w' []) => run_lookupW 66 51 (.pointer none) BM bm (u, d) ((h.quiet o).sel 5 [4]) Try.underlying66 (fun _ => by kernel_rfl)
  clear h
  simp only [wv]
  generalize (getM bm (u, d)).getD (.pointer none) = z at *
  go_enter Try.func11, Try.ntmps11
  go_upto_region 3 with ((refine wpList_box_new rfl 27 _ rfl (.agg #[.int .i64 u, .int .i64 d]) rfl ?_; intro Z wZ oZ hZl hZb))
  refine wp_region_held_drew (S := fun w' => Only wZ.drew w' []) (by kernel_rfl) (Only.refl _ _) (fun hHeld => ?_)
  refine' wpAnyH_take (i := 0) (v := _) (op_at rfl) (by kernel_rfl) (by kernel_rfl) (by kernel_rfl) (fun _ _ _ h => h) (Or.inl ⟨by rfl, ?hy1⟩) (by assumption) ?rest1
  case hy1 =>
    intro w' hS
    go_simp
    try with_reducible rfl
  try simp only [Act.put, List.setIfInBounds_toArray, List.set_cons_zero, List.set_cons_succ]
  refine' wpAnyH_take (i := 1) (v := _) (op_at rfl) (by kernel_rfl) (by kernel_rfl) (by kernel_rfl) (fun _ _ _ h => h) (Or.inl ⟨by rfl, ?hy2⟩) (by assumption) ?rest2
  case hy2 =>
    intro w' hS
    go_simp
    try with_reducible rfl
  try simp only [Act.put, List.setIfInBounds_toArray, List.set_cons_zero, List.set_cons_succ]
  refine' wpAnyH_take (i := 2) (v := _) (op_at rfl) (by kernel_rfl) (by kernel_rfl) (by kernel_rfl) (fun _ _ _ h => h) (Or.inl ⟨by rfl, ?hy3⟩) (by assumption) ?rest3
  case hy3 =>
    intro w' hS
    go_simp
    try with_reducible rfl
  try simp only [Act.put, List.setIfInBounds_toArray, List.set_cons_zero, List.set_cons_succ]
  refine' wpAnyH_take (i := 3) (v := _) (op_at rfl) (by kernel_rfl) (by kernel_rfl) (by kernel_rfl) (fun _ _ _ h => h) (Or.inl ⟨by rfl, ?hy4⟩) (by assumption) ?rest4
  case hy4 =>
    intro w' hS
    obtain ⟨c0, c1, c2, c3⟩ := hsb w' (oZ.trans ((Only.drew wZ []).trans hS))
    go_simp
    try with_reducible rfl
  try simp only [Act.put, List.setIfInBounds_toArray, List.set_cons_zero, List.set_cons_succ]
  refine' wpAnyH_take (i := 4) (v := _) (op_at rfl) (by kernel_rfl) (by kernel_rfl) (by kernel_rfl) (fun _ _ _ h => h) (Or.inl ⟨by rfl, ?hy5⟩) (by assumption) ?rest5
  case hy5 =>
    intro w' hS
    have ht := ((Only.drew wZ []).trans hS).at hZb (by simp)
    have ht0 := cell_two0 ht
    have ht1 := cell_two1 ht
    go_simp
    try with_reducible rfl
  try simp only [Act.put, List.setIfInBounds_toArray, List.set_cons_zero, List.set_cons_succ]
  refine' wpAnyH_take (i := 5) (v := _) (op_at rfl) (by kernel_rfl) (by kernel_rfl) (by kernel_rfl) (fun _ _ _ h => h) (Or.inl ⟨by rfl, ?hy6⟩) (by assumption) ?rest6
  case hy6 =>
    intro w' hS
    have hl_ : (Instr.lookup 66 (.map (some BM)) (.agg #[.int .i64 u, .int .i64 d]) false).run Try.prog w' = .ok z w' := hlk w' (oZ.trans ((Only.drew wZ []).trans hS))
    go_simp
    try with_reducible rfl
  try simp only [Act.put, List.setIfInBounds_toArray, List.set_cons_zero, List.set_cons_succ]
  refine' wpAnyH_take (i := 6) (v := _) (op_at rfl) (by kernel_rfl) (by kernel_rfl) (by kernel_rfl) (fun _ _ _ h => h) (Or.inl ⟨by rfl, ?hy7⟩) (by assumption) ?rest7
  case hy7 =>
    intro w' hS
    go_simp
    try with_reducible rfl
  try simp only [Act.put, List.setIfInBounds_toArray, List.set_cons_zero, List.set_cons_succ]
  refine wpAnyH_done (by kernel_rfl) ?_ _
  go_wp2_with fail
  go_ret
  exact ⟨rfl, oZ.trans ((Only.drew wZ []).trans hHeld)⟩
end Go.Proofs.Yticojdepepkdlaa
