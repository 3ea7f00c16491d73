/- find of layer 16 (record). -/
import Derived.Test.YtdlbkdnpbcpjfaaBk
namespace Go.Proofs.Ytdlbkdnpbcpjfaa
open Go.RowKit Go.Pw
set_option linter.unusedVariables false

set_option maxRecDepth 100000 in
set_option maxHeartbeats 1600000 in
theorem find_nil (u d : Int) (w : World) :
    Calls Try.prog 27 #[.pointer none, wv u d] w fun e w' => e = .returned (.tuple #[.int .i64 0, .bool false]) ∧ Only w w' [] := by
  simp only [wv]
  go_enter Try.func27, Try.ntmps27
  go_wp2_with fail
  refine bodyPost_ret (v := .tuple #[.int .i64 0, .bool false]) (by simp [results, Try.results27, go_sem]) rfl ?_
  exact ⟨rfl, Only.alloc _ _ _⟩

set_option maxRecDepth 100000 in
set_option maxHeartbeats 1600000 in
theorem find_any {w0 : World} {rs : List Res} (B : Nat) (l : List Re) (v : Value) (u d : Int) (w : World) (h : Sep w0 w (row 36 7 v l.length (fl rc l) :: blk B [v] 68 :: rs)) (hl : l.length ≤ 1000000) (hr : Rise l) :
    Calls Try.prog 27 #[.pointer (some ⟨B, 0, none⟩), wv u d] w fun e w' => e = .returned (.tuple #[.int .i64 (placeL l u d), .bool (foundL l u d)]) ∧ Only w w' [] := by
  obtain ⟨ao, c, rfl⟩ := own_slice (show w.ownsRow 0 _ 7 v l.length (fl rc l) from h.head)
  simp only [wv]
  have hW : (w.alloc (.cells #[.int .i64 u, .int .i64 d] 26)).heap[w.heap.size]? = some (.cells #[.int .i64 u, .int .i64 d] 26 (0, 0)) := heap_alloc_new w _
  have sB := h.quiet (Only.alloc w (.cells #[.int .i64 u, .int .i64 d] 26) [])
  have o1 := Only.alloc w (.cells #[.int .i64 u, .int .i64 d] 26) []
  clear h
  go_enter Try.func27, Try.ntmps27
  go_upto_region 3 with fail
  generalize w.alloc (.cells #[.int .i64 u, .int .i64 d] 26) = W at *
  generalize w.heap.size = A at *
  refine wp_region_held_drew (S := fun w' => Only W.drew w' []) (by kernel_rfl) (Only.refl _ _) (fun hHeld => ?_)
  refine' wpAnyH_take (i := 0) (v := _) (op_at rfl) (by kernel_rfl) (by kernel_rfl) (by kernel_rfl) (fun _ _ _ h => h) (Or.inl ⟨by rfl, ?hy1⟩) (by assumption) ?rest1
  case hy1 =>
    intro w' hS
    go_simp
    try with_reducible rfl
  try simp only [Act.put, List.setIfInBounds_toArray, List.set_cons_zero, List.set_cons_succ]
  refine' wpAnyH_take (i := 1) (v := _) (op_at rfl) (by kernel_rfl) (by kernel_rfl) (by kernel_rfl) (fun _ _ _ h => h) (Or.inl ⟨by rfl, ?hy2⟩) (by assumption) ?rest2
  case hy2 =>
    intro w' hS
    go_simp
    try with_reducible rfl
  try simp only [Act.put, List.setIfInBounds_toArray, List.set_cons_zero, List.set_cons_succ]
  refine' wpAnyH_take (i := 2) (v := _) (op_at rfl) (by kernel_rfl) (by kernel_rfl) (by kernel_rfl) (fun _ _ _ h => h) (Or.inl ⟨by rfl, ?hy3⟩) (by assumption) ?rest3
  case hy3 =>
    intro w' hS
    go_simp
    try with_reducible rfl
  try simp only [Act.put, List.setIfInBounds_toArray, List.set_cons_zero, List.set_cons_succ]
  refine' wpAnyH_take (i := 3) (v := _) (op_at rfl) (by kernel_rfl) (by kernel_rfl) (by kernel_rfl) (fun _ _ _ h => h) (Or.inl ⟨by rfl, ?hy4⟩) (by assumption) ?rest4
  case hy4 =>
    intro w' hS
    have hc0 := cell_of_one ((sB.quiet ((Only.drew W []).trans hS)).tail.head)
    go_simp
    try with_reducible rfl
  try simp only [Act.put, List.setIfInBounds_toArray, List.set_cons_zero, List.set_cons_succ]
  refine' wpAnyH_take (i := 4) (v := _) (op_at rfl) (by kernel_rfl) (by kernel_rfl) (by kernel_rfl) (fun _ _ _ h => h) (Or.inl ⟨by rfl, ?hy5⟩) (by assumption) ?rest5
  case hy5 =>
    intro w' hS
    have ht := ((Only.drew W []).trans hS).at hW (by simp)
    have ht0 := cell_two0 ht
    have ht1 := cell_two1 ht
    go_simp
    try with_reducible rfl
  try simp only [Act.put, List.setIfInBounds_toArray, List.set_cons_zero, List.set_cons_succ]
  refine wpAnyH_ready (rs := [5]) (by kernel_rfl) (by simp) (AllReadyH.cons (op_at rfl) (fun K hK => ?_) AllReadyH.nil)
  go_simp
  refine (search_any l _ u d _ (sB.quiet ((Only.drew W []).trans hHeld)) hl hr).mono fun e w3 hq => ?_
  obtain ⟨rfl, o3⟩ := hq
  go_wp2_with fail
  refine hK.out _ _ o3 (fun hHeld => ?_)
  clear hK K
  try simp only [Act.put, List.setIfInBounds_toArray, List.set_cons_zero, List.set_cons_succ]
  refine' wpAnyH_take (i := 6) (v := _) (op_at rfl) (by kernel_rfl) (by kernel_rfl) (by kernel_rfl) (fun _ _ _ h => h) (Or.inl ⟨by rfl, ?hy6⟩) (by assumption) ?rest6
  case hy6 =>
    intro w' hS
    go_simp
    try with_reducible rfl
  try simp only [Act.put, List.setIfInBounds_toArray, List.set_cons_zero, List.set_cons_succ]
  refine' wpAnyH_take (i := 7) (v := _) (op_at rfl) (by kernel_rfl) (by kernel_rfl) (by kernel_rfl) (fun _ _ _ h => h) (Or.inl ⟨by rfl, ?hy7⟩) (by assumption) ?rest7
  case hy7 =>
    intro w' hS
    go_simp
    try with_reducible rfl
  try simp only [Act.put, List.setIfInBounds_toArray, List.set_cons_zero, List.set_cons_succ]
  refine' wpAnyH_take (i := 8) (v := _) (op_at rfl) (by kernel_rfl) (by kernel_rfl) (by kernel_rfl) (fun _ _ _ h => h) (Or.inl ⟨by rfl, ?hy8⟩) (by assumption) ?rest8
  case hy8 =>
    intro w' hS
    go_simp
    try with_reducible rfl
  try simp only [Act.put, List.setIfInBounds_toArray, List.set_cons_zero, List.set_cons_succ]
  refine' wpAnyH_take (i := 9) (v := _) (op_at rfl) (by kernel_rfl) (by kernel_rfl) (by kernel_rfl) (fun _ _ _ h => h) (Or.inl ⟨by rfl, ?hy9⟩) (by assumption) ?rest9
  case hy9 =>
    intro w' hS
    go_simp
    try with_reducible rfl
  try simp only [Act.put, List.setIfInBounds_toArray, List.set_cons_zero, List.set_cons_succ]
  refine wpAnyH_done (by kernel_rfl) ?_ _
  go_wp2_with fail
  refine bodyPost_ret (v := .tuple #[.int .i64 (placeL l u d), .bool (foundL l u d)]) (by simp [results, Try.results27, go_sem]) rfl ?_
  exact ⟨rfl, o1.trans ((Only.drew W []).trans hHeld)⟩
end Go.Proofs.Ytdlbkdnpbcpjfaa
