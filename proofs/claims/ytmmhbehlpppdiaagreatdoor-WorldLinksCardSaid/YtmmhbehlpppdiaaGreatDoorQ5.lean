/- WorldLinks, by hand: Ky6, Rg2, Rg3, Rg4, Rg5, Rg6. -/
import Derived.Test.YtmmhbehlpppdiaaGreatDoorQ3
import Derived.Test.YtmmhbehlpppdiaaGreatDoorQ1
set_option linter.all false
namespace Go.Proofs.YtmmhbehlpppdiaaGreatDoor.Wl
open Go.RowKit Go.Pw
def IdentP (w0 : World) (PB TB TM KB : Nat) (k : Nat) (m : Int) (sv : Value) (cs : List Value) (rs : List Res) (e : Ending) (w' : World) : Prop :=
  ∃ (p1 p2 : Option Addr) (q1 q2 : Nat) (v' : Value) (l' : List Tm) (m' : Int), e = .returned (.agg #[.slice p1 32 q1, .slice p2 32 q2]) ∧ k ≤ l'.length ∧ l'.length ≤ k + 4 ∧ m ≤ m' ∧ m' ≤ m ∧
    Sep w0 w' (primR PB TB TM v' l' sv m' (blk KB cs 176 :: byR (.slice p1 32 q1) 32 :: byR (.slice p2 32 q2) 32 :: rs))
set_option maxRecDepth 100000 in
set_option maxHeartbeats 4000000 in
theorem ident_any {w0 : World} {rs : List Res} (PB TB TM KB : Nat) (v : Value) (l : List Tm) (sv : Value) (m : Int) (u d : Int) (ag sg kv ov mv : Value) (nx : Int) (w : World) (h : Sep w0 w (primR PB TB TM v l sv m (blk KB (kc u d ag sg kv ov nx mv) 176 :: rs))) (hI : ItoaOK w0) (hl : l.length ≤ 700000) (hin1 : byR ag 32 ∈ rs) (hin2 : byR sg 32 ∈ rs) :
    Calls Tryz.prog 136 #[.pointer (some ⟨KB, 0, none⟩), .pointer (some ⟨PB, 0, none⟩)] w (IdentP w0 PB TB TM KB l.length m sv (kc u d ag sg kv ov nx mv) rs) := by
  go_enter Tryz.func136, Tryz.ntmps136
  go_upto_region 3 with (refine wpList_alloc_new rfl 86 rfl (.agg #[.slice none 0 0, .slice none 0 0]) (fun _ => by kernel_rfl) ?_; intro I wX oX lX bX)
  have sR := ((h.add (b := blk I [.slice none 0 0, .slice none 0 0] 86) oX bX (fun k hk => by simp [blk] at hk; omega)).sel 6 [1, 2, 3, 4, 5, 0]).quiet (Only.drew wX [])
  clear h oX lX bX
  refine wp_region_u (S := fun w' => w'.heap[KB]? = some (.cells (kc u d ag sg kv ov nx mv).toArray 176 (0, 0))) 13 [] (by kernel_rfl) (by kernel_rfl) (sR.get 6 rfl) (fun hZ hHeld => ?_)
  refine' wpAnyU_take (i := 0) (v := _) hZ (op_at' rfl) (by kernel_rfl) (by kernel_rfl) (by kernel_rfl) (by kernel_rfl) (by kernel_rfl) (fun _ _ _ h => h) (Or.inl ⟨by rfl, ?hy1⟩) (by assumption) ?rest1
  case hy1 =>
    intro w' hS
    go_simp
    try with_reducible rfl
  try simp only [Act.put, List.setIfInBounds_toArray, List.set_cons_zero, List.set_cons_succ]
  refine' wpAnyU_take (i := 1) (v := _) hZ (op_at' rfl) (by kernel_rfl) (by kernel_rfl) (by kernel_rfl) (by kernel_rfl) (by kernel_rfl) (fun _ _ _ h => h) (Or.inl ⟨by rfl, ?hy2⟩) (by assumption) ?rest2
  case hy2 =>
    intro w' hS
    go_simp
    try with_reducible rfl
  try simp only [Act.put, List.setIfInBounds_toArray, List.set_cons_zero, List.set_cons_succ]
  refine' wpAnyU_take (i := 2) (v := _) hZ (op_at' rfl) (by kernel_rfl) (by kernel_rfl) (by kernel_rfl) (by kernel_rfl) (by kernel_rfl) (fun _ _ _ h => h) (Or.inl ⟨by rfl, ?hy3⟩) (by assumption) ?rest3
  case hy3 =>
    intro w' hS
    go_simp
    try with_reducible rfl
  try simp only [Act.put, List.setIfInBounds_toArray, List.set_cons_zero, List.set_cons_succ]
  refine' wpAnyU_take (i := 3) (v := _) hZ (op_at' rfl) (by kernel_rfl) (by kernel_rfl) (by kernel_rfl) (by kernel_rfl) (by kernel_rfl) (fun _ _ _ h => h) (Or.inl ⟨by rfl, ?hy4⟩) (by assumption) ?rest4
  case hy4 =>
    intro w' hS
    go_simp
    try with_reducible rfl
  try simp only [Act.put, List.setIfInBounds_toArray, List.set_cons_zero, List.set_cons_succ]
  refine' wpAnyU_take (i := 4) (v := _) hZ (op_at' rfl) (by kernel_rfl) (by kernel_rfl) (by kernel_rfl) (by kernel_rfl) (by kernel_rfl) (fun _ _ _ h => h) (Or.inl ⟨by rfl, ?hy5⟩) (by assumption) ?rest5
  case hy5 =>
    intro w' hS
    obtain ⟨c0, c1, c2, c3, c4, c5, c6, c7⟩ := kc_at hS
    go_simp
    try with_reducible rfl
  try simp only [Act.put, List.setIfInBounds_toArray, List.set_cons_zero, List.set_cons_succ]
  refine' wpAnyU_take (i := 6) (v := _) hZ (op_at' rfl) (by kernel_rfl) (by kernel_rfl) (by kernel_rfl) (by kernel_rfl) (by kernel_rfl) (fun _ _ _ h => h) (Or.inl ⟨by rfl, ?hy6⟩) (by assumption) ?rest6
  case hy6 =>
    intro w' hS
    go_simp
    try with_reducible rfl
  try simp only [Act.put, List.setIfInBounds_toArray, List.set_cons_zero, List.set_cons_succ]
  refine' wpAnyU_take (i := 7) (v := _) hZ (op_at' rfl) (by kernel_rfl) (by kernel_rfl) (by kernel_rfl) (by kernel_rfl) (by kernel_rfl) (fun _ _ _ h => h) (Or.inl ⟨by rfl, ?hy7⟩) (by assumption) ?rest7
  case hy7 =>
    intro w' hS
    go_simp
    try with_reducible rfl
  try simp only [Act.put, List.setIfInBounds_toArray, List.set_cons_zero, List.set_cons_succ]
  refine' wpAnyU_take (i := 8) (v := _) hZ (op_at' rfl) (by kernel_rfl) (by kernel_rfl) (by kernel_rfl) (by kernel_rfl) (by kernel_rfl) (fun _ _ _ h => h) (Or.inl ⟨by rfl, ?hy8⟩) (by assumption) ?rest8
  case hy8 =>
    intro w' hS
    go_simp
    try with_reducible rfl
  try simp only [Act.put, List.setIfInBounds_toArray, List.set_cons_zero, List.set_cons_succ]
  refine' wpAnyU_take (i := 9) (v := _) hZ (op_at' rfl) (by kernel_rfl) (by kernel_rfl) (by kernel_rfl) (by kernel_rfl) (by kernel_rfl) (fun _ _ _ h => h) (Or.inl ⟨by rfl, ?hy9⟩) (by assumption) ?rest9
  case hy9 =>
    intro w' hS
    go_simp
    try with_reducible rfl
  try simp only [Act.put, List.setIfInBounds_toArray, List.set_cons_zero, List.set_cons_succ]
  refine' wpAnyU_take (i := 10) (v := _) hZ (op_at' rfl) (by kernel_rfl) (by kernel_rfl) (by kernel_rfl) (by kernel_rfl) (by kernel_rfl) (fun _ _ _ h => h) (Or.inl ⟨by rfl, ?hy10⟩) (by assumption) ?rest10
  case hy10 =>
    intro w' hS
    obtain ⟨c0, c1, c2, c3, c4, c5, c6, c7⟩ := kc_at hS
    go_simp
    try with_reducible rfl
  try simp only [Act.put, List.setIfInBounds_toArray, List.set_cons_zero, List.set_cons_succ]
  refine wpAnyU_one (i := 5) (by kernel_rfl) (op_at' rfl) (fun K hK => ?_)
  go_simp
  refine (public_any PB TB TM v l sv m ag 32 _ sR hI (by omega) (by simp [hin1]) (by decide)).mono ?_
  rintro e w5 ⟨r1, v5, l5, m5, rfl, a5, b5, c5, d5, s5⟩
  obtain ⟨p1, q1, rfl⟩ := by_slice (s5.get 5 rfl)
  go_wp2_with fail
  refine hK.out _ _ (s5.get 7 rfl) (fun hHeld => ?_)
  clear hK K
  try simp only [Act.put, List.setIfInBounds_toArray, List.set_cons_zero, List.set_cons_succ]
  refine wpAnyU_one (i := 11) (by kernel_rfl) (op_at' rfl) (fun K hK => ?_)
  go_simp
  refine (signkey_any PB TB TM v5 l5 sv m5 sg 32 _ s5 hI (by omega) (by simp [hin2]) (by decide)).mono ?_
  rintro e w11 ⟨r2, v11, l11, m11, rfl, a11, b11, c11, d11, s11⟩
  obtain ⟨p2, q2, rfl⟩ := by_slice (s11.get 5 rfl)
  go_wp2_with fail
  refine hK.out _ _ (s11.get 8 rfl) (fun hHeld => ?_)
  clear hK K
  try simp only [Act.put, List.setIfInBounds_toArray, List.set_cons_zero, List.set_cons_succ]
  refine' wpAnyU_take (i := 12) (v := _) hZ (op_at' rfl) (by kernel_rfl) (by kernel_rfl) (by kernel_rfl) (by kernel_rfl) (by kernel_rfl) (fun _ _ _ h => h) (Or.inl ⟨by rfl, ?hy11⟩) (by assumption) ?rest11
  case hy11 =>
    intro w' hS
    go_simp
    try with_reducible rfl
  try simp only [Act.put, List.setIfInBounds_toArray, List.set_cons_zero, List.set_cons_succ]
  refine wpAnyU_next (i := 13) (by kernel_rfl) (by simp) (op_at' rfl) (fun K hK => ?_)
  refine step_store_blk (by rfl) 86 _ _ (by rfl) I 0 (.agg #[.slice p1 32 q1, .slice p2 32 q2]) [.slice p1 32 q1, .slice p2 32 q2] [.slice none 0 0, .slice none 0 0] 86 (by rfl) (by rfl) (by rfl) (s11.sel 9 [7, 0, 1, 2, 3, 4, 5, 6, 8]) (by simp) (by kernel_rfl) (by simp [Value.oneCell']) (fun w13 o13 s13 => ?_)
  go_wp2_with fail
  refine hK.out _ _ ?_
  clear hK K
  try simp only [Act.put, List.setIfInBounds_toArray, List.set_cons_zero, List.set_cons_succ]
  refine wpAnyU_done (by kernel_rfl) ?_ _
  have hI2 : w13.heap[I]? = some (.cells [Value.slice p1 32 q1, .slice p2 32 q2].toArray 86 (0, 0)) := s13.get 0 rfl
  have d0 := cell_in hI2 0
  have d1 := cell_in hI2 1
  have sF := s13.sel 9 [1, 2, 3, 4, 5, 8, 7, 6]
  clear s13 s11 s5 sR hHeld hI2
  go_wp2_with fail
  refine bodyPost_ret (v := .agg #[.slice p1 32 q1, .slice p2 32 q2]) (by simp [results, Tryz.results136, go_sem, d0, d1]) rfl ?_
  exact ⟨p1, p2, q1, q2, v11, l11, m11, rfl, by omega, by omega, by omega, by omega, sF⟩

set_option maxRecDepth 100000 in
theorem kwho_any (KB : Nat) (u d : Int) (ag sg kv ov mv : Value) (nx : Int) (w : World) (h : w.heap[KB]? = some (.cells (kc u d ag sg kv ov nx mv).toArray 176 (0, 0))) :
    Calls Tryz.prog 35 #[.pointer (some ⟨KB, 0, none⟩)] w fun e w' => e = .returned (wv u d) ∧ Only w w' [] := by
  have hrg : ∀ w', Only w w' [] → w'.rangeAt KB 0 [.int .i64 u, .int .i64 d] := fun w' o j x hx => by
    have hb := o.at h (by simp)
    have hj : j < 2 := (List.getElem?_eq_some_iff.1 hx).1
    rw [Nat.zero_add, cell_in hb]
    have : j = 0 ∨ j = 1 := by omega
    rcases this with rfl | rfl <;> simpa using hx
  go_enter Tryz.func35, Tryz.ntmps35
  go_wp2_with (first
    | (refine wpList_alloc_new rfl 40 rfl (.agg #[.int .i64 0, .int .i64 0]) (fun _ => by kernel_rfl) ?_; intro X wX oX lX bX)
    | (refine wpList_load_mid rfl 40 _ rfl KB 0 rfl [.int .i64 u, .int .i64 d] _ (hrg _ oX) Tryz.underlying40 (by rfl) (by kernel_rfl) ?_)
    | (refine wpList_store_blk rfl 40 _ _ rfl X [.int .i64 u, .int .i64 d] rfl rfl bX rfl (by kernel_rfl) (by simp [Value.oneCell']) ?_; intro wY oY bY))
  have d0 := cell_two0 bY
  have d1 := cell_two1 bY
  refine bodyPost_ret (v := wv u d) (by simp [results, Tryz.results35, go_sem, d0, d1, wv]) rfl ?_
  exact ⟨rfl, oX.new oY (fun k hk => by simp only [List.mem_singleton] at hk; omega)⟩
end Go.Proofs.YtmmhbehlpppdiaaGreatDoor.Wl
namespace Go.Proofs.YtmmhbehlpppdiaaGreatDoor
open Go.RowKit Go.Pw

set_option maxRecDepth 100000 in
set_option maxHeartbeats 1600000 in
theorem find_any {w0 : World} {rs : List Res} (B : Nat) (l : List Li) (v : Value) (u d : Int) (w : World) (h : Sep w0 w (row 90 14 v l.length (fl lc l) :: blk B [v] 93 :: rs)) (hl : l.length ≤ 1000000) (hr : Rise l) :
    Calls Tryz.prog 34 #[.pointer (some ⟨B, 0, none⟩), wv u d] w fun e w' => e = .returned (.tuple #[.int .i64 (placeL l u d), .bool (foundL l u d)]) ∧ Only w w' [] := by
  obtain ⟨ao, c, rfl⟩ := own_slice (show w.ownsRow 0 _ 14 v l.length (fl lc l) from h.head)
  simp only [wv]
  have hW : (w.alloc (.cells #[.int .i64 u, .int .i64 d] 40)).heap[w.heap.size]? = some (.cells #[.int .i64 u, .int .i64 d] 40 (0, 0)) := heap_alloc_new w _
  have sB := h.quiet (Only.alloc w (.cells #[.int .i64 u, .int .i64 d] 40) [])
  have o1 := Only.alloc w (.cells #[.int .i64 u, .int .i64 d] 40) []
  clear h
  go_enter Tryz.func34, Tryz.ntmps34
  go_upto_region 3 with fail
  generalize w.alloc (.cells #[.int .i64 u, .int .i64 d] 40) = W at *
  generalize w.heap.size = A at *
  refine wp_region_held_drew (S := fun w' => Only W.drew w' []) (by kernel_rfl) (Only.refl _ _) (fun hHeld => ?_)
  refine' wpAnyH_take (i := 0) (v := _) (op_at rfl) (by kernel_rfl) (by kernel_rfl) (by kernel_rfl) (fun _ _ _ h => h) (Or.inl ⟨by rfl, ?hy1⟩) (by assumption) ?rest1
  case hy1 =>
    intro w' hS
    go_simp
    try with_reducible rfl
  try simp only [Act.put, List.setIfInBounds_toArray, List.set_cons_zero, List.set_cons_succ]
  refine' wpAnyH_take (i := 1) (v := _) (op_at rfl) (by kernel_rfl) (by kernel_rfl) (by kernel_rfl) (fun _ _ _ h => h) (Or.inl ⟨by rfl, ?hy2⟩) (by assumption) ?rest2
  case hy2 =>
    intro w' hS
    go_simp
    try with_reducible rfl
  try simp only [Act.put, List.setIfInBounds_toArray, List.set_cons_zero, List.set_cons_succ]
  refine' wpAnyH_take (i := 2) (v := _) (op_at rfl) (by kernel_rfl) (by kernel_rfl) (by kernel_rfl) (fun _ _ _ h => h) (Or.inl ⟨by rfl, ?hy3⟩) (by assumption) ?rest3
  case hy3 =>
    intro w' hS
    go_simp
    try with_reducible rfl
  try simp only [Act.put, List.setIfInBounds_toArray, List.set_cons_zero, List.set_cons_succ]
  refine' wpAnyH_take (i := 3) (v := _) (op_at rfl) (by kernel_rfl) (by kernel_rfl) (by kernel_rfl) (fun _ _ _ h => h) (Or.inl ⟨by rfl, ?hy4⟩) (by assumption) ?rest4
  case hy4 =>
    intro w' hS
    have hc0 := cell_of_one ((sB.quiet ((Only.drew W []).trans hS)).tail.head)
    go_simp
    try with_reducible rfl
  try simp only [Act.put, List.setIfInBounds_toArray, List.set_cons_zero, List.set_cons_succ]
  refine' wpAnyH_take (i := 4) (v := _) (op_at rfl) (by kernel_rfl) (by kernel_rfl) (by kernel_rfl) (fun _ _ _ h => h) (Or.inl ⟨by rfl, ?hy5⟩) (by assumption) ?rest5
  case hy5 =>
    intro w' hS
    have ht := ((Only.drew W []).trans hS).at hW (by simp)
    have ht0 := cell_two0 ht
    have ht1 := cell_two1 ht
    go_simp
    try with_reducible rfl
  try simp only [Act.put, List.setIfInBounds_toArray, List.set_cons_zero, List.set_cons_succ]
  refine wpAnyH_ready (rs := [5]) (by kernel_rfl) (by simp) (AllReadyH.cons (op_at rfl) (fun K hK => ?_) AllReadyH.nil)
  go_simp
  refine (search_any l _ u d _ (sB.quiet ((Only.drew W []).trans hHeld)) hl hr).mono fun e w3 hq => ?_
  obtain ⟨rfl, o3⟩ := hq
  go_wp2_with fail
  refine hK.out _ _ o3 (fun hHeld => ?_)
  clear hK K
  try simp only [Act.put, List.setIfInBounds_toArray, List.set_cons_zero, List.set_cons_succ]
  refine' wpAnyH_take (i := 6) (v := _) (op_at rfl) (by kernel_rfl) (by kernel_rfl) (by kernel_rfl) (fun _ _ _ h => h) (Or.inl ⟨by rfl, ?hy6⟩) (by assumption) ?rest6
  case hy6 =>
    intro w' hS
    go_simp
    try with_reducible rfl
  try simp only [Act.put, List.setIfInBounds_toArray, List.set_cons_zero, List.set_cons_succ]
  refine' wpAnyH_take (i := 7) (v := _) (op_at rfl) (by kernel_rfl) (by kernel_rfl) (by kernel_rfl) (fun _ _ _ h => h) (Or.inl ⟨by rfl, ?hy7⟩) (by assumption) ?rest7
  case hy7 =>
    intro w' hS
    go_simp
    try with_reducible rfl
  try simp only [Act.put, List.setIfInBounds_toArray, List.set_cons_zero, List.set_cons_succ]
  refine' wpAnyH_take (i := 8) (v := _) (op_at rfl) (by kernel_rfl) (by kernel_rfl) (by kernel_rfl) (fun _ _ _ h => h) (Or.inl ⟨by rfl, ?hy8⟩) (by assumption) ?rest8
  case hy8 =>
    intro w' hS
    go_simp
    try with_reducible rfl
  try simp only [Act.put, List.setIfInBounds_toArray, List.set_cons_zero, List.set_cons_succ]
  refine' wpAnyH_take (i := 9) (v := _) (op_at rfl) (by kernel_rfl) (by kernel_rfl) (by kernel_rfl) (fun _ _ _ h => h) (Or.inl ⟨by rfl, ?hy9⟩) (by assumption) ?rest9
  case hy9 =>
    intro w' hS
    go_simp
    try with_reducible rfl
  try simp only [Act.put, List.setIfInBounds_toArray, List.set_cons_zero, List.set_cons_succ]
  refine wpAnyH_done (by kernel_rfl) ?_ _
  go_wp2_with fail
  refine bodyPost_ret (v := .tuple #[.int .i64 (placeL l u d), .bool (foundL l u d)]) (by simp [results, Tryz.results34, go_sem]) rfl ?_
  exact ⟨rfl, o1.trans ((Only.drew W []).trans hHeld)⟩
def isL (l : List Li) (u d : Int) : Bool := foundL l u d && (match l[placeL l u d]? with | some x => x.on | none => false)

set_option maxRecDepth 100000 in
set_option maxHeartbeats 1600000 in
theorem is_any {w0 : World} {rs : List Res} (B : Nat) (l : List Li) (v : Value) (u d : Int) (w : World) (h : Sep w0 w (row 90 14 v l.length (fl lc l) :: blk B [v] 93 :: rs)) (hl : l.length ≤ 1000000) (hr : Rise l) :
    Calls Tryz.prog 11 #[.pointer (some ⟨B, 0, none⟩), wv u d] w fun e w' => e = .returned (.bool (isL l u d)) ∧ Only w w' [] := by
  obtain ⟨ao, c, rfl⟩ := own_slice (show w.ownsRow 0 _ 14 v l.length (fl lc l) from h.head)
  have oA := Only.alloc w (.cells #[.int .i64 u, .int .i64 d] 40) []
  have sB := h.quiet oA
  clear h
  have Hfind := find_any B l _ u d _ sB hl hr
  have hI : isL l u d = (foundL l u d && (match l[placeL l u d]? with | some x => x.on | none => false)) := rfl
  simp only [wv] at *
  rw [hI]
  clear hI
  cases hf : foundL l u d with
  | true =>
    obtain ⟨hk, _⟩ := found_at hf
    rw [hf] at Hfind
    rw [List.getElem?_eq_getElem hk]
    simp only [Bool.true_and]
    generalize placeL l u d = k at *
    obtain ⟨g, rfl, _⟩ := own_some (show (w.alloc (.cells #[.int .i64 u, .int .i64 d] 40)).ownsRow 0 _ 14 (.slice ao l.length c) l.length (fl lc l) from sB.head) (by omega)
    have hE := fun w1 (h1 : Sep w0 w1 (row 90 14 (.slice (some ⟨g, 0, none⟩) l.length c) l.length (fl lc l) :: blk B [.slice (some ⟨g, 0, none⟩) l.length c] 93 :: rs)) => rec_cell lc_len h1.head hk 2 (v := .bool l[k].on) rfl
    generalize l[k] = x at *
    go_enter Tryz.func11, Tryz.ntmps11
    go_wp2_with fail
    refine Hfind.mono ?_
    rintro e w1 ⟨rfl, o1⟩
    have s1 := sB.quiet o1
    have hc := hE w1 s1
    have hBc := cell_of_one s1.tail.head
    have oF := oA.trans o1
    clear sB hE s1 o1 oA
    go_wp2_with fail
    go_ret
    exact ⟨rfl, oF⟩
  | false =>
    rw [hf] at Hfind
    simp only [Bool.false_and]
    go_enter Tryz.func11, Tryz.ntmps11
    go_wp2_with fail
    refine Hfind.mono ?_
    rintro e w1 ⟨rfl, o1⟩
    have oF := oA.trans o1
    clear sB o1 oA
    go_wp2_with fail
    go_ret
    exact ⟨rfl, oF⟩
def Whos (ws : List (Int × Int)) (w : World) (e : Ending) (w' : World) : Prop := ∃ ao c, e = .returned (.slice ao ws.length c) ∧ Sep w w' [row 40 2 (.slice ao ws.length c) ws.length (fl wc ws)]
theorem who_info : (Tryz.prog.info? 40).map (fun i => (i.zero, i.size, i.bytes)) = some (some (.agg #[.int .i64 0, .int .i64 0]), 2, 16) := by kernel_rfl
theorem whos_nil (w : World) : Sep w w [row 40 2 (.slice none 0 0) ([] : List (Int × Int)).length (fl wc [])] := (Sep.nil w).rown _ _

def lineZ : Value := .agg (lc ⟨0, 0, false, b0, .slice none 0 0, [], rfl⟩).toArray
def keys (l : List Li) : List (Int × Int) := l.map fun x => (x.u, x.d)

set_option maxRecDepth 100000 in
set_option maxHeartbeats 3200000 in
theorem all_any {w0 : World} {rs : List Res} (B : Nat) (l : List Li) (v : Value) (w : World) (h : Sep w0 w (row 90 14 v l.length (fl lc l) :: blk B [v] 93 :: rs)) (hl : l.length ≤ 1000000) :
    Calls Tryz.prog 130 #[.pointer (some ⟨B, 0, none⟩)] w (Whos (keys l) w) := by
  obtain ⟨i0, hi, hz0, hz1, hz2⟩ := info_parts who_info
  obtain ⟨ao, c, rfl⟩ := own_slice (show w.ownsRow 0 _ 14 v l.length (fl lc l) from h.head)
  have hBc := cell_of_one h.tail.head
  go_enter Tryz.func130, Tryz.ntmps130
  go_wp2_with fail
  clear hBc
  go_loopw [3, 13] (fun x y wr => ∃ (k : Nat) (a1 : Option Addr) (c1 : Nat), x = .slice a1 k c1 ∧ y = .int .i64 k ∧ k ≤ l.length ∧ Sep w wr [row 40 2 (.slice a1 k c1) k (fl wc (keys (l.take k)))]) (fun _ y _ => l.length - (intOf y).toNat)
  case atStart => exact ⟨0, none, 0, rfl, rfl, Nat.zero_le _, whos_nil w⟩
  case round =>
    obtain ⟨k, a1, c1, rfl, rfl, hk, hs⟩ := hrel
    by_cases hkl : k < l.length
    · have d1 : decide ((k : Int) < l.length) = true := by simpa using hkl
      obtain ⟨g, rfl, _⟩ := own_some (show w.ownsRow 0 _ 14 (.slice ao l.length c) l.length (fl lc l) from h.head) (by omega)
      have hrng : wr.rangeAt g (k * 14) (lc l[k]) := rec_range lc_len (h.quiet hs.only).head hkl
      have htk : Hid (fl wc (keys (l.take k)) ++ wc (l[k].u, l[k].d) = fl wc (keys (l.take (k + 1)))) := by
        show _ = _
        rw [List.take_succ_eq_append_getElem hkl, keys, keys, List.map_append, fl_app]
        rfl
      generalize l[k] = x at *
      have h1c := lc_arr x
      have g0 : (lc x).toArray[0]? = some (.int .i64 x.u) := rfl
      have g1 : (lc x).toArray[1]? = some (.int .i64 x.d) := rfl
      have hll := lc_len x
      generalize lc x = cs at *
      go_wp2_with (first
        | (refine wpList_load_mid rfl 90 _ rfl g (k * 14) rfl cs _ hrng Tryz.underlying90 (by rfl) (by rw [hll]; kernel_rfl) ?_)
        | (refine wpList_alloc_new rfl 90 rfl lineZ (fun _ => by kernel_rfl) ?_; intro X wX oX hXl hX)
        | (refine wpList_store_blk rfl 90 _ _ rfl X cs rfl rfl hX hll.symm (by rw [hll]; kernel_rfl) h1c ?_; intro wY oY hY; have hs2 := hs.quiet (oX.new oY (fun i hi => by simp only [List.mem_singleton] at hi; omega)); have hy0 := (cell_in hY 0).trans g0; have hy1 := (cell_in hY 1).trans g1; clear hs hX oX oY hY)
        | (at_builtin; refine wpList_append_sep rfl _ _ 112 rfl 40 i0 _ 2 16 Tryz.underlying112 hi hz0 hz1 hz2 rfl (by decide) (.slice a1 k c1) k _ rfl (hs2.quiet (Only.alloc _ (.cells #[.int .i64 x.u, .int .i64 x.d] 40) [])) _ 1 (wc (x.u, x.d)) rfl (src_lit _ [.int .i64 x.u, .int .i64 x.d] _ 1 2 rfl) (wc_one _) (by unfold maxLen; omega) (by omega) ?_; intro a7 c7 w7 o7 s7; rw [htk.out] at s7))
      exact ⟨⟨k + 1, a7, c7, rfl, by simp, by omega, s7⟩, by simp [intOf]; omega⟩
    · obtain rfl : k = l.length := by omega
      have d1 : decide ((l.length : Int) < l.length) = false := by simp
      have hn : Hid ((keys l).length = l.length) := by simp [Hid, keys]
      rw [List.take_length] at hs
      go_wp2_with fail
      go_ret
      exact ⟨a1, c1, by rw [hn.out]; rfl, by rw [hn.out]; exact hs⟩
end Go.Proofs.YtmmhbehlpppdiaaGreatDoor
namespace Go.Proofs.YtmmhbehlpppdiaaGreatDoor
open Go.RowKit Go.Pw
def listL (l : List Li) (user : Int) : List (Int × Int) := (keys l).filter fun p => p.1 == user && isL l p.1 p.2

theorem filter_snoc {α : Type} (f : α → Bool) (l : List α) (x : α) : (l ++ [x]).filter f = l.filter f ++ (if f x = true then [x] else []) := by
  rw [List.filter_append]
  cases h : f x <;> simp [h]
theorem keys_len (l : List Li) : (keys l).length = l.length := by simp [keys]

set_option maxRecDepth 100000 in
set_option maxHeartbeats 3200000 in
theorem list_any {w0 : World} {rs : List Res} (B : Nat) (l : List Li) (v : Value) (user : Int) (w : World) (h : Sep w0 w (row 90 14 v l.length (fl lc l) :: blk B [v] 93 :: rs)) (hl : l.length ≤ 1000000) (hr : Rise l) :
    Calls Tryz.prog 82 #[.pointer (some ⟨B, 0, none⟩), .int .i64 user] w (Whos (listL l user) w) := by
  obtain ⟨i0, hi, hz0, hz1, hz2⟩ := info_parts who_info
  have Hall := all_any B l v w h hl
  have His := fun (u d : Int) (w' : World) (o : Only w w' []) => is_any B l v u d w' (h.quiet o) hl hr
  have hkl := keys_len l
  have hLL : listL l user = (keys l).filter fun p => p.1 == user && isL l p.1 p.2 := rfl
  rw [hLL]
  clear hLL
  generalize keys l = ks at *
  clear h hr
  obtain ⟨F, hF⟩ : ∃ F : Int × Int → Bool, F = fun p => p.1 == user && isL l p.1 p.2 := ⟨_, rfl⟩
  rw [← hF]
  have HF := Lib.hid (fun p : Int × Int => show F p = (p.1 == user && isL l p.1 p.2) by rw [hF])
  clear hF
  go_enter Tryz.func82, Tryz.ntmps82
  go_wp2_with fail
  refine Hall.mono ?_
  rintro e w1 ⟨aA, cA, rfl, sA⟩
  clear Hall
  go_wp2_with fail
  go_loopw [5, 11] (fun x y wr => ∃ (k : Nat) (a1 : Option Addr) (c1 : Nat), x = .slice a1 ((ks.take k).filter F).length c1 ∧ y = .int .i64 k ∧ k ≤ ks.length ∧ Sep w wr [row 40 2 (.slice a1 ((ks.take k).filter F).length c1) ((ks.take k).filter F).length (fl wc ((ks.take k).filter F)), row 40 2 (.slice aA ks.length cA) ks.length (fl wc ks)]) (fun _ y _ => ks.length - (intOf y).toNat)
  case atStart => exact ⟨0, none, 0, rfl, rfl, Nat.zero_le _, sA.rown _ _⟩
  case round =>
    clear sA
    obtain ⟨k, a1, c1, rfl, rfl, hk, hs⟩ := hrel
    by_cases hkk : k < ks.length
    · have d1 : decide ((k : Int) < ks.length) = true := by simpa using hkk
      have hA : wr.ownsRow 0 40 2 (.slice aA ks.length cA) ks.length (fl wc ks) := hs.tail.head
      obtain ⟨gA, rfl, _⟩ := own_some hA (by omega)
      have e0 := rec_cell wc_len hA hkk 0 (v := .int .i64 ks[k].1) rfl
      have e1 := rec_cell wc_len hA hkk 1 (v := .int .i64 ks[k].2) rfl
      rw [Nat.add_zero] at e0
      have htk : (ks.take (k + 1)).filter F = (ks.take k).filter F ++ (if F ks[k] = true then [ks[k]] else []) := by
        rw [List.take_succ_eq_append_getElem hkk, filter_snoc]
      have hFk := HF.out ks[k]
      generalize ks[k] = p at *
      obtain ⟨pu, pd⟩ := p
      simp only at e0 e1 hFk
      have hql : ((ks.take k).filter F).length ≤ 1000000 := by have := List.length_filter_le F (ks.take k); rw [List.length_take] at this; omega
      generalize hq : (ks.take k).filter F = q at *
      have h1c : ([.int .i64 pu, .int .i64 pd] : List Value).toArray.all (·.oneCell') = true := by simp [Value.oneCell']
      clear hq hA
      by_cases hu : pu = user
      · have du : (pu == user) = true := by simpa using hu
        rw [du, Bool.true_and] at hFk
        clear hu
        go_wp2_with (first
          | (refine wpList_alloc_new rfl 40 rfl (.agg #[.int .i64 0, .int .i64 0]) (fun _ => by kernel_rfl) ?_; intro X wX oX hXl hX)
          | (refine wpList_store_blk rfl 40 _ _ rfl X [.int .i64 pu, .int .i64 pd] rfl rfl hX rfl (by kernel_rfl) h1c ?_; intro wY oY hY; have hs2 := hs.quiet (oX.new oY (fun i hi => by simp only [List.mem_singleton] at hi; omega)); have hy0 := cell_two0 hY; have hy1 := cell_two1 hY; clear hs hX oX oY e0 e1))
        refine (His pu pd _ hs2.only).mono ?_
        cases hI : isL l pu pd with
        | true =>
          rintro e w3 ⟨rfl, o3⟩
          rw [hI] at hFk
          have htk : Hid (fl wc q ++ wc (pu, pd) = fl wc ((ks.take (k + 1)).filter F) ∧ ((ks.take (k + 1)).filter F).length = q.length + 1) := by
            show _ ∧ _
            rw [htk, if_pos hFk, fl_app]
            exact ⟨rfl, by simp⟩
          clear hFk hI du
          have hs3 := hs2.quiet o3
          have hY3 := o3.at hY (by simp)
          clear hs2 o3 hY hy0 hy1
          have hy0 := cell_two0 hY3
          have hy1 := cell_two1 hY3
          go_wp2_with (at_builtin; refine wpList_append_sep rfl _ _ 112 rfl 40 i0 _ 2 16 Tryz.underlying112 hi hz0 hz1 hz2 rfl (by decide) (.slice a1 q.length c1) q.length _ rfl (hs3.quiet (Only.alloc _ (.cells #[.int .i64 pu, .int .i64 pd] 40) [])) _ 1 (wc (pu, pd)) rfl (src_lit _ [.int .i64 pu, .int .i64 pd] _ 1 2 rfl) (wc_one _) (by unfold maxLen; omega) (by omega) ?_; intro a7 c7 w7 o7 s7; rw [htk.out.1] at s7)
          refine ⟨⟨k + 1, a7, c7, by rw [htk.out.2], by simp, by omega, by rw [htk.out.2]; exact s7⟩, by simp [intOf]; omega⟩
        | false =>
          rintro e w3 ⟨rfl, o3⟩
          rw [hI] at hFk
          have htk : Hid ((ks.take (k + 1)).filter F = q) := by
            show _ = _
            rw [htk, if_neg (by rw [hFk]; simp), List.append_nil]
          clear hFk hI du
          have hs3 := hs2.quiet o3
          clear hs2 o3 hY hy0 hy1
          go_wp2_with fail
          refine ⟨⟨k + 1, a1, c1, by rw [htk.out], by simp, by omega, by rw [htk.out]; exact hs3⟩, by simp [intOf]; omega⟩
      · have du : (pu == user) = false := by simpa using hu
        rw [du, Bool.false_and] at hFk
        have htk : Hid ((ks.take (k + 1)).filter F = q) := by
          show _ = _
          rw [htk, if_neg (by rw [hFk]; simp), List.append_nil]
        clear hu hFk
        go_wp2_with (first
          | (refine wpList_alloc_new rfl 40 rfl (.agg #[.int .i64 0, .int .i64 0]) (fun _ => by kernel_rfl) ?_; intro X wX oX hXl hX)
          | (refine wpList_store_blk rfl 40 _ _ rfl X [.int .i64 pu, .int .i64 pd] rfl rfl hX rfl (by kernel_rfl) h1c ?_; intro wY oY hY; have hs2 := hs.quiet (oX.new oY (fun i hi => by simp only [List.mem_singleton] at hi; omega)); have hy0 := cell_two0 hY; have hy1 := cell_two1 hY; clear hs hX oX oY e0 e1))
        refine ⟨⟨k + 1, a1, c1, by rw [htk.out], by simp, by omega, by rw [htk.out]; exact hs2⟩, by simp [intOf]; omega⟩
    · obtain rfl : k = ks.length := by omega
      have d1 : decide ((ks.length : Int) < ks.length) = false := by simp
      rw [List.take_length] at hs ⊢
      go_wp2_with fail
      go_ret
      exact ⟨a1, c1, rfl, hs.sel 2 [0]⟩
end Go.Proofs.YtmmhbehlpppdiaaGreatDoor
namespace Go.Proofs.YtmmhbehlpppdiaaGreatDoor
open Go.RowKit Go.Pw
def cntL (l : List Li) (user : Int) : Nat := ((keys l).filter fun p => p.1 == user).length
def nextD (l : List Li) (user : Int) : (Int × Int) × Int :=
  if user < 0 ∨ 8 ≤ user then ((0, 0), 1) else if 4 ≤ (listL l user).length then ((0, 0), 3) else ((user, cntL l user + 1), 0)

set_option maxRecDepth 100000 in
set_option maxHeartbeats 3200000 in
theorem next_any {w0 : World} {rs : List Res} (B : Nat) (l : List Li) (v : Value) (user : Int) (w : World) (h : Sep w0 w (row 90 14 v l.length (fl lc l) :: blk B [v] 93 :: rs)) (hl : l.length ≤ 1000000) (hr : Rise l) :
    Calls Tryz.prog 42 #[.pointer (some ⟨B, 0, none⟩), .int .i64 user] w fun e w' => e = .returned (.tuple #[wv (nextD l user).1.1 (nextD l user).1.2, .int .i64 (nextD l user).2]) ∧ Only w w' [] := by
  have Hlist := fun (w' : World) (o : Only w w' []) => list_any B l v user w' (h.quiet o) hl hr
  have h1z : ([.int .i64 0, .int .i64 0] : List Value).toArray.all (·.oneCell') = true := by simp [Value.oneCell']
  by_cases hu : user < 0 ∨ 8 ≤ user
  · have e : nextD l user = ((0, 0), 1) := if_pos hu
    rw [e]
    by_cases hn : user < 0
    · have d1 : decide (user < 0) = true := by simpa using hn
      clear e hu Hlist h
      go_enter Tryz.func42, Tryz.ntmps42
      go_wp2_with (first
        | (refine wpList_alloc_new rfl 40 rfl (.agg #[.int .i64 0, .int .i64 0]) (fun _ => by kernel_rfl) ?_; intro X wX oX hXl hX)
        | (refine wpList_store_blk rfl 40 _ _ rfl X [.int .i64 0, .int .i64 0] rfl rfl hX rfl (by kernel_rfl) h1z ?_; intro wY oY hY; have oF := oX.new oY (fun i hi => by simp only [List.mem_singleton] at hi; omega); have hy0 := cell_two0 hY; have hy1 := cell_two1 hY))
      refine bodyPost_ret (v := .tuple #[.agg #[.int .i64 0, .int .i64 0], .int .i64 1]) (by simp [results, Tryz.results42, go_sem, hy0, hy1]) rfl ?_
      exact ⟨rfl, oF⟩
    · have d1 : decide (user < 0) = false := by simpa using hn
      have d2 : decide (8 ≤ user) = true := by simp; omega
      clear e hu Hlist h
      go_enter Tryz.func42, Tryz.ntmps42
      go_wp2_with (first
        | (refine wpList_alloc_new rfl 40 rfl (.agg #[.int .i64 0, .int .i64 0]) (fun _ => by kernel_rfl) ?_; intro X wX oX hXl hX)
        | (refine wpList_store_blk rfl 40 _ _ rfl X [.int .i64 0, .int .i64 0] rfl rfl hX rfl (by kernel_rfl) h1z ?_; intro wY oY hY; have oF := oX.new oY (fun i hi => by simp only [List.mem_singleton] at hi; omega); have hy0 := cell_two0 hY; have hy1 := cell_two1 hY))
      refine bodyPost_ret (v := .tuple #[.agg #[.int .i64 0, .int .i64 0], .int .i64 1]) (by simp [results, Tryz.results42, go_sem, hy0, hy1]) rfl ?_
      exact ⟨rfl, oF⟩
  · have d1 : decide (user < 0) = false := by simp; omega
    have d2 : decide (8 ≤ user) = false := by simp; omega
    have hll : (listL l user).length ≤ 1000000 := by have h1 := List.length_filter_le (fun p : Int × Int => p.1 == user && isL l p.1 p.2) (keys l); rw [keys_len] at h1; unfold listL; omega
    by_cases h4 : 4 ≤ (listL l user).length
    · have e : nextD l user = ((0, 0), 3) := by unfold nextD; rw [if_neg hu, if_pos h4]
      rw [e]
      have d3 : decide ((4 : Int) ≤ (listL l user).length) = true := by simp; omega
      generalize listL l user = q at *
      clear e hu h hr
      go_enter Tryz.func42, Tryz.ntmps42
      go_wp2_with (refine wpList_alloc_new rfl 40 rfl (.agg #[.int .i64 0, .int .i64 0]) (fun _ => by kernel_rfl) ?_; intro X wX oX hXl hX)
      refine (Hlist _ oX).mono ?_
      rintro e w1 ⟨aA, cA, rfl, sA⟩
      have hX1 := sA.only.at hX (by simp)
      have o1 := oX.trans sA.only
      clear Hlist hX oX sA h4
      go_wp2_with (refine wpList_store_blk rfl 40 _ _ rfl X [.int .i64 0, .int .i64 0] rfl rfl hX1 rfl (by kernel_rfl) h1z ?_; intro wY oY hY; have oF := o1.new oY (fun i hi => by simp only [List.mem_singleton] at hi; omega); have hy0 := cell_two0 hY; have hy1 := cell_two1 hY)
      refine bodyPost_ret (v := .tuple #[.agg #[.int .i64 0, .int .i64 0], .int .i64 3]) (by simp [results, Tryz.results42, go_sem, hy0, hy1]) rfl ?_
      exact ⟨rfl, oF⟩
    · have e : nextD l user = ((user, (cntL l user : Int) + 1), 0) := by unfold nextD; rw [if_neg hu, if_neg h4]
      rw [e]
      have d3 : decide ((4 : Int) ≤ (listL l user).length) = false := by simp; omega
      have hc : cntL l user = ((keys (l.take l.length)).filter fun p => p.1 == user).length := by rw [List.take_length]; rfl
      have hcl : cntL l user ≤ 1000000 := by have h1 := List.length_filter_le (fun p : Int × Int => p.1 == user) (keys l); rw [keys_len] at h1; unfold cntL; omega
      generalize listL l user = q at *
      have HC := Lib.hid hc
      clear hc
      generalize cntL l user = cn at *
      have h1u : ([.int .i64 user, .int .i64 ((cn : Int) + 1)] : List Value).toArray.all (·.oneCell') = true := by simp [Value.oneCell']
      obtain ⟨ao, c, rfl⟩ := own_slice (show w.ownsRow 0 _ 14 v l.length (fl lc l) from h.head)
      clear e hu hr
      go_enter Tryz.func42, Tryz.ntmps42
      go_wp2_with (refine wpList_alloc_new rfl 40 rfl (.agg #[.int .i64 0, .int .i64 0]) (fun _ => by kernel_rfl) ?_; intro X wX oX hXl hX)
      refine (Hlist _ oX).mono ?_
      rintro e w1 ⟨aA, cA, rfl, sA⟩
      have hX1 := sA.only.at hX (by simp)
      have o1 := oX.trans sA.only
      have h1 := h.quiet o1
      have hBc := cell_of_one h1.tail.head
      clear Hlist hX oX sA h4 h
      go_wp2_with fail
      clear hBc
      go_loopw [6, 31] (fun x y wr => ∃ (k : Nat), x = .int .i64 (((keys (l.take k)).filter fun p => p.1 == user).length : Nat) ∧ y = .int .i64 k ∧ k ≤ l.length ∧ Only w1 wr []) (fun _ y _ => l.length - (intOf y).toNat)
      case atStart => exact ⟨0, rfl, rfl, Nat.zero_le _, Only.refl _ _⟩
      case round =>
        obtain ⟨k, rfl, rfl, hk, hs⟩ := hrel
        by_cases hkl : k < l.length
        · have dk : decide ((k : Int) < l.length) = true := by simpa using hkl
          obtain ⟨g, rfl, _⟩ := own_some (show w1.ownsRow 0 _ 14 (.slice ao l.length c) l.length (fl lc l) from h1.head) (by omega)
          have hrng : wr.rangeAt g (k * 14) (lc l[k]) := rec_range lc_len (h1.quiet hs).head hkl
          have htk : ((keys (l.take (k + 1))).filter fun p => p.1 == user) = ((keys (l.take k)).filter fun p => p.1 == user) ++ (if (l[k].u == user) = true then [(l[k].u, l[k].d)] else []) := by
            rw [List.take_succ_eq_append_getElem hkl, keys, keys, List.map_append, List.map_singleton, filter_snoc]
          have hml : ((keys (l.take k)).filter fun p => p.1 == user).length ≤ 1000000 := by
            have h1 := List.length_filter_le (fun p : Int × Int => p.1 == user) (keys (l.take k)); rw [keys_len, List.length_take] at h1; omega
          generalize hm : (keys (l.take k)).filter (fun p => p.1 == user) = m at *
          clear hm
          generalize l[k] = x at *
          have h1c := lc_arr x
          have g0 : (lc x).toArray[0]? = some (.int .i64 x.u) := rfl
          have hll2 := lc_len x
          generalize lc x = cs at *
          by_cases hxu : x.u = user
          · have dx : (x.u == user) = true := by simpa using hxu
            rw [dx, if_pos rfl] at htk
            have Htk : Hid (((keys (l.take (k + 1))).filter fun p => p.1 == user).length = m.length + 1) := by show _ = _; rw [htk]; simp
            clear htk hxu
            go_wp2_with (first
              | (refine wpList_load_mid rfl 90 _ rfl g (k * 14) rfl cs _ hrng Tryz.underlying90 (by rfl) (by rw [hll2]; kernel_rfl) ?_)
              | (refine wpList_alloc_new rfl 90 rfl lineZ (fun _ => by kernel_rfl) ?_; intro Z wZ oZ hZl hZ)
              | (refine wpList_store_blk rfl 90 _ _ rfl Z cs rfl rfl hZ hll2.symm (by rw [hll2]; kernel_rfl) h1c ?_; intro wY oY hY; have hs2 := hs.trans (oZ.new oY (fun i hi => by simp only [List.mem_singleton] at hi; omega)); have hy0 := (cell_in hY 0).trans g0; clear hs hZ oZ oY hY))
            refine ⟨⟨k + 1, by rw [Htk.out]; simp, by simp, by omega, hs2⟩, by simp [intOf]; omega⟩
          · have dx : (x.u == user) = false := by simpa using hxu
            rw [dx, if_neg (by simp), List.append_nil] at htk
            have Htk : Hid (((keys (l.take (k + 1))).filter fun p => p.1 == user).length = m.length) := by show _ = _; rw [htk]
            clear htk hxu
            go_wp2_with (first
              | (refine wpList_load_mid rfl 90 _ rfl g (k * 14) rfl cs _ hrng Tryz.underlying90 (by rfl) (by rw [hll2]; kernel_rfl) ?_)
              | (refine wpList_alloc_new rfl 90 rfl lineZ (fun _ => by kernel_rfl) ?_; intro Z wZ oZ hZl hZ)
              | (refine wpList_store_blk rfl 90 _ _ rfl Z cs rfl rfl hZ hll2.symm (by rw [hll2]; kernel_rfl) h1c ?_; intro wY oY hY; have hs2 := hs.trans (oZ.new oY (fun i hi => by simp only [List.mem_singleton] at hi; omega)); have hy0 := (cell_in hY 0).trans g0; clear hs hZ oZ oY hY))
            refine ⟨⟨k + 1, by rw [Htk.out], by simp, by omega, hs2⟩, by simp [intOf]; omega⟩
        · obtain rfl : k = l.length := by omega
          have dk : decide ((l.length : Int) < l.length) = false := by simp
          rw [← HC.out]
          have hX2 := hs.at hX1 (by simp)
          have o2 := o1.trans hs
          clear hs hX1 o1 h1 HC
          go_wp2_with (refine wpList_store_blk rfl 40 _ _ rfl X [.int .i64 user, .int .i64 ((cn : Int) + 1)] rfl rfl hX2 rfl (by kernel_rfl) h1u ?_; intro wY oY hY; have oF := o2.new oY (fun i hi => by simp only [List.mem_singleton] at hi; omega); have hy0 := cell_two0 hY; have hy1 := cell_two1 hY)
          refine bodyPost_ret (v := .tuple #[.agg #[.int .i64 user, .int .i64 ((cn : Int) + 1)], .int .i64 0]) (by simp [results, Tryz.results42, go_sem, hy0, hy1]) rfl ?_
          exact ⟨rfl, oF⟩
end Go.Proofs.YtmmhbehlpppdiaaGreatDoor
namespace Go.Pw
open Go.RowKit
theorem src_rec {w : World} {ao : Option Addr} {c k : Nat} {α : Type} {enc : α → List Value} (hk : ∀ x, (enc x).length = k) (hk0 : 0 < k) {l : List α} (h : Src w (.slice ao l.length c) k l.length (fl enc l)) (hl : 0 < l.length) :
    ∃ b o, ao = some ⟨b, o, none⟩ ∧ ∀ w', Only w w' [] → ∀ m (hm : m < l.length), w'.rangeAt b (o + m * k) (enc l[m]) := by
  obtain ⟨ao', c', he, hc1, hc2, hc3, hc4, hc5⟩ := id h
  simp only [Value.slice.injEq] at he
  obtain ⟨rfl, _, rfl⟩ := he
  have hpos : 0 < l.length * k := Nat.mul_pos hl hk0
  cases ao with
  | none => have := (hc4 rfl).1; omega
  | some ad =>
    obtain ⟨b, o, sp⟩ := ad
    have hcz := hc5 _ rfl 0 (fl enc l)[0] (by simp)
    have hsp : sp = none := by simpa [Addr.add] using World.cell?_spot hcz
    subst hsp
    refine ⟨b, o, rfl, fun w' ho m hm j v hj => ?_⟩
    have hj' : j < k := by have := (List.getElem?_eq_some_iff.1 hj).1; rwa [hk] at this
    obtain ⟨ao', c', he, q1, q2, q3, q4, q5⟩ := h.off ho (fun _ _ _ => by simp)
    simp only [Value.slice.injEq] at he
    obtain ⟨rfl, _, rfl⟩ := he
    have := q5 _ rfl (m * k + j) v (by rw [fl_at hk hm hj']; exact hj)
    rwa [Addr.add_lit, ← Nat.add_assoc] at this
end Go.Pw
namespace Go.Proofs.YtmmhbehlpppdiaaGreatDoor
open Go.RowKit Go.Pw
def RdB (w : World) (v : Value) (l : List Bu) : Prop := Pw.Src w v 10 l.length (fl bc l)
theorem RdB.off {w w' : World} {v : Value} {l : List Bu} (h : RdB w v l) (ho : Only w w' []) : RdB w' v l := Pw.Src.off h ho (fun _ _ _ => by simp)
theorem RdB.slice {w : World} {v : Value} {l : List Bu} (h : RdB w v l) : ∃ ao c, v = .slice ao l.length c := by
  obtain ⟨ao, c, h, _⟩ := h
  exact ⟨ao, c, h⟩
def idxB (pd : Bu → Bool) (l : List Bu) : Int := if l.findIdx pd < l.length then (l.findIdx pd : Int) else -1
def Clos (F : Nat) (caps : Array Value) (pd : Bu → Bool) (w : World) : Prop := ∀ x w', Only w w' [] → Calls Tryz.prog F (#[.agg (bc x).toArray] ++ caps) w' fun e w'' => e = .returned (.bool (pd x)) ∧ Only w' w'' []

set_option maxRecDepth 100000 in
set_option maxHeartbeats 3200000 in
theorem bindex_has  (pd : Bu → Bool) (v : Value) (l : List Bu) (w : World) (h : RdB w v l) (hl : l.length ≤ 1000000) (hF : Clos 132 #[] pd w) :
    Calls Tryz.prog 204 #[v, .func (.func 132) #[] #[]] w fun e w' => e = .returned (.int .i64 (idxB pd l)) ∧ Only w w' [] := by
  obtain ⟨ao, c, rfl⟩ := h.slice
  have HS := fun (hp : 0 < l.length) => src_rec bc_len (by decide) h hp
  clear h
  go_enter Tryz.func204, Tryz.ntmps204
  go_wp2_with fail
  go_loopw [8] (fun i wr => ∃ k : Nat, i = .int .i64 k ∧ k ≤ l.length ∧ (∀ j (hj : j < k), ∀ x, l[j]? = some x → pd x = false) ∧ Only w wr []) (fun i _ => l.length - (intOf i).toNat)
  case atStart => exact ⟨0, rfl, Nat.zero_le _, fun j hj => by omega, Only.refl _ _⟩
  case round =>
    obtain ⟨k, rfl, hk, hq, ho⟩ := hrel
    have hq := Lib.hid hq
    by_cases hkl : k < l.length
    · obtain ⟨b, o, rfl, hr⟩ := HS (by omega)
      have hrng := hr wr ho k hkl
      have hlk : l[k]? = some l[k] := List.getElem?_eq_getElem hkl
      have hFx := hF l[k] wr ho
      generalize l[k] = x at *
      have hll := bc_len x
      have Hlk := Lib.hid hlk
      clear hlk HS hr
      have d1 : decide ((k : Int) < l.length) = true := by simpa using hkl
      cases hx : pd x with
      | true =>
        have hfin : Hid (idxB pd l = k) := by
          have e : l.findIdx pd = k := by
            rw [List.findIdx_eq hkl]
            have hlk := Hlk.out
            rw [List.getElem?_eq_getElem hkl] at hlk
            refine ⟨by rw [Option.some.inj hlk]; exact hx, fun j hj => ?_⟩
            have hjl : j < l.length := by omega
            exact hq.out j hj l[j] (List.getElem?_eq_getElem hjl)
          show idxB pd l = _
          rw [idxB, e, if_pos hkl]
        generalize bc x = cs at *
        go_wp2_with (refine wpList_load_mid rfl 88 _ rfl b (o + k * 10) rfl cs _ hrng Tryz.underlying88 (by rfl) (by rw [hll]; kernel_rfl) ?_)
        refine hFx.mono ?_
        rw [hx]
        rintro e w2 ⟨rfl, ho2⟩
        go_wp2_with fail
        go_ret
        exact ⟨by rw [hfin.out]; rfl, ho.trans ho2⟩
      | false =>
        have hq2 : Hid (∀ j (hj : j < k + 1), ∀ x, l[j]? = some x → pd x = false) := by
          intro j hj y hy
          by_cases hjk : j = k
          · subst hjk
            rw [Hlk.out] at hy
            cases hy
            exact hx
          · exact hq.out j (by omega) y hy
        generalize bc x = cs at *
        go_wp2_with (refine wpList_load_mid rfl 88 _ rfl b (o + k * 10) rfl cs _ hrng Tryz.underlying88 (by rfl) (by rw [hll]; kernel_rfl) ?_)
        refine hFx.mono ?_
        rw [hx]
        rintro e w2 ⟨rfl, ho2⟩
        go_wp2_with fail
        refine ⟨⟨k + 1, by simp, by omega, hq2.out, ho.trans ho2⟩, by simp [intOf]; omega⟩
    · obtain rfl : k = l.length := by omega
      have d1 : decide ((l.length : Int) < l.length) = false := by simp
      have hfin : Hid (idxB pd l = -1) := by
        show idxB pd l = _
        refine if_neg fun hh => ?_
        have := List.findIdx_getElem (w := hh)
        have h1 := hq.out _ hh l[l.findIdx pd] (List.getElem?_eq_getElem hh)
        exact absurd (this.symm.trans h1) (by simp)
      go_wp2_with fail
      go_ret
      exact ⟨by rw [hfin.out]; rfl, ho⟩

set_option maxRecDepth 100000 in
set_option maxHeartbeats 3200000 in
theorem bindex_o1 (A : Nat) (pd : Bu → Bool) (v : Value) (l : List Bu) (w : World) (h : RdB w v l) (hl : l.length ≤ 1000000) (hF : Clos 133 #[.pointer (some ⟨A, 0, none⟩)] pd w) :
    Calls Tryz.prog 204 #[v, .func (.func 133) #[] #[.pointer (some ⟨A, 0, none⟩)]] w fun e w' => e = .returned (.int .i64 (idxB pd l)) ∧ Only w w' [] := by
  obtain ⟨ao, c, rfl⟩ := h.slice
  have HS := fun (hp : 0 < l.length) => src_rec bc_len (by decide) h hp
  clear h
  go_enter Tryz.func204, Tryz.ntmps204
  go_wp2_with fail
  go_loopw [8] (fun i wr => ∃ k : Nat, i = .int .i64 k ∧ k ≤ l.length ∧ (∀ j (hj : j < k), ∀ x, l[j]? = some x → pd x = false) ∧ Only w wr []) (fun i _ => l.length - (intOf i).toNat)
  case atStart => exact ⟨0, rfl, Nat.zero_le _, fun j hj => by omega, Only.refl _ _⟩
  case round =>
    obtain ⟨k, rfl, hk, hq, ho⟩ := hrel
    have hq := Lib.hid hq
    by_cases hkl : k < l.length
    · obtain ⟨b, o, rfl, hr⟩ := HS (by omega)
      have hrng := hr wr ho k hkl
      have hlk : l[k]? = some l[k] := List.getElem?_eq_getElem hkl
      have hFx := hF l[k] wr ho
      generalize l[k] = x at *
      have hll := bc_len x
      have Hlk := Lib.hid hlk
      clear hlk HS hr
      have d1 : decide ((k : Int) < l.length) = true := by simpa using hkl
      cases hx : pd x with
      | true =>
        have hfin : Hid (idxB pd l = k) := by
          have e : l.findIdx pd = k := by
            rw [List.findIdx_eq hkl]
            have hlk := Hlk.out
            rw [List.getElem?_eq_getElem hkl] at hlk
            refine ⟨by rw [Option.some.inj hlk]; exact hx, fun j hj => ?_⟩
            have hjl : j < l.length := by omega
            exact hq.out j hj l[j] (List.getElem?_eq_getElem hjl)
          show idxB pd l = _
          rw [idxB, e, if_pos hkl]
        generalize bc x = cs at *
        go_wp2_with (refine wpList_load_mid rfl 88 _ rfl b (o + k * 10) rfl cs _ hrng Tryz.underlying88 (by rfl) (by rw [hll]; kernel_rfl) ?_)
        refine hFx.mono ?_
        rw [hx]
        rintro e w2 ⟨rfl, ho2⟩
        go_wp2_with fail
        go_ret
        exact ⟨by rw [hfin.out]; rfl, ho.trans ho2⟩
      | false =>
        have hq2 : Hid (∀ j (hj : j < k + 1), ∀ x, l[j]? = some x → pd x = false) := by
          intro j hj y hy
          by_cases hjk : j = k
          · subst hjk
            rw [Hlk.out] at hy
            cases hy
            exact hx
          · exact hq.out j (by omega) y hy
        generalize bc x = cs at *
        go_wp2_with (refine wpList_load_mid rfl 88 _ rfl b (o + k * 10) rfl cs _ hrng Tryz.underlying88 (by rfl) (by rw [hll]; kernel_rfl) ?_)
        refine hFx.mono ?_
        rw [hx]
        rintro e w2 ⟨rfl, ho2⟩
        go_wp2_with fail
        refine ⟨⟨k + 1, by simp, by omega, hq2.out, ho.trans ho2⟩, by simp [intOf]; omega⟩
    · obtain rfl : k = l.length := by omega
      have d1 : decide ((l.length : Int) < l.length) = false := by simp
      have hfin : Hid (idxB pd l = -1) := by
        show idxB pd l = _
        refine if_neg fun hh => ?_
        have := List.findIdx_getElem (w := hh)
        have h1 := hq.out _ hh l[l.findIdx pd] (List.getElem?_eq_getElem hh)
        exact absurd (this.symm.trans h1) (by simp)
      go_wp2_with fail
      go_ret
      exact ⟨by rw [hfin.out]; rfl, ho⟩

set_option maxRecDepth 100000 in
set_option maxHeartbeats 3200000 in
theorem bindex_o2 (A : Nat) (pd : Bu → Bool) (v : Value) (l : List Bu) (w : World) (h : RdB w v l) (hl : l.length ≤ 1000000) (hF : Clos 207 #[.pointer (some ⟨A, 0, none⟩)] pd w) :
    Calls Tryz.prog 204 #[v, .func (.func 207) #[] #[.pointer (some ⟨A, 0, none⟩)]] w fun e w' => e = .returned (.int .i64 (idxB pd l)) ∧ Only w w' [] := by
  obtain ⟨ao, c, rfl⟩ := h.slice
  have HS := fun (hp : 0 < l.length) => src_rec bc_len (by decide) h hp
  clear h
  go_enter Tryz.func204, Tryz.ntmps204
  go_wp2_with fail
  go_loopw [8] (fun i wr => ∃ k : Nat, i = .int .i64 k ∧ k ≤ l.length ∧ (∀ j (hj : j < k), ∀ x, l[j]? = some x → pd x = false) ∧ Only w wr []) (fun i _ => l.length - (intOf i).toNat)
  case atStart => exact ⟨0, rfl, Nat.zero_le _, fun j hj => by omega, Only.refl _ _⟩
  case round =>
    obtain ⟨k, rfl, hk, hq, ho⟩ := hrel
    have hq := Lib.hid hq
    by_cases hkl : k < l.length
    · obtain ⟨b, o, rfl, hr⟩ := HS (by omega)
      have hrng := hr wr ho k hkl
      have hlk : l[k]? = some l[k] := List.getElem?_eq_getElem hkl
      have hFx := hF l[k] wr ho
      generalize l[k] = x at *
      have hll := bc_len x
      have Hlk := Lib.hid hlk
      clear hlk HS hr
      have d1 : decide ((k : Int) < l.length) = true := by simpa using hkl
      cases hx : pd x with
      | true =>
        have hfin : Hid (idxB pd l = k) := by
          have e : l.findIdx pd = k := by
            rw [List.findIdx_eq hkl]
            have hlk := Hlk.out
            rw [List.getElem?_eq_getElem hkl] at hlk
            refine ⟨by rw [Option.some.inj hlk]; exact hx, fun j hj => ?_⟩
            have hjl : j < l.length := by omega
            exact hq.out j hj l[j] (List.getElem?_eq_getElem hjl)
          show idxB pd l = _
          rw [idxB, e, if_pos hkl]
        generalize bc x = cs at *
        go_wp2_with (refine wpList_load_mid rfl 88 _ rfl b (o + k * 10) rfl cs _ hrng Tryz.underlying88 (by rfl) (by rw [hll]; kernel_rfl) ?_)
        refine hFx.mono ?_
        rw [hx]
        rintro e w2 ⟨rfl, ho2⟩
        go_wp2_with fail
        go_ret
        exact ⟨by rw [hfin.out]; rfl, ho.trans ho2⟩
      | false =>
        have hq2 : Hid (∀ j (hj : j < k + 1), ∀ x, l[j]? = some x → pd x = false) := by
          intro j hj y hy
          by_cases hjk : j = k
          · subst hjk
            rw [Hlk.out] at hy
            cases hy
            exact hx
          · exact hq.out j (by omega) y hy
        generalize bc x = cs at *
        go_wp2_with (refine wpList_load_mid rfl 88 _ rfl b (o + k * 10) rfl cs _ hrng Tryz.underlying88 (by rfl) (by rw [hll]; kernel_rfl) ?_)
        refine hFx.mono ?_
        rw [hx]
        rintro e w2 ⟨rfl, ho2⟩
        go_wp2_with fail
        refine ⟨⟨k + 1, by simp, by omega, hq2.out, ho.trans ho2⟩, by simp [intOf]; omega⟩
    · obtain rfl : k = l.length := by omega
      have d1 : decide ((l.length : Int) < l.length) = false := by simp
      have hfin : Hid (idxB pd l = -1) := by
        show idxB pd l = _
        refine if_neg fun hh => ?_
        have := List.findIdx_getElem (w := hh)
        have h1 := hq.out _ hh l[l.findIdx pd] (List.getElem?_eq_getElem hh)
        exact absurd (this.symm.trans h1) (by simp)
      go_wp2_with fail
      go_ret
      exact ⟨by rw [hfin.out]; rfl, ho⟩

set_option maxRecDepth 100000 in
set_option maxHeartbeats 3200000 in
theorem bindex_once (A : Nat) (pd : Bu → Bool) (v : Value) (l : List Bu) (w : World) (h : RdB w v l) (hl : l.length ≤ 1000000) (hF : Clos 208 #[.pointer (some ⟨A, 0, none⟩)] pd w) :
    Calls Tryz.prog 204 #[v, .func (.func 208) #[] #[.pointer (some ⟨A, 0, none⟩)]] w fun e w' => e = .returned (.int .i64 (idxB pd l)) ∧ Only w w' [] := by
  obtain ⟨ao, c, rfl⟩ := h.slice
  have HS := fun (hp : 0 < l.length) => src_rec bc_len (by decide) h hp
  clear h
  go_enter Tryz.func204, Tryz.ntmps204
  go_wp2_with fail
  go_loopw [8] (fun i wr => ∃ k : Nat, i = .int .i64 k ∧ k ≤ l.length ∧ (∀ j (hj : j < k), ∀ x, l[j]? = some x → pd x = false) ∧ Only w wr []) (fun i _ => l.length - (intOf i).toNat)
  case atStart => exact ⟨0, rfl, Nat.zero_le _, fun j hj => by omega, Only.refl _ _⟩
  case round =>
    obtain ⟨k, rfl, hk, hq, ho⟩ := hrel
    have hq := Lib.hid hq
    by_cases hkl : k < l.length
    · obtain ⟨b, o, rfl, hr⟩ := HS (by omega)
      have hrng := hr wr ho k hkl
      have hlk : l[k]? = some l[k] := List.getElem?_eq_getElem hkl
      have hFx := hF l[k] wr ho
      generalize l[k] = x at *
      have hll := bc_len x
      have Hlk := Lib.hid hlk
      clear hlk HS hr
      have d1 : decide ((k : Int) < l.length) = true := by simpa using hkl
      cases hx : pd x with
      | true =>
        have hfin : Hid (idxB pd l = k) := by
          have e : l.findIdx pd = k := by
            rw [List.findIdx_eq hkl]
            have hlk := Hlk.out
            rw [List.getElem?_eq_getElem hkl] at hlk
            refine ⟨by rw [Option.some.inj hlk]; exact hx, fun j hj => ?_⟩
            have hjl : j < l.length := by omega
            exact hq.out j hj l[j] (List.getElem?_eq_getElem hjl)
          show idxB pd l = _
          rw [idxB, e, if_pos hkl]
        generalize bc x = cs at *
        go_wp2_with (refine wpList_load_mid rfl 88 _ rfl b (o + k * 10) rfl cs _ hrng Tryz.underlying88 (by rfl) (by rw [hll]; kernel_rfl) ?_)
        refine hFx.mono ?_
        rw [hx]
        rintro e w2 ⟨rfl, ho2⟩
        go_wp2_with fail
        go_ret
        exact ⟨by rw [hfin.out]; rfl, ho.trans ho2⟩
      | false =>
        have hq2 : Hid (∀ j (hj : j < k + 1), ∀ x, l[j]? = some x → pd x = false) := by
          intro j hj y hy
          by_cases hjk : j = k
          · subst hjk
            rw [Hlk.out] at hy
            cases hy
            exact hx
          · exact hq.out j (by omega) y hy
        generalize bc x = cs at *
        go_wp2_with (refine wpList_load_mid rfl 88 _ rfl b (o + k * 10) rfl cs _ hrng Tryz.underlying88 (by rfl) (by rw [hll]; kernel_rfl) ?_)
        refine hFx.mono ?_
        rw [hx]
        rintro e w2 ⟨rfl, ho2⟩
        go_wp2_with fail
        refine ⟨⟨k + 1, by simp, by omega, hq2.out, ho.trans ho2⟩, by simp [intOf]; omega⟩
    · obtain rfl : k = l.length := by omega
      have d1 : decide ((l.length : Int) < l.length) = false := by simp
      have hfin : Hid (idxB pd l = -1) := by
        show idxB pd l = _
        refine if_neg fun hh => ?_
        have := List.findIdx_getElem (w := hh)
        have h1 := hq.out _ hh l[l.findIdx pd] (List.getElem?_eq_getElem hh)
        exact absurd (this.symm.trans h1) (by simp)
      go_wp2_with fail
      go_ret
      exact ⟨by rw [hfin.out]; rfl, ho⟩

theorem idx_any (pd : Bu → Bool) (l : List Bu) : decide (0 ≤ idxB pd l) = l.any pd := by
  unfold idxB
  by_cases h : l.findIdx pd < l.length
  · rw [if_pos h]
    have : l.any pd = true := by
      rw [List.any_eq_true]
      exact ⟨_, List.getElem_mem h, List.findIdx_getElem (w := h)⟩
    rw [this]; simp
  · rw [if_neg h]
    have : l.any pd = false := by
      rw [List.any_eq_false]
      intro x hx hp
      exact h (List.findIdx_lt_length_of_exists ⟨x, hx, hp⟩)
    rw [this]; simp

set_option maxRecDepth 100000 in
theorem contains_has  (pd : Bu → Bool) (v : Value) (l : List Bu) (w : World) (h : RdB w v l) (hl : l.length ≤ 1000000) (hF : Clos 132 #[] pd w) :
    Calls Tryz.prog 131 #[v, .func (.func 132) #[] #[]] w fun e w' => e = .returned (.bool (l.any pd)) ∧ Only w w' [] := by
  have HI := bindex_has  pd v l w h hl hF
  rw [← idx_any]
  obtain ⟨ao, c, rfl⟩ := h.slice
  go_enter Tryz.func131, Tryz.ntmps131
  go_wp2_with fail
  refine HI.mono ?_
  rintro e w1 ⟨rfl, o1⟩
  go_wp2_with fail
  go_ret
  exact ⟨rfl, o1⟩

set_option maxRecDepth 100000 in
theorem contains_o1 (A : Nat) (pd : Bu → Bool) (v : Value) (l : List Bu) (w : World) (h : RdB w v l) (hl : l.length ≤ 1000000) (hF : Clos 133 #[.pointer (some ⟨A, 0, none⟩)] pd w) :
    Calls Tryz.prog 131 #[v, .func (.func 133) #[] #[.pointer (some ⟨A, 0, none⟩)]] w fun e w' => e = .returned (.bool (l.any pd)) ∧ Only w w' [] := by
  have HI := bindex_o1 A pd v l w h hl hF
  rw [← idx_any]
  obtain ⟨ao, c, rfl⟩ := h.slice
  go_enter Tryz.func131, Tryz.ntmps131
  go_wp2_with fail
  refine HI.mono ?_
  rintro e w1 ⟨rfl, o1⟩
  go_wp2_with fail
  go_ret
  exact ⟨rfl, o1⟩

set_option maxRecDepth 100000 in
theorem contains_o2 (A : Nat) (pd : Bu → Bool) (v : Value) (l : List Bu) (w : World) (h : RdB w v l) (hl : l.length ≤ 1000000) (hF : Clos 207 #[.pointer (some ⟨A, 0, none⟩)] pd w) :
    Calls Tryz.prog 131 #[v, .func (.func 207) #[] #[.pointer (some ⟨A, 0, none⟩)]] w fun e w' => e = .returned (.bool (l.any pd)) ∧ Only w w' [] := by
  have HI := bindex_o2 A pd v l w h hl hF
  rw [← idx_any]
  obtain ⟨ao, c, rfl⟩ := h.slice
  go_enter Tryz.func131, Tryz.ntmps131
  go_wp2_with fail
  refine HI.mono ?_
  rintro e w1 ⟨rfl, o1⟩
  go_wp2_with fail
  go_ret
  exact ⟨rfl, o1⟩
theorem clos_has (w : World) : Clos 132 #[] (fun x => !x.has) w := fun x w' ho => by
  have h5 : (bc x).toArray[7]? = some (.bool x.has) := rfl
  simp only [Array.append_empty]
  generalize bc x = cs at *
  go_enter Tryz.func132, Tryz.ntmps132
  go_wp2_with (refine wpList_box_new rfl 88 _ rfl (.agg cs.toArray) rfl ?_; intro X wX oX hXl hX; have hx5 := (cell_in hX 7).trans h5)
  go_ret
  exact ⟨rfl, oX⟩
def other (u d : Int) (x : Bu) : Bool := !(x.u == u && x.d == d)
theorem clos_other1 (A : Nat) (u d : Int) (w : World) (h : w.heap[A]? = some (.cells #[.int .i64 u, .int .i64 d] 40 (0, 0))) : Clos 133 #[.pointer (some ⟨A, 0, none⟩)] (other u d) w := fun x w' ho => by
  have hA := ho.at h (by simp)
  have h0 : (bc x).toArray[0]? = some (.int .i64 x.u) := rfl
  have h1 : (bc x).toArray[1]? = some (.int .i64 x.d) := rfl
  show Calls _ _ #[.agg (bc x).toArray, .pointer (some ⟨A, 0, none⟩)] _ _
  generalize bc x = cs at *
  go_enter Tryz.func133, Tryz.ntmps133
  go_wp2_with (refine wpList_box_new rfl 88 _ rfl (.agg cs.toArray) rfl ?_; intro X wX oX hXl hX; have hx0 := (cell_in hX 0).trans h0; have hx1 := (cell_in hX 1).trans h1; have hAX := oX.at hA (by simp); have ha0 := cell_two0 hAX; have ha1 := cell_two1 hAX)
  all_goals (go_ret; refine ⟨?_, oX⟩; simp_all [other])
theorem clos_other2 (A : Nat) (u d : Int) (w : World) (h : w.heap[A]? = some (.cells #[.int .i64 u, .int .i64 d] 40 (0, 0))) : Clos 207 #[.pointer (some ⟨A, 0, none⟩)] (other u d) w := fun x w' ho => by
  have hA := ho.at h (by simp)
  have h0 : (bc x).toArray[0]? = some (.int .i64 x.u) := rfl
  have h1 : (bc x).toArray[1]? = some (.int .i64 x.d) := rfl
  show Calls _ _ #[.agg (bc x).toArray, .pointer (some ⟨A, 0, none⟩)] _ _
  generalize bc x = cs at *
  go_enter Tryz.func207, Tryz.ntmps207
  go_wp2_with (refine wpList_box_new rfl 88 _ rfl (.agg cs.toArray) rfl ?_; intro X wX oX hXl hX; have hx0 := (cell_in hX 0).trans h0; have hx1 := (cell_in hX 1).trans h1; have hAX := oX.at hA (by simp); have ha0 := cell_two0 hAX; have ha1 := cell_two1 hAX)
  all_goals (go_ret; refine ⟨?_, oX⟩; simp_all [other])
theorem clos_once (A : Nat) (b : Bu) (w : World) (h : w.heap[A]? = some (.cells (bc b).toArray 88 (0, 0))) : Clos 208 #[.pointer (some ⟨A, 0, none⟩)] (fun x => x.on == b.on) w := fun x w' ho => by
  have hA := ho.at h (by simp)
  have h0 : (bc x).toArray[8]? = some (.int .u32 x.on) := rfl
  have h1 : (bc b).toArray[8]? = some (.int .u32 b.on) := rfl
  show Calls _ _ #[.agg (bc x).toArray, .pointer (some ⟨A, 0, none⟩)] _ _
  generalize bc x = cs at *
  generalize bc b = cb at *
  go_enter Tryz.func208, Tryz.ntmps208
  go_wp2_with (refine wpList_box_new rfl 88 _ rfl (.agg cs.toArray) rfl ?_; intro X wX oX hXl hX; have hx0 := (cell_in hX 8).trans h0; have hAX := oX.at hA (by simp); have ha0 := (cell_in hAX 8).trans h1)
  go_ret
  exact ⟨rfl, oX⟩
end Go.Proofs.YtmmhbehlpppdiaaGreatDoor
namespace Go.Pw
open Go.RowKit
theorem setL_mid (pre suf : List Value) : ∀ (us mid : List Value) (j : Nat), j + us.length ≤ mid.length → setL (pre ++ mid ++ suf) (pre.length + j) us = pre ++ setL mid j us ++ suf
  | [], mid, j, _ => rfl
  | u :: us, mid, j, h => by
    simp only [List.length_cons] at h
    have e : (pre ++ mid ++ suf).set (pre.length + j) u = pre ++ mid.set j u ++ suf := by
      rw [List.set_append_left _ _ (by simp; omega), List.set_append_right _ _ (by omega)]
      congr 2
      congr 1
      omega
    simp only [setL]
    rw [e, Nat.add_assoc]
    exact setL_mid pre suf us (mid.set j u) (j + 1) (by rw [List.length_set]; omega)
theorem fl_cells {α : Type} {enc : α → List Value} {size : Nat} (hk : ∀ x, (enc x).length = size) {l : List α} {k : Nat} (hkl : k < l.length) (j : Nat) (us : List Value) (hj : j + us.length ≤ size) (x' : α) (hx : enc x' = setL (enc l[k]) j us) : setL (fl enc l) (k * size + j) us = fl enc (l.set k x') := by
  have e1 : fl enc l = fl enc (l.take k) ++ enc l[k] ++ fl enc (l.drop (k + 1)) := by
    conv => lhs; rw [← List.take_append_drop k l, List.drop_eq_getElem_cons hkl]
    rw [fl_app, fl_cons, List.append_assoc]
  have e2 : fl enc (l.set k x') = fl enc (l.take k) ++ enc x' ++ fl enc (l.drop (k + 1)) := by
    rw [List.set_eq_take_append_cons_drop, if_pos hkl, fl_app, fl_cons, List.append_assoc]
  have e3 : (fl enc (l.take k)).length = k * size := by rw [fl_len hk, List.length_take, Nat.min_eq_left (by omega)]
  rw [e2, hx, ← setL_mid _ _ us (enc l[k]) j (by rw [hk]; exact hj), e3, ← e1]
end Go.Pw
namespace Go.Proofs.YtmmhbehlpppdiaaGreatDoor
open Go.RowKit Go.Pw
def ow (x : Li) : Res := row 88 10 x.v x.os.length (fl bc x.os)
abbrev regR (B : Nat) (v : Value) (l : List Li) (rs : List Res) : List Res := row 90 14 v l.length (fl lc l) :: blk B [v] 93 :: many (l.map ow) :: rs

def gone (x : Li) : Li := { x with on := false, v := .slice none 0 0, os := [], ok := rfl }
def remL (l : List Li) (u d : Int) : List Li := if isL l u d = true then l.modify (placeL l u d) gone else l
theorem isL_at {l : List Li} {u d : Int} (h : isL l u d = true) : foundL l u d = true ∧ ∃ hk : placeL l u d < l.length, l[placeL l u d].on = true := by
  unfold isL at h
  rw [Bool.and_eq_true] at h
  obtain ⟨hk, _⟩ := found_at h.1
  rw [List.getElem?_eq_getElem hk] at h
  exact ⟨h.1, hk, h.2⟩
theorem modify_set {α : Type} (l : List α) (k : Nat) (hk : k < l.length) (f : α → α) : l.modify k f = l.set k (f l[k]) := by
  apply List.ext_getElem
  · simp
  · intro i h1 h2
    rw [List.getElem_modify, List.getElem_set]
    split
    · rename_i e; subst e; rfl
    · rfl

set_option maxRecDepth 100000 in
set_option maxHeartbeats 1600000 in
theorem remove_ok {w0 : World} {rs : List Res} (B : Nat) (l : List Li) (v : Value) (u d : Int) (w : World) (h : Sep w0 w (regR B v l rs)) (hl : l.length ≤ 1000000) (hr : Rise l) (hI : isL l u d = true) :
    Calls Tryz.prog 58 #[.pointer (some ⟨B, 0, none⟩), wv u d] w fun e w' => e = .returned (.int .i64 0) ∧ Sep w0 w' (regR B v (remL l u d) rs) := by
  obtain ⟨ao, c, rfl⟩ := own_slice (show w.ownsRow 0 _ 14 v l.length (fl lc l) from h.head)
  have oA := Only.alloc w (.cells #[.int .i64 u, .int .i64 d] 40) []
  have sB := h.quiet oA
  clear h
  have Hfind := find_any B l _ u d _ sB hl hr
  have e1 : remL l u d = l.modify (placeL l u d) gone := if_pos hI
  obtain ⟨hf, hk, hon⟩ := isL_at hI
  rw [e1, modify_set _ _ hk]
  simp only [wv] at *
  rw [hf] at Hfind
  clear hf e1 hI
  generalize placeL l u d = k at *
  obtain ⟨g, rfl, _⟩ := own_some (show (w.alloc (.cells #[.int .i64 u, .int .i64 d] 40)).ownsRow 0 _ 14 (.slice ao l.length c) l.length (fl lc l) from sB.head) (by omega)
  have hE := fun (w1 : World) (h1 : w1.ownsRow 0 90 14 (.slice (some ⟨g, 0, none⟩) l.length c) l.length (fl lc l)) => rec_cell lc_len h1 hk 2 (v := .bool l[k].on) rfl
  rw [hon] at hE
  have hset : Hid (setL (setL (fl lc l) (k * 14 + 2) [.bool false]) (k * 14 + 13) [.slice none 0 0] = fl lc (l.set k (gone l[k]))) := by
    show _ = _
    rw [fl_cells lc_len hk 2 [.bool false] (by decide) { l[k] with on := false } rfl, fl_cells lc_len (by rw [List.length_set]; exact hk) 13 [.slice none 0 0] (by decide) (gone l[k]) (by rw [List.getElem_set_self]; rfl), List.set_set]
  have hmany : Hid ((l.map ow).set k (ow (gone l[k])) = (l.set k (gone l[k])).map ow) := by
    show _ = _
    rw [List.map_set]
  have hpk : (l.map ow)[k]? = some (ow l[k]) := by rw [List.getElem?_map, List.getElem?_eq_getElem hk]; rfl
  have hlen : (l.set k (gone l[k])).length = l.length := List.length_set ..
  simp only [regR]
  rw [show fl lc (l.set k (gone l[k])) = setL (setL (fl lc l) (k * 14 + 2) [.bool false]) (k * 14 + 13) [.slice none 0 0] from hset.out.symm, hlen]
  have hfl : (fl lc l).length = l.length * 14 := fl_len lc_len l
  clear hset hlen
  generalize l[k] = x at *
  go_enter Tryz.func58, Tryz.ntmps58
  go_wp2_with fail
  refine Hfind.mono ?_
  rintro e w1 ⟨rfl, o1⟩
  have s1 := sB.quiet o1
  have hc := hE w1 s1.head
  have hB : w1.heap[B]? = some (.cells #[.slice (some ⟨g, 0, none⟩) l.length c] 93 (0, 0)) := s1.tail.head
  have hBc := cell_of_one hB
  have hBg : B ∉ [g] := fun hk => s1.two_at (i := 0) (j := 1) rfl rfl (by decide) B hk (by simp [blk])
  clear sB hE o1 oA hon
  go_upto_region 4 with fail
  have sD := s1.quiet (Only.drew w1 [])
  clear s1
  refine wp_region_t (S := fun w' => Only w1.drew w' [g]) 15 (by kernel_rfl) (by kernel_rfl) (Only.refl _ _) (fun hZ hHeld => ?_)
  refine' wpAnyT_take (i := 0) (v := _) hZ (op_at' rfl) (by rfl) (by kernel_rfl) (by kernel_rfl) (by kernel_rfl) (by kernel_rfl) (fun _ _ _ h => h) (Or.inl ⟨by rfl, ?hy1⟩) (by assumption) ?rest1
  case hy1 =>
    intro w' hS
    go_simp
    try with_reducible rfl
  try simp only [Act.put, List.setIfInBounds_toArray, List.set_cons_zero, List.set_cons_succ]
  refine' wpAnyT_take (i := 1) (v := _) hZ (op_at' rfl) (by rfl) (by kernel_rfl) (by kernel_rfl) (by kernel_rfl) (by kernel_rfl) (fun _ _ _ h => h) (Or.inl ⟨by rfl, ?hy2⟩) (by assumption) ?rest2
  case hy2 =>
    intro w' hS
    have hc0 := cell_of_one (hS.at (show w1.drew.heap[B]? = _ from hB) hBg)
    go_simp
    try with_reducible rfl
  try simp only [Act.put, List.setIfInBounds_toArray, List.set_cons_zero, List.set_cons_succ]
  refine' wpAnyT_take (i := 2) (v := _) hZ (op_at' rfl) (by rfl) (by kernel_rfl) (by kernel_rfl) (by kernel_rfl) (by kernel_rfl) (fun _ _ _ h => h) (Or.inl ⟨by rfl, ?hy3⟩) (by assumption) ?rest3
  case hy3 =>
    intro w' hS
    go_simp
    try with_reducible rfl
  try simp only [Act.put, List.setIfInBounds_toArray, List.set_cons_zero, List.set_cons_succ]
  refine' wpAnyT_take (i := 3) (v := _) hZ (op_at' rfl) (by rfl) (by kernel_rfl) (by kernel_rfl) (by kernel_rfl) (by kernel_rfl) (fun _ _ _ h => h) (Or.inl ⟨by rfl, ?hy4⟩) (by assumption) ?rest4
  case hy4 =>
    intro w' hS
    have hc0 := cell_of_one (hS.at (show w1.drew.heap[B]? = _ from hB) hBg)
    go_simp
    try with_reducible rfl
  try simp only [Act.put, List.setIfInBounds_toArray, List.set_cons_zero, List.set_cons_succ]
  refine' wpAnyT_take (i := 4) (v := _) hZ (op_at' rfl) (by rfl) (by kernel_rfl) (by kernel_rfl) (by kernel_rfl) (by kernel_rfl) (fun _ _ _ h => h) (Or.inl ⟨by rfl, ?hy5⟩) (by assumption) ?rest5
  case hy5 =>
    intro w' hS
    go_simp
    try with_reducible rfl
  try simp only [Act.put, List.setIfInBounds_toArray, List.set_cons_zero, List.set_cons_succ]
  refine' wpAnyT_take (i := 5) (v := _) hZ (op_at' rfl) (by rfl) (by kernel_rfl) (by kernel_rfl) (by kernel_rfl) (by kernel_rfl) (fun _ _ _ h => h) (Or.inl ⟨by rfl, ?hy6⟩) (by assumption) ?rest6
  case hy6 =>
    intro w' hS
    go_simp
    try with_reducible rfl
  try simp only [Act.put, List.setIfInBounds_toArray, List.set_cons_zero, List.set_cons_succ]
  refine' wpAnyT_take (i := 6) (v := _) hZ (op_at' rfl) (by rfl) (by kernel_rfl) (by kernel_rfl) (by kernel_rfl) (by kernel_rfl) (fun _ _ _ h => h) (Or.inl ⟨by rfl, ?hy7⟩) (by assumption) ?rest7
  case hy7 =>
    intro w' hS
    have hc0 := cell_of_one (hS.at (show w1.drew.heap[B]? = _ from hB) hBg)
    go_simp
    try with_reducible rfl
  try simp only [Act.put, List.setIfInBounds_toArray, List.set_cons_zero, List.set_cons_succ]
  refine' wpAnyT_take (i := 7) (v := _) hZ (op_at' rfl) (by rfl) (by kernel_rfl) (by kernel_rfl) (by kernel_rfl) (by kernel_rfl) (fun _ _ _ h => h) (Or.inl ⟨by rfl, ?hy8⟩) (by assumption) ?rest8
  case hy8 =>
    intro w' hS
    go_simp
    try with_reducible rfl
  try simp only [Act.put, List.setIfInBounds_toArray, List.set_cons_zero, List.set_cons_succ]
  refine' wpAnyT_take (i := 8) (v := _) hZ (op_at' rfl) (by rfl) (by kernel_rfl) (by kernel_rfl) (by kernel_rfl) (by kernel_rfl) (fun _ _ _ h => h) (Or.inl ⟨by rfl, ?hy9⟩) (by assumption) ?rest9
  case hy9 =>
    intro w' hS
    have hc0 := cell_of_one (hS.at (show w1.drew.heap[B]? = _ from hB) hBg)
    go_simp
    try with_reducible rfl
  try simp only [Act.put, List.setIfInBounds_toArray, List.set_cons_zero, List.set_cons_succ]
  refine' wpAnyT_take (i := 9) (v := _) hZ (op_at' rfl) (by rfl) (by kernel_rfl) (by kernel_rfl) (by kernel_rfl) (by kernel_rfl) (fun _ _ _ h => h) (Or.inl ⟨by rfl, ?hy10⟩) (by assumption) ?rest10
  case hy10 =>
    intro w' hS
    go_simp
    try with_reducible rfl
  try simp only [Act.put, List.setIfInBounds_toArray, List.set_cons_zero, List.set_cons_succ]
  refine' wpAnyT_take (i := 10) (v := _) hZ (op_at' rfl) (by rfl) (by kernel_rfl) (by kernel_rfl) (by kernel_rfl) (by kernel_rfl) (fun _ _ _ h => h) (Or.inl ⟨by rfl, ?hy11⟩) (by assumption) ?rest11
  case hy11 =>
    intro w' hS
    go_simp
    try with_reducible rfl
  try simp only [Act.put, List.setIfInBounds_toArray, List.set_cons_zero, List.set_cons_succ]
  refine' wpAnyT_take (i := 11) (v := _) hZ (op_at' rfl) (by rfl) (by kernel_rfl) (by kernel_rfl) (by kernel_rfl) (by kernel_rfl) (fun _ _ _ h => h) (Or.inl ⟨by rfl, ?hy12⟩) (by assumption) ?rest12
  case hy12 =>
    intro w' hS
    go_simp
    try with_reducible rfl
  try simp only [Act.put, List.setIfInBounds_toArray, List.set_cons_zero, List.set_cons_succ]
  refine wpAnyT_one (i := 12) (by kernel_rfl) (op_at' rfl) (fun K hK => ?_)
  refine step_store_rec (by rfl) 4 _ _ (by rfl) g (k * 14 + 2) (.bool false) [.bool false] (by rfl) 90 14 l.length c _ (by rfl) (by rfl) sD (by simp; omega) (by kernel_rfl) (by simp [Value.oneCell']) (fun w12 o12 s12 => ?_)
  go_wp2_with fail
  refine hK.out _ _ o12 (fun hHeld => ?_)
  clear hK K
  try simp only [Act.put, List.setIfInBounds_toArray, List.set_cons_zero, List.set_cons_succ]
  refine' wpAnyT_take (i := 13) (v := _) hZ (op_at' rfl) (by rfl) (by kernel_rfl) (by kernel_rfl) (by kernel_rfl) (by kernel_rfl) (fun _ _ _ h => h) (Or.inl ⟨by rfl, ?hy13⟩) (by assumption) ?rest13
  case hy13 =>
    intro w' hS
    go_simp
    try with_reducible rfl
  try simp only [Act.put, List.setIfInBounds_toArray, List.set_cons_zero, List.set_cons_succ]
  refine' wpAnyT_take (i := 14) (v := _) hZ (op_at' rfl) (by rfl) (by kernel_rfl) (by kernel_rfl) (by kernel_rfl) (by kernel_rfl) (fun _ _ _ h => h) (Or.inl ⟨by rfl, ?hy14⟩) (by assumption) ?rest14
  case hy14 =>
    intro w' hS
    go_simp
    try with_reducible rfl
  try simp only [Act.put, List.setIfInBounds_toArray, List.set_cons_zero, List.set_cons_succ]
  refine wpAnyT_last (by kernel_rfl) (op_at' rfl) (by kernel_rfl) (fun K hK => ?_)
  refine step_store_rec (by rfl) 69 _ _ (by rfl) g (k * 14 + 13) (.slice none 0 0) [.slice none 0 0] (by rfl) 90 14 l.length c _ (by rfl) (by rfl) s12 (by simp; omega) (by kernel_rfl) (by simp [Value.oneCell']) (fun w15 o15 s15 => ?_)
  go_wp2_with fail
  refine hK.out _ _ ?_
  clear hK K
  try simp only [Act.put, List.setIfInBounds_toArray, List.set_cons_zero, List.set_cons_succ]
  have q1 := ((s15.sel 3 [2, 0, 1]).pick k hpk)
  have q2 : Sep w0 w15 (ow (gone x) :: many ((l.map ow).eraseIdx k) :: row 90 14 (.slice (some ⟨g, 0, none⟩) l.length c) l.length (setL (setL (fl lc l) (k * 14 + 2) [.bool false]) (k * 14 + 13) [.slice none 0 0]) :: blk B [.slice (some ⟨g, 0, none⟩) l.length c] 93 :: rs) :=
    q1.step (L := []) (Only.refl _ _) (by simp) (World.ownsRow_nil _ _ _ _) (fun k hk => by simp [ow, gone, row, Value.ownBlock] at hk)
  have q3 := q2.putk k (by simpa using hk)
  rw [hmany.out] at q3
  have q4 : Sep w0 w15 (row 90 14 (.slice (some ⟨g, 0, none⟩) l.length c) l.length (setL (setL (fl lc l) (k * 14 + 2) [.bool false]) (k * 14 + 13) [.slice none 0 0]) :: blk B [.slice (some ⟨g, 0, none⟩) l.length c] 93 :: many ((l.set k (gone x)).map ow) :: rs) := q3.sel 3 [1, 2, 0]
  clear q1 q2 q3 s12 s15 hmany hpk
  go_wp2_with fail
  go_ret
  exact ⟨rfl, q4⟩
end Go.Proofs.YtmmhbehlpppdiaaGreatDoor
