/- WorldLinks, by hand: Ky3, Ky4, Ky5. -/
import Derived.Test.YtmmhbehlpppdiaaGreatDoorQ3
set_option linter.all false
namespace Go.Proofs.YtmmhbehlpppdiaaGreatDoor.Wl
open Go.RowKit Go.Pw
def TurnP (w0 : World) (PB TB TM KB : Nat) (k : Nat) (m : Int) (sv : Value) (u d : Int) (ag sg : Value) (rs : List Res) (e : Ending) (w' : World) : Prop :=
  e = .returned (.tuple #[]) ∧ ∃ (v' : Value) (l' : List Tm) (m' : Int) (Y c : Nat) (se si : Value), k ≤ l'.length ∧ l'.length ≤ k + 5 ∧ m ≤ m' ∧ m' ≤ m + 1 ∧
    Sep w0 w' (primR PB TB TM v' l' sv m' (blk KB (kc u d ag sg (.slice (some ⟨Y, 0, none⟩) 1 c) (.slice none 0 0) 2 (.slice none 0 0)) 176 :: row 214 3 (.slice (some ⟨Y, 0, none⟩) 1 c) 1 [.int .u32 1, se, si] :: byR se 32 :: byR si 64 :: rs))
set_option maxRecDepth 100000 in
set_option maxHeartbeats 4000000 in
theorem turn_any {w0 : World} {rs : List Res} (PB TB TM KB : Nat) (v : Value) (l : List Tm) (sv : Value) (m : Int) (u d : Int) (ag sg : Value) (w : World) (h : Sep w0 w (primR PB TB TM v l sv m (blk KB (kc u d ag sg (.slice none 0 0) (.slice none 0 0) 1 (.slice none 0 0)) 176 :: rs))) (hI : ItoaOK w0) (hl : l.length ≤ 700000) (hm : 0 ≤ m ∧ m ≤ 900000)
    (hin2 : byR sg 32 ∈ rs) :
    Calls Tryz.prog 63 #[.pointer (some ⟨KB, 0, none⟩), .pointer (some ⟨PB, 0, none⟩)] w (TurnP w0 PB TB TM KB l.length m sv u d ag sg rs) := by
  obtain ⟨i0, hi, hz0, hz1, hz2⟩ := info_parts info_pair
  go_enter Tryz.func63, Tryz.ntmps63
  go_upto_region 2 with (refine wpList_box_new rfl 75 _ rfl (.pointer (some ⟨KB, 0, none⟩)) rfl ?_; intro K2 wX oX lX bX; have k2 := cell_of_one bX)
  have sR := ((h.add (b := blk K2 [.pointer (some ⟨KB, 0, none⟩)] 75) oX bX (fun k hk => by simp [blk] at hk; omega)).sel 6 [1, 2, 3, 4, 5, 0]).quiet (Only.drew wX [])
  clear h oX lX bX k2
  refine wp_region_u (S := fun w' => w'.heap[K2]? = some (.cells #[.pointer (some ⟨KB, 0, none⟩)] 75 (0, 0)) ∧ w'.heap[KB]? = some (.cells (kc u d ag sg (.slice none 0 0) (.slice none 0 0) 1 (.slice none 0 0)).toArray 176 (0, 0))) 8 [] (by kernel_rfl) (by kernel_rfl) ⟨sR.get 5 rfl, sR.get 6 rfl⟩ (fun hZ hHeld => ?_)
  refine' wpAnyU_take (i := 0) (v := _) hZ (op_at' rfl) (by kernel_rfl) (by kernel_rfl) (by kernel_rfl) (by kernel_rfl) (by kernel_rfl) (fun _ _ _ h => h) (Or.inl ⟨by rfl, ?hy1⟩) (by assumption) ?rest1
  case hy1 =>
    intro w' hS
    have k2 := cell_of_one hS.1
    obtain ⟨c0, c1, c2, c3, c4, c5, c6, c7⟩ := kc_at hS.2
    go_simp
    try with_reducible rfl
  try simp only [Act.put, List.setIfInBounds_toArray, List.set_cons_zero, List.set_cons_succ]
  refine' wpAnyU_take (i := 1) (v := _) hZ (op_at' rfl) (by kernel_rfl) (by kernel_rfl) (by kernel_rfl) (by kernel_rfl) (by kernel_rfl) (fun _ _ _ h => h) (Or.inl ⟨by rfl, ?hy2⟩) (by assumption) ?rest2
  case hy2 =>
    intro w' hS
    go_simp
    try with_reducible rfl
  try simp only [Act.put, List.setIfInBounds_toArray, List.set_cons_zero, List.set_cons_succ]
  refine' wpAnyU_take (i := 2) (v := _) hZ (op_at' rfl) (by kernel_rfl) (by kernel_rfl) (by kernel_rfl) (by kernel_rfl) (by kernel_rfl) (fun _ _ _ h => h) (Or.inl ⟨by rfl, ?hy3⟩) (by assumption) ?rest3
  case hy3 =>
    intro w' hS
    go_simp
    try with_reducible rfl
  try simp only [Act.put, List.setIfInBounds_toArray, List.set_cons_zero, List.set_cons_succ]
  refine' wpAnyU_take (i := 3) (v := _) hZ (op_at' rfl) (by kernel_rfl) (by kernel_rfl) (by kernel_rfl) (by kernel_rfl) (by kernel_rfl) (fun _ _ _ h => h) (Or.inl ⟨by rfl, ?hy4⟩) (by assumption) ?rest4
  case hy4 =>
    intro w' hS
    have k2 := cell_of_one hS.1
    obtain ⟨c0, c1, c2, c3, c4, c5, c6, c7⟩ := kc_at hS.2
    go_simp
    try with_reducible rfl
  try simp only [Act.put, List.setIfInBounds_toArray, List.set_cons_zero, List.set_cons_succ]
  refine' wpAnyU_take (i := 4) (v := _) hZ (op_at' rfl) (by kernel_rfl) (by kernel_rfl) (by kernel_rfl) (by kernel_rfl) (by kernel_rfl) (fun _ _ _ h => h) (Or.inl ⟨by rfl, ?hy5⟩) (by assumption) ?rest5
  case hy5 =>
    intro w' hS
    go_simp
    try with_reducible rfl
  try simp only [Act.put, List.setIfInBounds_toArray, List.set_cons_zero, List.set_cons_succ]
  refine wpAnyU_two (i := 5) (k := 7) (by kernel_rfl) (op_at' rfl) (op_at' rfl) (fun K hK => ?bt6a) (fun K hK => ?bt6b)
  case bt6a =>
    have f5 := sR
    go_simp
    refine (fresh_any PB TB TM v l sv m _ f5 hI (by omega) ⟨hm.1, by omega⟩).mono ?_
    rintro e w5 ⟨r5, v5, l5, m5, rfl, a5, b5, c5, d5, s5⟩
    obtain ⟨p1, q1, rfl⟩ := by_slice (s5.get 5 rfl)
    go_wp2_with fail
    refine hK.out _ _ ⟨s5.get 6 rfl, s5.get 7 rfl⟩ (fun hHeld => ?_)
    clear hK K
    try simp only [Act.put, List.setIfInBounds_toArray, List.set_cons_zero, List.set_cons_succ]
    refine' wpAnyU_take (i := 6) (v := _) hZ (op_at' rfl) (by kernel_rfl) (by kernel_rfl) (by kernel_rfl) (by kernel_rfl) (by kernel_rfl) (fun _ _ _ h => h) (Or.inl ⟨by rfl, ?hy7⟩) (by assumption) ?rest7
    case hy7 =>
      intro w' hS
      go_simp
      try with_reducible rfl
    try simp only [Act.put, List.setIfInBounds_toArray, List.set_cons_zero, List.set_cons_succ]
    refine wpAnyU_one (i := 7) (by kernel_rfl) (op_at' rfl) (fun K hK => ?_)
    refine step_alloc_new (by rfl) 214 (by rfl) (.agg #[.int .u32 0, .slice none 0 0, .slice none 0 0]) (fun _ => by kernel_rfl) (fun X w7 o7 l7 b7 => ?_)
    go_wp2_with fail
    refine hK.out _ _ ⟨o7.at hHeld.1 (by simp), o7.at hHeld.2 (by simp)⟩ (fun hHeld => ?_)
    clear hK K
    try simp only [Act.put, List.setIfInBounds_toArray, List.set_cons_zero, List.set_cons_succ]
    have s7 := s5.add (b := blk X [.int .u32 0, .slice none 0 0, .slice none 0 0] 214) o7 b7 (fun k hk => by simp [blk] at hk; omega)
    refine wpAnyU_next (i := 8) (by kernel_rfl) (by simp) (op_at' rfl) (fun K hK => ?_)
    have s8i := s7
    refine step_store_blk (by rfl) 214 _ _ (by rfl) X 0 (.agg #[.int .u32 1, .slice p1 32 q1, .slice none 0 0]) [.int .u32 1, .slice p1 32 q1, .slice none 0 0] [.int .u32 0, .slice none 0 0, .slice none 0 0] 214 (by rfl) (by rfl) (by rfl) s8i (by simp) (by kernel_rfl) (by simp [Value.oneCell']) (fun w8 o8 s8 => ?_)
    go_wp2_with fail
    refine hK.out _ _ ?_
    clear hK K
    try simp only [Act.put, List.setIfInBounds_toArray, List.set_cons_zero, List.set_cons_succ]
    refine wpAnyU_done (by kernel_rfl) ?_ _
    go_upto_region 3 with fail
    have sB : Sep w0 w8.drew (primR PB TB TM v5 l5 sv m5 (byR (.slice p1 32 q1) 32 :: blk X [.int .u32 1, .slice p1 32 q1, .slice none 0 0] 214 :: blk K2 [.pointer (some ⟨KB, 0, none⟩)] 75 :: blk KB (kc u d ag sg (.slice none 0 0) (.slice none 0 0) 1 (.slice none 0 0)) 176 :: rs)) := (s8.sel 9 [1, 2, 3, 4, 5, 6, 0, 7, 8]).quiet (Only.drew w8 [])
    clear s8 s8i hHeld
    refine wp_region_u (S := fun w' => w'.heap[K2]? = some (.cells #[.pointer (some ⟨KB, 0, none⟩)] 75 (0, 0)) ∧ w'.heap[KB]? = some (.cells (kc u d ag sg (.slice none 0 0) (.slice none 0 0) 1 (.slice none 0 0)).toArray 176 (0, 0)) ∧ w'.heap[X]? = some (.cells ([.int .u32 1, .slice p1 32 q1, .slice none 0 0] : List Value).toArray 214 (0, 0))) 14 [] (by kernel_rfl) (by kernel_rfl) ⟨sB.get 7 rfl, sB.get 8 rfl, sB.get 6 rfl⟩ (fun hZ hHeld => ?_)
    refine' wpAnyU_take (i := 0) (v := _) hZ (op_at' rfl) (by kernel_rfl) (by kernel_rfl) (by kernel_rfl) (by kernel_rfl) (by kernel_rfl) (fun _ _ _ h => h) (Or.inl ⟨by rfl, ?hy8⟩) (by assumption) ?rest8
    case hy8 =>
      intro w' hS
      go_simp
      try with_reducible rfl
    try simp only [Act.put, List.setIfInBounds_toArray, List.set_cons_zero, List.set_cons_succ]
    refine' wpAnyU_take (i := 1) (v := _) hZ (op_at' rfl) (by kernel_rfl) (by kernel_rfl) (by kernel_rfl) (by kernel_rfl) (by kernel_rfl) (fun _ _ _ h => h) (Or.inl ⟨by rfl, ?hy9⟩) (by assumption) ?rest9
    case hy9 =>
      intro w' hS
      have k2 := cell_of_one hS.1
      obtain ⟨c0, c1, c2, c3, c4, c5, c6, c7⟩ := kc_at hS.2.1
      have x0 := cell_in hS.2.2 0
      have x1 := cell_in hS.2.2 1
      have x2 := cell_in hS.2.2 2
      go_simp
      try with_reducible rfl
    try simp only [Act.put, List.setIfInBounds_toArray, List.set_cons_zero, List.set_cons_succ]
    refine' wpAnyU_take (i := 2) (v := _) hZ (op_at' rfl) (by kernel_rfl) (by kernel_rfl) (by kernel_rfl) (by kernel_rfl) (by kernel_rfl) (fun _ _ _ h => h) (Or.inl ⟨by rfl, ?hy10⟩) (by assumption) ?rest10
    case hy10 =>
      intro w' hS
      go_simp
      try with_reducible rfl
    try simp only [Act.put, List.setIfInBounds_toArray, List.set_cons_zero, List.set_cons_succ]
    refine' wpAnyU_take (i := 3) (v := _) hZ (op_at' rfl) (by kernel_rfl) (by kernel_rfl) (by kernel_rfl) (by kernel_rfl) (by kernel_rfl) (fun _ _ _ h => h) (Or.inl ⟨by rfl, ?hy11⟩) (by assumption) ?rest11
    case hy11 =>
      intro w' hS
      go_simp
      try with_reducible rfl
    try simp only [Act.put, List.setIfInBounds_toArray, List.set_cons_zero, List.set_cons_succ]
    refine' wpAnyU_take (i := 4) (v := _) hZ (op_at' rfl) (by kernel_rfl) (by kernel_rfl) (by kernel_rfl) (by kernel_rfl) (by kernel_rfl) (fun _ _ _ h => h) (Or.inl ⟨by rfl, ?hy12⟩) (by assumption) ?rest12
    case hy12 =>
      intro w' hS
      have k2 := cell_of_one hS.1
      obtain ⟨c0, c1, c2, c3, c4, c5, c6, c7⟩ := kc_at hS.2.1
      have x0 := cell_in hS.2.2 0
      have x1 := cell_in hS.2.2 1
      have x2 := cell_in hS.2.2 2
      go_simp
      try with_reducible rfl
    try simp only [Act.put, List.setIfInBounds_toArray, List.set_cons_zero, List.set_cons_succ]
    refine' wpAnyU_take (i := 5) (v := _) hZ (op_at' rfl) (by kernel_rfl) (by kernel_rfl) (by kernel_rfl) (by kernel_rfl) (by kernel_rfl) (fun _ _ _ h => h) (Or.inl ⟨by rfl, ?hy13⟩) (by assumption) ?rest13
    case hy13 =>
      intro w' hS
      go_simp
      try with_reducible rfl
    try simp only [Act.put, List.setIfInBounds_toArray, List.set_cons_zero, List.set_cons_succ]
    refine' wpAnyU_take (i := 6) (v := _) hZ (op_at' rfl) (by kernel_rfl) (by kernel_rfl) (by kernel_rfl) (by kernel_rfl) (by kernel_rfl) (fun _ _ _ h => h) (Or.inl ⟨by rfl, ?hy14⟩) (by assumption) ?rest14
    case hy14 =>
      intro w' hS
      have k2 := cell_of_one hS.1
      obtain ⟨c0, c1, c2, c3, c4, c5, c6, c7⟩ := kc_at hS.2.1
      have x0 := cell_in hS.2.2 0
      have x1 := cell_in hS.2.2 1
      have x2 := cell_in hS.2.2 2
      go_simp
      try with_reducible rfl
    try simp only [Act.put, List.setIfInBounds_toArray, List.set_cons_zero, List.set_cons_succ]
    refine' wpAnyU_take (i := 7) (v := _) hZ (op_at' rfl) (by kernel_rfl) (by kernel_rfl) (by kernel_rfl) (by kernel_rfl) (by kernel_rfl) (fun _ _ _ h => h) (Or.inl ⟨by rfl, ?hy15⟩) (by assumption) ?rest15
    case hy15 =>
      intro w' hS
      go_simp
      try with_reducible rfl
    try simp only [Act.put, List.setIfInBounds_toArray, List.set_cons_zero, List.set_cons_succ]
    refine' wpAnyU_take (i := 8) (v := _) hZ (op_at' rfl) (by kernel_rfl) (by kernel_rfl) (by kernel_rfl) (by kernel_rfl) (by kernel_rfl) (fun _ _ _ h => h) (Or.inl ⟨by rfl, ?hy16⟩) (by assumption) ?rest16
    case hy16 =>
      intro w' hS
      go_simp
      try with_reducible rfl
    try simp only [Act.put, List.setIfInBounds_toArray, List.set_cons_zero, List.set_cons_succ]
    refine' wpAnyU_take (i := 9) (v := _) hZ (op_at' rfl) (by kernel_rfl) (by kernel_rfl) (by kernel_rfl) (by kernel_rfl) (by kernel_rfl) (fun _ _ _ h => h) (Or.inl ⟨by rfl, ?hy17⟩) (by assumption) ?rest17
    case hy17 =>
      intro w' hS
      have k2 := cell_of_one hS.1
      obtain ⟨c0, c1, c2, c3, c4, c5, c6, c7⟩ := kc_at hS.2.1
      have x0 := cell_in hS.2.2 0
      have x1 := cell_in hS.2.2 1
      have x2 := cell_in hS.2.2 2
      go_simp
      try with_reducible rfl
    try simp only [Act.put, List.setIfInBounds_toArray, List.set_cons_zero, List.set_cons_succ]
    refine wpAnyU_one (i := 10) (by kernel_rfl) (op_at' rfl) (fun K hK => ?_)
    go_simp
    refine (public_any PB TB TM v5 l5 sv m5 (.slice p1 32 q1) 32 _ sB hI (by omega) (by simp) (by decide)).mono ?_
    rintro e wa ⟨ra, va, la, ma, rfl, ia, ja, ga, ha, sa⟩
    obtain ⟨xs, x1, x2, sa1⟩ := by_down (sa.sel 6 [5, 0, 1, 2, 3, 4])
    have hx1 : Pw.Src wa ra 1 xs.length (xs.map (Value.int .u8)) := by rw [x1]; exact own_src (sa1.get 0 rfl)
    go_wp2_with fail
    refine hK.out _ _ ⟨sa1.get 8 rfl, sa1.get 9 rfl, sa1.get 7 rfl⟩ (fun hHeld => ?_)
    clear hK K
    try simp only [Act.put, List.setIfInBounds_toArray, List.set_cons_zero, List.set_cons_succ]
    refine wpAnyU_one (i := 11) (by kernel_rfl) (op_at' rfl) (fun K hK => ?_)
    go_simp
    refine (message_any 1 ra xs _ (by decide) (by decide) hx1 (by omega)).mono ?_
    rintro e wb ⟨rb, ms, rfl, hms, qb⟩
    have sb := (sa1.more qb).sel 7 [2, 3, 4, 5, 6, 0, 1]
    go_wp2_with fail
    refine hK.out _ _ ⟨sb.get 9 rfl, sb.get 10 rfl, sb.get 8 rfl⟩ (fun hHeld => ?_)
    clear hK K
    try simp only [Act.put, List.setIfInBounds_toArray, List.set_cons_zero, List.set_cons_succ]
    refine wpAnyU_one (i := 12) (by kernel_rfl) (op_at' rfl) (fun K hK => ?_)
    go_simp
    refine (sign_any PB TB TM va la sv ma sg rb 32 ms _ sb hI (by omega) (by simp [hin2]) (by decide) (by simp) hms).mono ?_
    rintro e wc ⟨rc, vc, lc, mc, rfl, ic, jc, gc, hc, sc⟩
    obtain ⟨p3, q3, rfl⟩ := by_slice (sc.get 5 rfl)
    go_wp2_with fail
    refine hK.out _ _ ⟨sc.get 10 rfl, sc.get 11 rfl, sc.get 9 rfl⟩ (fun hHeld => ?_)
    clear hK K
    try simp only [Act.put, List.setIfInBounds_toArray, List.set_cons_zero, List.set_cons_succ]
    refine' wpAnyU_take (i := 13) (v := _) hZ (op_at' rfl) (by kernel_rfl) (by kernel_rfl) (by kernel_rfl) (by kernel_rfl) (by kernel_rfl) (fun _ _ _ h => h) (Or.inl ⟨by rfl, ?hy18⟩) (by assumption) ?rest18
    case hy18 =>
      intro w' hS
      go_simp
      try with_reducible rfl
    try simp only [Act.put, List.setIfInBounds_toArray, List.set_cons_zero, List.set_cons_succ]
    refine wpAnyU_next (i := 14) (by kernel_rfl) (by simp) (op_at' rfl) (fun K hK => ?_)
    refine step_store_blk (by rfl) 22 _ _ (by rfl) X 2 (.slice p3 64 q3) [.slice p3 64 q3] [.int .u32 1, .slice p1 32 q1, .slice none 0 0] 214 (by rfl) (by rfl) (by rfl) (sc.sel 10 [9, 0, 1, 2, 3, 4, 5, 8]) (by simp) (by kernel_rfl) (by simp [Value.oneCell']) (fun w14 o14 s14 => ?_)
    go_wp2_with fail
    refine hK.out _ _ ?_
    clear hK K
    try simp only [Act.put, List.setIfInBounds_toArray, List.set_cons_zero, List.set_cons_succ]
    refine wpAnyU_done (by kernel_rfl) ?_ _
    have sC : Sep w0 w14 (primR PB TB TM vc lc sv mc (blk X [.int .u32 1, .slice p1 32 q1, .slice p3 64 q3] 214 :: blk K2 [.pointer (some ⟨KB, 0, none⟩)] 75 :: blk KB (kc u d ag sg (.slice none 0 0) (.slice none 0 0) 1 (.slice none 0 0)) 176 :: byR (.slice p1 32 q1) 32 :: byR (.slice p3 64 q3) 64 :: rs)) := s14.sel 10 [1, 2, 3, 4, 5, 0, 8, 9, 7, 6]
    clear s14 sc sb sa sa1 sB qb
    have hKB : w14.heap[KB]? = _ := sC.get 7 rfl
    have hK2 : w14.heap[K2]? = _ := sC.get 6 rfl
    have k2 := cell_of_one hK2
    have c6 := cell_in hKB 6
    have f6 := free_in hKB 6
    have sD := (sC.sel 10 [7, 0, 1, 2, 3, 4, 5, 6, 8, 9]).put 6 (.int .u32 2)
    clear hKB hK2
    go_upto_region 5 with fail
    have sE : Sep w0 (w14.setCell ⟨KB, 6, none⟩ (.int .u32 2)).drew (primR PB TB TM vc lc sv mc (blk X [.int .u32 1, .slice p1 32 q1, .slice p3 64 q3] 214 :: blk K2 [.pointer (some ⟨KB, 0, none⟩)] 75 :: blk KB (kc u d ag sg (.slice none 0 0) (.slice none 0 0) 2 (.slice none 0 0)) 176 :: byR (.slice p1 32 q1) 32 :: byR (.slice p3 64 q3) 64 :: rs)) := (sD.sel 10 [1, 2, 3, 4, 5, 6, 7, 0, 8, 9]).quiet (Only.drew _ [])
    clear sD sC k2 c6 f6
    generalize w14.setCell ⟨KB, 6, none⟩ (.int .u32 2) = wE at *
    refine wp_region_u (S := fun w' => w'.heap[K2]? = some (.cells #[.pointer (some ⟨KB, 0, none⟩)] 75 (0, 0)) ∧ w'.heap[KB]? = some (.cells (kc u d ag sg (.slice none 0 0) (.slice none 0 0) 2 (.slice none 0 0)).toArray 176 (0, 0)) ∧ w'.heap[X]? = some (.cells ([.int .u32 1, .slice p1 32 q1, .slice p3 64 q3] : List Value).toArray 214 (0, 0))) 10 [] (by kernel_rfl) (by kernel_rfl) ⟨sE.get 6 rfl, sE.get 7 rfl, sE.get 5 rfl⟩ (fun hZ hHeld => ?_)
    refine' wpAnyU_take (i := 0) (v := _) hZ (op_at' rfl) (by kernel_rfl) (by kernel_rfl) (by kernel_rfl) (by kernel_rfl) (by kernel_rfl) (fun _ _ _ h => h) (Or.inl ⟨by rfl, ?hy19⟩) (by assumption) ?rest19
    case hy19 =>
      intro w' hS
      have k2 := cell_of_one hS.1
      obtain ⟨c0, c1, c2, c3, c4, c5, c6, c7⟩ := kc_at hS.2.1
      have x0 := cell_in hS.2.2 0
      have x1 := cell_in hS.2.2 1
      have x2 := cell_in hS.2.2 2
      go_simp
      try with_reducible rfl
    try simp only [Act.put, List.setIfInBounds_toArray, List.set_cons_zero, List.set_cons_succ]
    refine wpAnyU_take (i := 1) hZ (op_at' rfl) (by kernel_rfl) (by kernel_rfl) (by kernel_rfl) (by kernel_rfl) (by kernel_rfl) (fun _ _ _ h => h) (yieldsIf_load_mid (by rfl) _ _ rfl X 0 rfl ([.int .u32 1, .slice p1 32 q1, .slice p3 64 q3]) _ (fun w' hS => range_of hS.2.2) Tryz.underlying214 (by rfl) (by kernel_rfl)) (by assumption) ?_
    try simp only [Act.put, List.setIfInBounds_toArray, List.set_cons_zero, List.set_cons_succ]
    refine' wpAnyU_take (i := 3) (v := _) hZ (op_at' rfl) (by kernel_rfl) (by kernel_rfl) (by kernel_rfl) (by kernel_rfl) (by kernel_rfl) (fun _ _ _ h => h) (Or.inl ⟨by rfl, ?hy21⟩) (by assumption) ?rest21
    case hy21 =>
      intro w' hS
      have k2 := cell_of_one hS.1
      obtain ⟨c0, c1, c2, c3, c4, c5, c6, c7⟩ := kc_at hS.2.1
      have x0 := cell_in hS.2.2 0
      have x1 := cell_in hS.2.2 1
      have x2 := cell_in hS.2.2 2
      go_simp
      try with_reducible rfl
    try simp only [Act.put, List.setIfInBounds_toArray, List.set_cons_zero, List.set_cons_succ]
    refine' wpAnyU_take (i := 4) (v := _) hZ (op_at' rfl) (by kernel_rfl) (by kernel_rfl) (by kernel_rfl) (by kernel_rfl) (by kernel_rfl) (fun _ _ _ h => h) (Or.inl ⟨by rfl, ?hy22⟩) (by assumption) ?rest22
    case hy22 =>
      intro w' hS
      go_simp
      try with_reducible rfl
    try simp only [Act.put, List.setIfInBounds_toArray, List.set_cons_zero, List.set_cons_succ]
    refine' wpAnyU_take (i := 5) (v := _) hZ (op_at' rfl) (by kernel_rfl) (by kernel_rfl) (by kernel_rfl) (by kernel_rfl) (by kernel_rfl) (fun _ _ _ h => h) (Or.inl ⟨by rfl, ?hy23⟩) (by assumption) ?rest23
    case hy23 =>
      intro w' hS
      go_simp
      try with_reducible rfl
    try simp only [Act.put, List.setIfInBounds_toArray, List.set_cons_zero, List.set_cons_succ]
    refine' wpAnyU_take (i := 6) (v := _) hZ (op_at' rfl) (by kernel_rfl) (by kernel_rfl) (by kernel_rfl) (by kernel_rfl) (by kernel_rfl) (fun _ _ _ h => h) (Or.inl ⟨by rfl, ?hy24⟩) (by assumption) ?rest24
    case hy24 =>
      intro w' hS
      have k2 := cell_of_one hS.1
      obtain ⟨c0, c1, c2, c3, c4, c5, c6, c7⟩ := kc_at hS.2.1
      have x0 := cell_in hS.2.2 0
      have x1 := cell_in hS.2.2 1
      have x2 := cell_in hS.2.2 2
      go_simp
      try with_reducible rfl
    try simp only [Act.put, List.setIfInBounds_toArray, List.set_cons_zero, List.set_cons_succ]
    refine wpAnyU_one (i := 2) (by kernel_rfl) (op_at' rfl) (fun K hK => ?_)
    refine step_buildSlice_one (by rfl) 173 _ (by rfl) 214 i0 _ [.int .u32 1, .slice p1 32 q1, .slice p3 64 q3] (by rfl) Tryz.underlying173 hi hz0 (by rw [hz1]; rfl) (by rfl) (by simp) (by simp) (fun Y wd od hYl hY => ?_)
    go_wp2_with fail
    refine hK.out _ _ ⟨od.at hHeld.1 (by simp), od.at hHeld.2.1 (by simp), od.at hHeld.2.2 (by simp)⟩ (fun hHeld => ?_)
    clear hK K
    try simp only [Act.put, List.setIfInBounds_toArray, List.set_cons_zero, List.set_cons_succ]
    have sd := sE.add (b := row 214 3 (.slice (some ⟨Y, 0, none⟩) 1 1) 1 [.int .u32 1, .slice p1 32 q1, .slice p3 64 q3]) od (blk_row hY rfl (by decide)) (fun k hk => by simp [row, Value.ownBlock] at hk; omega)
    refine wpAnyU_one (i := 7) (by kernel_rfl) (op_at' rfl) (fun K hK => ?_)
    refine step_append_sep (by rfl) (.tmp 37) (.tmp 41) 173 (by rfl) 214 i0 _ 3 56 Tryz.underlying173 hi hz0 hz1 hz2 rfl (by decide) _ 1 _ (by rfl) sd _ 0 [] (by rfl) src_nil (by simp) (by decide) (by decide) (fun a7 c7 we oe se => ?_)
    go_wp2_with fail
    refine hK.out _ _ ⟨se.get 7 rfl, se.get 8 rfl, se.get 6 rfl⟩ (fun hHeld => ?_)
    clear hK K
    try simp only [Act.put, List.setIfInBounds_toArray, List.set_cons_zero, List.set_cons_succ]
    refine' wpAnyU_take (i := 8) (v := _) hZ (op_at' rfl) (by kernel_rfl) (by kernel_rfl) (by kernel_rfl) (by kernel_rfl) (by kernel_rfl) (fun _ _ _ h => h) (Or.inl ⟨by rfl, ?hy25⟩) (by assumption) ?rest25
    case hy25 =>
      intro w' hS
      go_simp
      try with_reducible rfl
    try simp only [Act.put, List.setIfInBounds_toArray, List.set_cons_zero, List.set_cons_succ]
    refine' wpAnyU_take (i := 9) (v := _) hZ (op_at' rfl) (by kernel_rfl) (by kernel_rfl) (by kernel_rfl) (by kernel_rfl) (by kernel_rfl) (fun _ _ _ h => h) (Or.inl ⟨by rfl, ?hy26⟩) (by assumption) ?rest26
    case hy26 =>
      intro w' hS
      go_simp
      try with_reducible rfl
    try simp only [Act.put, List.setIfInBounds_toArray, List.set_cons_zero, List.set_cons_succ]
    refine wpAnyU_next (i := 10) (by kernel_rfl) (by simp) (op_at' rfl) (fun K hK => ?_)
    refine step_store_blk (by rfl) 173 _ _ (by rfl) KB 4 (.slice a7 1 c7) [.slice a7 1 c7] (kc u d ag sg (.slice none 0 0) (.slice none 0 0) 2 (.slice none 0 0)) 176 (by rfl) (by rfl) (by rfl) (se.sel 9 [8, 0, 1, 2, 3, 4, 5, 6, 7]) (by simp) (by kernel_rfl) (by simp [Value.oneCell']) (fun wf of sf => ?_)
    go_wp2_with fail
    refine hK.out _ _ ?_
    clear hK K
    try simp only [Act.put, List.setIfInBounds_toArray, List.set_cons_zero, List.set_cons_succ]
    refine wpAnyU_done (by kernel_rfl) ?_ _
    have hrow : wf.ownsRow 0 214 3 (.slice a7 1 c7) 1 _ := sf.get 1 rfl
    obtain ⟨gg, rfl, _⟩ := own_some hrow (by decide)
    have hc7 : 1 ≤ c7 := by obtain ⟨_, _, he, hle, _⟩ := own_src hrow; cases he; exact hle
    clear se sd sE hHeld hrow hY
    go_upto_region 6 with fail
    have sH : Sep w0 wf.drew (primR PB TB TM vc lc sv mc (row 214 3 (.slice (some ⟨gg, 0, none⟩) 1 c7) 1 [.int .u32 1, .slice p1 32 q1, .slice p3 64 q3] :: blk K2 [.pointer (some ⟨KB, 0, none⟩)] 75 :: blk KB (kc u d ag sg (.slice (some ⟨gg, 0, none⟩) 1 c7) (.slice none 0 0) 2 (.slice none 0 0)) 176 :: blk X [.int .u32 1, .slice p1 32 q1, .slice p3 64 q3] 214 :: byR (.slice p1 32 q1) 32 :: byR (.slice p3 64 q3) 64 :: rs)) := (sf.sel 9 [2, 3, 4, 5, 6, 1, 8, 0, 7]).quiet (Only.drew wf [])
    clear sf
    have e21 : min (2 : Int) 1 = 1 := by decide
    have hc8 : (1 : Int) ≤ (c7 : Int) := by omega
    refine wp_region_u (S := fun w' => w'.heap[K2]? = some (.cells #[.pointer (some ⟨KB, 0, none⟩)] 75 (0, 0)) ∧ w'.heap[KB]? = some (.cells (kc u d ag sg (.slice (some ⟨gg, 0, none⟩) 1 c7) (.slice none 0 0) 2 (.slice none 0 0)).toArray 176 (0, 0))) 14 [] (by kernel_rfl) (by kernel_rfl) ⟨sH.get 6 rfl, sH.get 7 rfl⟩ (fun hZ hHeld => ?_)
    refine' wpAnyU_take (i := 0) (v := _) hZ (op_at' rfl) (by kernel_rfl) (by kernel_rfl) (by kernel_rfl) (by kernel_rfl) (by kernel_rfl) (fun _ _ _ h => h) (Or.inl ⟨by rfl, ?hy27⟩) (by assumption) ?rest27
    case hy27 =>
      intro w' hS
      have k2 := cell_of_one hS.1
      obtain ⟨c0, c1, c2, c3, c4, c5, c6, c7⟩ := kc_at hS.2
      go_simp
      try with_reducible rfl
    try simp only [Act.put, List.setIfInBounds_toArray, List.set_cons_zero, List.set_cons_succ]
    refine' wpAnyU_take (i := 1) (v := _) hZ (op_at' rfl) (by kernel_rfl) (by kernel_rfl) (by kernel_rfl) (by kernel_rfl) (by kernel_rfl) (fun _ _ _ h => h) (Or.inl ⟨by rfl, ?hy28⟩) (by assumption) ?rest28
    case hy28 =>
      intro w' hS
      have k2 := cell_of_one hS.1
      obtain ⟨c0, c1, c2, c3, c4, c5, c6, c7⟩ := kc_at hS.2
      go_simp
      try with_reducible rfl
    try simp only [Act.put, List.setIfInBounds_toArray, List.set_cons_zero, List.set_cons_succ]
    refine' wpAnyU_take (i := 2) (v := _) hZ (op_at' rfl) (by kernel_rfl) (by kernel_rfl) (by kernel_rfl) (by kernel_rfl) (by kernel_rfl) (fun _ _ _ h => h) (Or.inl ⟨by rfl, ?hy29⟩) (by assumption) ?rest29
    case hy29 =>
      intro w' hS
      go_simp
      try with_reducible rfl
    try simp only [Act.put, List.setIfInBounds_toArray, List.set_cons_zero, List.set_cons_succ]
    refine' wpAnyU_take (i := 3) (v := _) hZ (op_at' rfl) (by kernel_rfl) (by kernel_rfl) (by kernel_rfl) (by kernel_rfl) (by kernel_rfl) (fun _ _ _ h => h) (Or.inl ⟨by rfl, ?hy30⟩) (by assumption) ?rest30
    case hy30 =>
      intro w' hS
      go_simp
      try with_reducible rfl
    try simp only [Act.put, List.setIfInBounds_toArray, List.set_cons_zero, List.set_cons_succ]
    refine' wpAnyU_take (i := 4) (v := _) hZ (op_at' rfl) (by kernel_rfl) (by kernel_rfl) (by kernel_rfl) (by kernel_rfl) (by kernel_rfl) (fun _ _ _ h => h) (Or.inl ⟨by rfl, ?hy31⟩) (by assumption) ?rest31
    case hy31 =>
      intro w' hS
      have k2 := cell_of_one hS.1
      obtain ⟨c0, c1, c2, c3, c4, c5, c6, c7⟩ := kc_at hS.2
      go_simp
      try with_reducible rfl
    try simp only [Act.put, List.setIfInBounds_toArray, List.set_cons_zero, List.set_cons_succ]
    refine' wpAnyU_take (i := 5) (v := _) hZ (op_at' rfl) (by kernel_rfl) (by kernel_rfl) (by kernel_rfl) (by kernel_rfl) (by kernel_rfl) (fun _ _ _ h => h) (Or.inl ⟨by rfl, ?hy32⟩) (by assumption) ?rest32
    case hy32 =>
      intro w' hS
      have k2 := cell_of_one hS.1
      obtain ⟨c0, c1, c2, c3, c4, c5, c6, c7⟩ := kc_at hS.2
      go_simp
      try with_reducible rfl
    try simp only [Act.put, List.setIfInBounds_toArray, List.set_cons_zero, List.set_cons_succ]
    refine' wpAnyU_take (i := 6) (v := _) hZ (op_at' rfl) (by kernel_rfl) (by kernel_rfl) (by kernel_rfl) (by kernel_rfl) (by kernel_rfl) (fun _ _ _ h => h) (Or.inl ⟨by rfl, ?hy33⟩) (by assumption) ?rest33
    case hy33 =>
      intro w' hS
      go_simp
      try with_reducible rfl
    try simp only [Act.put, List.setIfInBounds_toArray, List.set_cons_zero, List.set_cons_succ]
    refine' wpAnyU_take (i := 7) (v := _) hZ (op_at' rfl) (by kernel_rfl) (by kernel_rfl) (by kernel_rfl) (by kernel_rfl) (by kernel_rfl) (fun _ _ _ h => h) (Or.inl ⟨by rfl, ?hy34⟩) (by assumption) ?rest34
    case hy34 =>
      intro w' hS
      go_simp
      try with_reducible rfl
    try simp only [Act.put, List.setIfInBounds_toArray, List.set_cons_zero, List.set_cons_succ]
    refine' wpAnyU_take (i := 8) (v := _) hZ (op_at' rfl) (by kernel_rfl) (by kernel_rfl) (by kernel_rfl) (by kernel_rfl) (by kernel_rfl) (fun _ _ _ h => h) (Or.inl ⟨by rfl, ?hy35⟩) (by assumption) ?rest35
    case hy35 =>
      intro w' hS
      have k2 := cell_of_one hS.1
      obtain ⟨c0, c1, c2, c3, c4, c5, c6, c7⟩ := kc_at hS.2
      go_simp
      try with_reducible rfl
    try simp only [Act.put, List.setIfInBounds_toArray, List.set_cons_zero, List.set_cons_succ]
    refine' wpAnyU_take (i := 9) (v := _) hZ (op_at' rfl) (by kernel_rfl) (by kernel_rfl) (by kernel_rfl) (by kernel_rfl) (by kernel_rfl) (fun _ _ _ h => h) (Or.inl ⟨by rfl, ?hy36⟩) (by assumption) ?rest36
    case hy36 =>
      intro w' hS
      go_simp
      try with_reducible rfl
    try simp only [Act.put, List.setIfInBounds_toArray, List.set_cons_zero, List.set_cons_succ]
    refine wpAnyU_one (i := 10) (by kernel_rfl) (op_at' rfl) (fun K hK => ?_)
    go_simp
    go_wp2_with fail
    refine hK.out _ _ hHeld (fun hHeld => ?_)
    clear hK K
    try simp only [Act.put, List.setIfInBounds_toArray, List.set_cons_zero, List.set_cons_succ]
    refine' wpAnyU_take (i := 11) (v := _) hZ (op_at' rfl) (by kernel_rfl) (by kernel_rfl) (by kernel_rfl) (by kernel_rfl) (by kernel_rfl) (fun _ _ _ h => h) (Or.inl ⟨by rfl, ?hy37⟩) (by assumption) ?rest37
    case hy37 =>
      intro w' hS
      go_simp
      try with_reducible rfl
    try simp only [Act.put, List.setIfInBounds_toArray, List.set_cons_zero, List.set_cons_succ]
    refine' wpAnyU_take (i := 12) (v := _) hZ (op_at' rfl) (by kernel_rfl) (by kernel_rfl) (by kernel_rfl) (by kernel_rfl) (by kernel_rfl) (fun _ _ _ h => h) (Or.inl ⟨by rfl, ?hy38⟩) (by assumption) ?rest38
    case hy38 =>
      intro w' hS
      go_simp
      try with_reducible rfl
    try simp only [Act.put, List.setIfInBounds_toArray, List.set_cons_zero, List.set_cons_succ]
    refine' wpAnyU_take (i := 13) (v := _) hZ (op_at' rfl) (by kernel_rfl) (by kernel_rfl) (by kernel_rfl) (by kernel_rfl) (by kernel_rfl) (fun _ _ _ h => h) (Or.inl ⟨by rfl, ?hy39⟩) (by assumption) ?rest39
    case hy39 =>
      intro w' hS
      go_simp
      try with_reducible rfl
    try simp only [Act.put, List.setIfInBounds_toArray, List.set_cons_zero, List.set_cons_succ]
    refine wpAnyU_next (i := 14) (by kernel_rfl) (by simp) (op_at' rfl) (fun K hK => ?_)
    refine step_store_blk (by rfl) 173 _ _ (by rfl) KB 4 (.slice (some ⟨gg, 0, none⟩) 1 c7) [.slice (some ⟨gg, 0, none⟩) 1 c7] (kc u d ag sg (.slice (some ⟨gg, 0, none⟩) 1 c7) (.slice none 0 0) 2 (.slice none 0 0)) 176 (by rfl) (by rfl) (by rfl) (sH.sel 9 [7, 0, 1, 2, 3, 4, 5, 6, 8]) (by simp) (by kernel_rfl) (by simp [Value.oneCell']) (fun wg og sg6 => ?_)
    go_wp2_with fail
    refine hK.out _ _ ?_
    clear hK K
    try simp only [Act.put, List.setIfInBounds_toArray, List.set_cons_zero, List.set_cons_succ]
    refine wpAnyU_done (by kernel_rfl) ?_ _
    clear sH hHeld
    go_upto_region 7 with fail
    have sI : Sep w0 wg.drew (primR PB TB TM vc lc sv mc (row 214 3 (.slice (some ⟨gg, 0, none⟩) 1 c7) 1 [.int .u32 1, .slice p1 32 q1, .slice p3 64 q3] :: blk K2 [.pointer (some ⟨KB, 0, none⟩)] 75 :: blk KB (kc u d ag sg (.slice (some ⟨gg, 0, none⟩) 1 c7) (.slice none 0 0) 2 (.slice none 0 0)) 176 :: blk X [.int .u32 1, .slice p1 32 q1, .slice p3 64 q3] 214 :: byR (.slice p1 32 q1) 32 :: byR (.slice p3 64 q3) 64 :: rs)) := (sg6.sel 9 [1, 2, 3, 4, 5, 6, 7, 0, 8]).quiet (Only.drew wg [])
    clear sg6
    refine wp_region_u (S := fun w' => w'.heap[K2]? = some (.cells #[.pointer (some ⟨KB, 0, none⟩)] 75 (0, 0)) ∧ w'.heap[KB]? = some (.cells (kc u d ag sg (.slice (some ⟨gg, 0, none⟩) 1 c7) (.slice none 0 0) 2 (.slice none 0 0)).toArray 176 (0, 0))) 9 [] (by kernel_rfl) (by kernel_rfl) ⟨sI.get 6 rfl, sI.get 7 rfl⟩ (fun hZ hHeld => ?_)
    refine' wpAnyU_take (i := 0) (v := _) hZ (op_at' rfl) (by kernel_rfl) (by kernel_rfl) (by kernel_rfl) (by kernel_rfl) (by kernel_rfl) (fun _ _ _ h => h) (Or.inl ⟨by rfl, ?hy40⟩) (by assumption) ?rest40
    case hy40 =>
      intro w' hS
      have k2 := cell_of_one hS.1
      obtain ⟨c0, c1, c2, c3, c4, c5, c6, c7⟩ := kc_at hS.2
      go_simp
      try with_reducible rfl
    try simp only [Act.put, List.setIfInBounds_toArray, List.set_cons_zero, List.set_cons_succ]
    refine' wpAnyU_take (i := 1) (v := _) hZ (op_at' rfl) (by kernel_rfl) (by kernel_rfl) (by kernel_rfl) (by kernel_rfl) (by kernel_rfl) (fun _ _ _ h => h) (Or.inl ⟨by rfl, ?hy41⟩) (by assumption) ?rest41
    case hy41 =>
      intro w' hS
      have k2 := cell_of_one hS.1
      obtain ⟨c0, c1, c2, c3, c4, c5, c6, c7⟩ := kc_at hS.2
      go_simp
      try with_reducible rfl
    try simp only [Act.put, List.setIfInBounds_toArray, List.set_cons_zero, List.set_cons_succ]
    refine' wpAnyU_take (i := 2) (v := _) hZ (op_at' rfl) (by kernel_rfl) (by kernel_rfl) (by kernel_rfl) (by kernel_rfl) (by kernel_rfl) (fun _ _ _ h => h) (Or.inl ⟨by rfl, ?hy42⟩) (by assumption) ?rest42
    case hy42 =>
      intro w' hS
      go_simp
      try with_reducible rfl
    try simp only [Act.put, List.setIfInBounds_toArray, List.set_cons_zero, List.set_cons_succ]
    refine' wpAnyU_take (i := 3) (v := _) hZ (op_at' rfl) (by kernel_rfl) (by kernel_rfl) (by kernel_rfl) (by kernel_rfl) (by kernel_rfl) (fun _ _ _ h => h) (Or.inl ⟨by rfl, ?hy43⟩) (by assumption) ?rest43
    case hy43 =>
      intro w' hS
      go_simp
      try with_reducible rfl
    try simp only [Act.put, List.setIfInBounds_toArray, List.set_cons_zero, List.set_cons_succ]
    refine' wpAnyU_take (i := 4) (v := _) hZ (op_at' rfl) (by kernel_rfl) (by kernel_rfl) (by kernel_rfl) (by kernel_rfl) (by kernel_rfl) (fun _ _ _ h => h) (Or.inl ⟨by rfl, ?hy44⟩) (by assumption) ?rest44
    case hy44 =>
      intro w' hS
      have k2 := cell_of_one hS.1
      obtain ⟨c0, c1, c2, c3, c4, c5, c6, c7⟩ := kc_at hS.2
      go_simp
      try with_reducible rfl
    try simp only [Act.put, List.setIfInBounds_toArray, List.set_cons_zero, List.set_cons_succ]
    refine wpAnyU_one (i := 5) (by kernel_rfl) (op_at' rfl) (fun K hK => ?_)
    go_simp
    go_wp2_with fail
    refine hK.out _ _ hHeld (fun hHeld => ?_)
    clear hK K
    try simp only [Act.put, List.setIfInBounds_toArray, List.set_cons_zero, List.set_cons_succ]
    refine wpAnyU_one (i := 6) (by kernel_rfl) (op_at' rfl) (fun K hK => ?_)
    go_simp
    refine (delnil_any _ _).mono ?_
    rintro e wh ⟨rfl, rfl⟩
    go_wp2_with fail
    refine hK.out _ _ hHeld (fun hHeld => ?_)
    clear hK K
    try simp only [Act.put, List.setIfInBounds_toArray, List.set_cons_zero, List.set_cons_succ]
    refine' wpAnyU_take (i := 7) (v := _) hZ (op_at' rfl) (by kernel_rfl) (by kernel_rfl) (by kernel_rfl) (by kernel_rfl) (by kernel_rfl) (fun _ _ _ h => h) (Or.inl ⟨by rfl, ?hy45⟩) (by assumption) ?rest45
    case hy45 =>
      intro w' hS
      go_simp
      try with_reducible rfl
    try simp only [Act.put, List.setIfInBounds_toArray, List.set_cons_zero, List.set_cons_succ]
    refine' wpAnyU_take (i := 8) (v := _) hZ (op_at' rfl) (by kernel_rfl) (by kernel_rfl) (by kernel_rfl) (by kernel_rfl) (by kernel_rfl) (fun _ _ _ h => h) (Or.inl ⟨by rfl, ?hy46⟩) (by assumption) ?rest46
    case hy46 =>
      intro w' hS
      go_simp
      try with_reducible rfl
    try simp only [Act.put, List.setIfInBounds_toArray, List.set_cons_zero, List.set_cons_succ]
    refine wpAnyU_next (i := 9) (by kernel_rfl) (by simp) (op_at' rfl) (fun K hK => ?_)
    refine step_store_blk (by rfl) 174 _ _ (by rfl) KB 7 (.slice none 0 0) [.slice none 0 0] (kc u d ag sg (.slice (some ⟨gg, 0, none⟩) 1 c7) (.slice none 0 0) 2 (.slice none 0 0)) 176 (by rfl) (by rfl) (by rfl) (sI.sel 9 [7, 0, 1, 2, 3, 4, 5, 6, 8]) (by simp) (by kernel_rfl) (by simp [Value.oneCell']) (fun wi oi si => ?_)
    go_wp2_with fail
    refine hK.out _ _ ?_
    clear hK K
    try simp only [Act.put, List.setIfInBounds_toArray, List.set_cons_zero, List.set_cons_succ]
    refine wpAnyU_done (by kernel_rfl) ?_ _
    go_wp2_with fail
    refine bodyPost_end (v := .tuple #[]) (by simp [results, Tryz.results63, go_sem]) rfl ?_
    exact ⟨rfl, vc, lc, mc, gg, c7, .slice p1 32 q1, .slice p3 64 q3, by omega, by omega, by omega, by omega, si.sel 11 [1, 2, 3, 4, 5, 0, 6, 9, 10]⟩
  case bt6b =>
    refine step_alloc_new (by rfl) 214 (by rfl) (.agg #[.int .u32 0, .slice none 0 0, .slice none 0 0]) (fun _ => by kernel_rfl) (fun X w7 o7 l7 b7 => ?_)
    go_wp2_with fail
    refine hK.out _ _ ⟨o7.at hHeld.1 (by simp), o7.at hHeld.2 (by simp)⟩ (fun hHeld => ?_)
    clear hK K
    try simp only [Act.put, List.setIfInBounds_toArray, List.set_cons_zero, List.set_cons_succ]
    have s7 := sR.add (b := blk X [.int .u32 0, .slice none 0 0, .slice none 0 0] 214) o7 b7 (fun k hk => by simp [blk] at hk; omega)
    refine wpAnyU_one (i := 5) (by kernel_rfl) (op_at' rfl) (fun K hK => ?_)
    have f5 := s7.sel 8 [1, 2, 3, 4, 5, 0, 6, 7]
    go_simp
    refine (fresh_any PB TB TM v l sv m _ f5 hI (by omega) ⟨hm.1, by omega⟩).mono ?_
    rintro e w5 ⟨r5, v5, l5, m5, rfl, a5, b5, c5, d5, s5⟩
    obtain ⟨p1, q1, rfl⟩ := by_slice (s5.get 5 rfl)
    go_wp2_with fail
    refine hK.out _ _ ⟨s5.get 7 rfl, s5.get 8 rfl⟩ (fun hHeld => ?_)
    clear hK K
    try simp only [Act.put, List.setIfInBounds_toArray, List.set_cons_zero, List.set_cons_succ]
    refine' wpAnyU_take (i := 6) (v := _) hZ (op_at' rfl) (by kernel_rfl) (by kernel_rfl) (by kernel_rfl) (by kernel_rfl) (by kernel_rfl) (fun _ _ _ h => h) (Or.inl ⟨by rfl, ?hy47⟩) (by assumption) ?rest47
    case hy47 =>
      intro w' hS
      go_simp
      try with_reducible rfl
    try simp only [Act.put, List.setIfInBounds_toArray, List.set_cons_zero, List.set_cons_succ]
    refine wpAnyU_next (i := 8) (by kernel_rfl) (by simp) (op_at' rfl) (fun K hK => ?_)
    have s8i := s5.sel 9 [6, 0, 1, 2, 3, 4, 5, 7, 8]
    refine step_store_blk (by rfl) 214 _ _ (by rfl) X 0 (.agg #[.int .u32 1, .slice p1 32 q1, .slice none 0 0]) [.int .u32 1, .slice p1 32 q1, .slice none 0 0] [.int .u32 0, .slice none 0 0, .slice none 0 0] 214 (by rfl) (by rfl) (by rfl) s8i (by simp) (by kernel_rfl) (by simp [Value.oneCell']) (fun w8 o8 s8 => ?_)
    go_wp2_with fail
    refine hK.out _ _ ?_
    clear hK K
    try simp only [Act.put, List.setIfInBounds_toArray, List.set_cons_zero, List.set_cons_succ]
    refine wpAnyU_done (by kernel_rfl) ?_ _
    go_upto_region 3 with fail
    have sB : Sep w0 w8.drew (primR PB TB TM v5 l5 sv m5 (byR (.slice p1 32 q1) 32 :: blk X [.int .u32 1, .slice p1 32 q1, .slice none 0 0] 214 :: blk K2 [.pointer (some ⟨KB, 0, none⟩)] 75 :: blk KB (kc u d ag sg (.slice none 0 0) (.slice none 0 0) 1 (.slice none 0 0)) 176 :: rs)) := (s8.sel 9 [1, 2, 3, 4, 5, 6, 0, 7, 8]).quiet (Only.drew w8 [])
    clear s8 s8i hHeld
    refine wp_region_u (S := fun w' => w'.heap[K2]? = some (.cells #[.pointer (some ⟨KB, 0, none⟩)] 75 (0, 0)) ∧ w'.heap[KB]? = some (.cells (kc u d ag sg (.slice none 0 0) (.slice none 0 0) 1 (.slice none 0 0)).toArray 176 (0, 0)) ∧ w'.heap[X]? = some (.cells ([.int .u32 1, .slice p1 32 q1, .slice none 0 0] : List Value).toArray 214 (0, 0))) 14 [] (by kernel_rfl) (by kernel_rfl) ⟨sB.get 7 rfl, sB.get 8 rfl, sB.get 6 rfl⟩ (fun hZ hHeld => ?_)
    refine' wpAnyU_take (i := 0) (v := _) hZ (op_at' rfl) (by kernel_rfl) (by kernel_rfl) (by kernel_rfl) (by kernel_rfl) (by kernel_rfl) (fun _ _ _ h => h) (Or.inl ⟨by rfl, ?hy48⟩) (by assumption) ?rest48
    case hy48 =>
      intro w' hS
      go_simp
      try with_reducible rfl
    try simp only [Act.put, List.setIfInBounds_toArray, List.set_cons_zero, List.set_cons_succ]
    refine' wpAnyU_take (i := 1) (v := _) hZ (op_at' rfl) (by kernel_rfl) (by kernel_rfl) (by kernel_rfl) (by kernel_rfl) (by kernel_rfl) (fun _ _ _ h => h) (Or.inl ⟨by rfl, ?hy49⟩) (by assumption) ?rest49
    case hy49 =>
      intro w' hS
      have k2 := cell_of_one hS.1
      obtain ⟨c0, c1, c2, c3, c4, c5, c6, c7⟩ := kc_at hS.2.1
      have x0 := cell_in hS.2.2 0
      have x1 := cell_in hS.2.2 1
      have x2 := cell_in hS.2.2 2
      go_simp
      try with_reducible rfl
    try simp only [Act.put, List.setIfInBounds_toArray, List.set_cons_zero, List.set_cons_succ]
    refine' wpAnyU_take (i := 2) (v := _) hZ (op_at' rfl) (by kernel_rfl) (by kernel_rfl) (by kernel_rfl) (by kernel_rfl) (by kernel_rfl) (fun _ _ _ h => h) (Or.inl ⟨by rfl, ?hy50⟩) (by assumption) ?rest50
    case hy50 =>
      intro w' hS
      go_simp
      try with_reducible rfl
    try simp only [Act.put, List.setIfInBounds_toArray, List.set_cons_zero, List.set_cons_succ]
    refine' wpAnyU_take (i := 3) (v := _) hZ (op_at' rfl) (by kernel_rfl) (by kernel_rfl) (by kernel_rfl) (by kernel_rfl) (by kernel_rfl) (fun _ _ _ h => h) (Or.inl ⟨by rfl, ?hy51⟩) (by assumption) ?rest51
    case hy51 =>
      intro w' hS
      go_simp
      try with_reducible rfl
    try simp only [Act.put, List.setIfInBounds_toArray, List.set_cons_zero, List.set_cons_succ]
    refine' wpAnyU_take (i := 4) (v := _) hZ (op_at' rfl) (by kernel_rfl) (by kernel_rfl) (by kernel_rfl) (by kernel_rfl) (by kernel_rfl) (fun _ _ _ h => h) (Or.inl ⟨by rfl, ?hy52⟩) (by assumption) ?rest52
    case hy52 =>
      intro w' hS
      have k2 := cell_of_one hS.1
      obtain ⟨c0, c1, c2, c3, c4, c5, c6, c7⟩ := kc_at hS.2.1
      have x0 := cell_in hS.2.2 0
      have x1 := cell_in hS.2.2 1
      have x2 := cell_in hS.2.2 2
      go_simp
      try with_reducible rfl
    try simp only [Act.put, List.setIfInBounds_toArray, List.set_cons_zero, List.set_cons_succ]
    refine' wpAnyU_take (i := 5) (v := _) hZ (op_at' rfl) (by kernel_rfl) (by kernel_rfl) (by kernel_rfl) (by kernel_rfl) (by kernel_rfl) (fun _ _ _ h => h) (Or.inl ⟨by rfl, ?hy53⟩) (by assumption) ?rest53
    case hy53 =>
      intro w' hS
      go_simp
      try with_reducible rfl
    try simp only [Act.put, List.setIfInBounds_toArray, List.set_cons_zero, List.set_cons_succ]
    refine' wpAnyU_take (i := 6) (v := _) hZ (op_at' rfl) (by kernel_rfl) (by kernel_rfl) (by kernel_rfl) (by kernel_rfl) (by kernel_rfl) (fun _ _ _ h => h) (Or.inl ⟨by rfl, ?hy54⟩) (by assumption) ?rest54
    case hy54 =>
      intro w' hS
      have k2 := cell_of_one hS.1
      obtain ⟨c0, c1, c2, c3, c4, c5, c6, c7⟩ := kc_at hS.2.1
      have x0 := cell_in hS.2.2 0
      have x1 := cell_in hS.2.2 1
      have x2 := cell_in hS.2.2 2
      go_simp
      try with_reducible rfl
    try simp only [Act.put, List.setIfInBounds_toArray, List.set_cons_zero, List.set_cons_succ]
    refine' wpAnyU_take (i := 7) (v := _) hZ (op_at' rfl) (by kernel_rfl) (by kernel_rfl) (by kernel_rfl) (by kernel_rfl) (by kernel_rfl) (fun _ _ _ h => h) (Or.inl ⟨by rfl, ?hy55⟩) (by assumption) ?rest55
    case hy55 =>
      intro w' hS
      go_simp
      try with_reducible rfl
    try simp only [Act.put, List.setIfInBounds_toArray, List.set_cons_zero, List.set_cons_succ]
    refine' wpAnyU_take (i := 8) (v := _) hZ (op_at' rfl) (by kernel_rfl) (by kernel_rfl) (by kernel_rfl) (by kernel_rfl) (by kernel_rfl) (fun _ _ _ h => h) (Or.inl ⟨by rfl, ?hy56⟩) (by assumption) ?rest56
    case hy56 =>
      intro w' hS
      go_simp
      try with_reducible rfl
    try simp only [Act.put, List.setIfInBounds_toArray, List.set_cons_zero, List.set_cons_succ]
    refine' wpAnyU_take (i := 9) (v := _) hZ (op_at' rfl) (by kernel_rfl) (by kernel_rfl) (by kernel_rfl) (by kernel_rfl) (by kernel_rfl) (fun _ _ _ h => h) (Or.inl ⟨by rfl, ?hy57⟩) (by assumption) ?rest57
    case hy57 =>
      intro w' hS
      have k2 := cell_of_one hS.1
      obtain ⟨c0, c1, c2, c3, c4, c5, c6, c7⟩ := kc_at hS.2.1
      have x0 := cell_in hS.2.2 0
      have x1 := cell_in hS.2.2 1
      have x2 := cell_in hS.2.2 2
      go_simp
      try with_reducible rfl
    try simp only [Act.put, List.setIfInBounds_toArray, List.set_cons_zero, List.set_cons_succ]
    refine wpAnyU_one (i := 10) (by kernel_rfl) (op_at' rfl) (fun K hK => ?_)
    go_simp
    refine (public_any PB TB TM v5 l5 sv m5 (.slice p1 32 q1) 32 _ sB hI (by omega) (by simp) (by decide)).mono ?_
    rintro e wa ⟨ra, va, la, ma, rfl, ia, ja, ga, ha, sa⟩
    obtain ⟨xs, x1, x2, sa1⟩ := by_down (sa.sel 6 [5, 0, 1, 2, 3, 4])
    have hx1 : Pw.Src wa ra 1 xs.length (xs.map (Value.int .u8)) := by rw [x1]; exact own_src (sa1.get 0 rfl)
    go_wp2_with fail
    refine hK.out _ _ ⟨sa1.get 8 rfl, sa1.get 9 rfl, sa1.get 7 rfl⟩ (fun hHeld => ?_)
    clear hK K
    try simp only [Act.put, List.setIfInBounds_toArray, List.set_cons_zero, List.set_cons_succ]
    refine wpAnyU_one (i := 11) (by kernel_rfl) (op_at' rfl) (fun K hK => ?_)
    go_simp
    refine (message_any 1 ra xs _ (by decide) (by decide) hx1 (by omega)).mono ?_
    rintro e wb ⟨rb, ms, rfl, hms, qb⟩
    have sb := (sa1.more qb).sel 7 [2, 3, 4, 5, 6, 0, 1]
    go_wp2_with fail
    refine hK.out _ _ ⟨sb.get 9 rfl, sb.get 10 rfl, sb.get 8 rfl⟩ (fun hHeld => ?_)
    clear hK K
    try simp only [Act.put, List.setIfInBounds_toArray, List.set_cons_zero, List.set_cons_succ]
    refine wpAnyU_one (i := 12) (by kernel_rfl) (op_at' rfl) (fun K hK => ?_)
    go_simp
    refine (sign_any PB TB TM va la sv ma sg rb 32 ms _ sb hI (by omega) (by simp [hin2]) (by decide) (by simp) hms).mono ?_
    rintro e wc ⟨rc, vc, lc, mc, rfl, ic, jc, gc, hc, sc⟩
    obtain ⟨p3, q3, rfl⟩ := by_slice (sc.get 5 rfl)
    go_wp2_with fail
    refine hK.out _ _ ⟨sc.get 10 rfl, sc.get 11 rfl, sc.get 9 rfl⟩ (fun hHeld => ?_)
    clear hK K
    try simp only [Act.put, List.setIfInBounds_toArray, List.set_cons_zero, List.set_cons_succ]
    refine' wpAnyU_take (i := 13) (v := _) hZ (op_at' rfl) (by kernel_rfl) (by kernel_rfl) (by kernel_rfl) (by kernel_rfl) (by kernel_rfl) (fun _ _ _ h => h) (Or.inl ⟨by rfl, ?hy58⟩) (by assumption) ?rest58
    case hy58 =>
      intro w' hS
      go_simp
      try with_reducible rfl
    try simp only [Act.put, List.setIfInBounds_toArray, List.set_cons_zero, List.set_cons_succ]
    refine wpAnyU_next (i := 14) (by kernel_rfl) (by simp) (op_at' rfl) (fun K hK => ?_)
    refine step_store_blk (by rfl) 22 _ _ (by rfl) X 2 (.slice p3 64 q3) [.slice p3 64 q3] [.int .u32 1, .slice p1 32 q1, .slice none 0 0] 214 (by rfl) (by rfl) (by rfl) (sc.sel 10 [9, 0, 1, 2, 3, 4, 5, 8]) (by simp) (by kernel_rfl) (by simp [Value.oneCell']) (fun w14 o14 s14 => ?_)
    go_wp2_with fail
    refine hK.out _ _ ?_
    clear hK K
    try simp only [Act.put, List.setIfInBounds_toArray, List.set_cons_zero, List.set_cons_succ]
    refine wpAnyU_done (by kernel_rfl) ?_ _
    have sC : Sep w0 w14 (primR PB TB TM vc lc sv mc (blk X [.int .u32 1, .slice p1 32 q1, .slice p3 64 q3] 214 :: blk K2 [.pointer (some ⟨KB, 0, none⟩)] 75 :: blk KB (kc u d ag sg (.slice none 0 0) (.slice none 0 0) 1 (.slice none 0 0)) 176 :: byR (.slice p1 32 q1) 32 :: byR (.slice p3 64 q3) 64 :: rs)) := s14.sel 10 [1, 2, 3, 4, 5, 0, 8, 9, 7, 6]
    clear s14 sc sb sa sa1 sB qb
    have hKB : w14.heap[KB]? = _ := sC.get 7 rfl
    have hK2 : w14.heap[K2]? = _ := sC.get 6 rfl
    have k2 := cell_of_one hK2
    have c6 := cell_in hKB 6
    have f6 := free_in hKB 6
    have sD := (sC.sel 10 [7, 0, 1, 2, 3, 4, 5, 6, 8, 9]).put 6 (.int .u32 2)
    clear hKB hK2
    go_upto_region 5 with fail
    have sE : Sep w0 (w14.setCell ⟨KB, 6, none⟩ (.int .u32 2)).drew (primR PB TB TM vc lc sv mc (blk X [.int .u32 1, .slice p1 32 q1, .slice p3 64 q3] 214 :: blk K2 [.pointer (some ⟨KB, 0, none⟩)] 75 :: blk KB (kc u d ag sg (.slice none 0 0) (.slice none 0 0) 2 (.slice none 0 0)) 176 :: byR (.slice p1 32 q1) 32 :: byR (.slice p3 64 q3) 64 :: rs)) := (sD.sel 10 [1, 2, 3, 4, 5, 6, 7, 0, 8, 9]).quiet (Only.drew _ [])
    clear sD sC k2 c6 f6
    generalize w14.setCell ⟨KB, 6, none⟩ (.int .u32 2) = wE at *
    refine wp_region_u (S := fun w' => w'.heap[K2]? = some (.cells #[.pointer (some ⟨KB, 0, none⟩)] 75 (0, 0)) ∧ w'.heap[KB]? = some (.cells (kc u d ag sg (.slice none 0 0) (.slice none 0 0) 2 (.slice none 0 0)).toArray 176 (0, 0)) ∧ w'.heap[X]? = some (.cells ([.int .u32 1, .slice p1 32 q1, .slice p3 64 q3] : List Value).toArray 214 (0, 0))) 10 [] (by kernel_rfl) (by kernel_rfl) ⟨sE.get 6 rfl, sE.get 7 rfl, sE.get 5 rfl⟩ (fun hZ hHeld => ?_)
    refine' wpAnyU_take (i := 0) (v := _) hZ (op_at' rfl) (by kernel_rfl) (by kernel_rfl) (by kernel_rfl) (by kernel_rfl) (by kernel_rfl) (fun _ _ _ h => h) (Or.inl ⟨by rfl, ?hy59⟩) (by assumption) ?rest59
    case hy59 =>
      intro w' hS
      have k2 := cell_of_one hS.1
      obtain ⟨c0, c1, c2, c3, c4, c5, c6, c7⟩ := kc_at hS.2.1
      have x0 := cell_in hS.2.2 0
      have x1 := cell_in hS.2.2 1
      have x2 := cell_in hS.2.2 2
      go_simp
      try with_reducible rfl
    try simp only [Act.put, List.setIfInBounds_toArray, List.set_cons_zero, List.set_cons_succ]
    refine wpAnyU_take (i := 1) hZ (op_at' rfl) (by kernel_rfl) (by kernel_rfl) (by kernel_rfl) (by kernel_rfl) (by kernel_rfl) (fun _ _ _ h => h) (yieldsIf_load_mid (by rfl) _ _ rfl X 0 rfl ([.int .u32 1, .slice p1 32 q1, .slice p3 64 q3]) _ (fun w' hS => range_of hS.2.2) Tryz.underlying214 (by rfl) (by kernel_rfl)) (by assumption) ?_
    try simp only [Act.put, List.setIfInBounds_toArray, List.set_cons_zero, List.set_cons_succ]
    refine' wpAnyU_take (i := 3) (v := _) hZ (op_at' rfl) (by kernel_rfl) (by kernel_rfl) (by kernel_rfl) (by kernel_rfl) (by kernel_rfl) (fun _ _ _ h => h) (Or.inl ⟨by rfl, ?hy61⟩) (by assumption) ?rest61
    case hy61 =>
      intro w' hS
      have k2 := cell_of_one hS.1
      obtain ⟨c0, c1, c2, c3, c4, c5, c6, c7⟩ := kc_at hS.2.1
      have x0 := cell_in hS.2.2 0
      have x1 := cell_in hS.2.2 1
      have x2 := cell_in hS.2.2 2
      go_simp
      try with_reducible rfl
    try simp only [Act.put, List.setIfInBounds_toArray, List.set_cons_zero, List.set_cons_succ]
    refine' wpAnyU_take (i := 4) (v := _) hZ (op_at' rfl) (by kernel_rfl) (by kernel_rfl) (by kernel_rfl) (by kernel_rfl) (by kernel_rfl) (fun _ _ _ h => h) (Or.inl ⟨by rfl, ?hy62⟩) (by assumption) ?rest62
    case hy62 =>
      intro w' hS
      go_simp
      try with_reducible rfl
    try simp only [Act.put, List.setIfInBounds_toArray, List.set_cons_zero, List.set_cons_succ]
    refine' wpAnyU_take (i := 5) (v := _) hZ (op_at' rfl) (by kernel_rfl) (by kernel_rfl) (by kernel_rfl) (by kernel_rfl) (by kernel_rfl) (fun _ _ _ h => h) (Or.inl ⟨by rfl, ?hy63⟩) (by assumption) ?rest63
    case hy63 =>
      intro w' hS
      go_simp
      try with_reducible rfl
    try simp only [Act.put, List.setIfInBounds_toArray, List.set_cons_zero, List.set_cons_succ]
    refine' wpAnyU_take (i := 6) (v := _) hZ (op_at' rfl) (by kernel_rfl) (by kernel_rfl) (by kernel_rfl) (by kernel_rfl) (by kernel_rfl) (fun _ _ _ h => h) (Or.inl ⟨by rfl, ?hy64⟩) (by assumption) ?rest64
    case hy64 =>
      intro w' hS
      have k2 := cell_of_one hS.1
      obtain ⟨c0, c1, c2, c3, c4, c5, c6, c7⟩ := kc_at hS.2.1
      have x0 := cell_in hS.2.2 0
      have x1 := cell_in hS.2.2 1
      have x2 := cell_in hS.2.2 2
      go_simp
      try with_reducible rfl
    try simp only [Act.put, List.setIfInBounds_toArray, List.set_cons_zero, List.set_cons_succ]
    refine wpAnyU_one (i := 2) (by kernel_rfl) (op_at' rfl) (fun K hK => ?_)
    refine step_buildSlice_one (by rfl) 173 _ (by rfl) 214 i0 _ [.int .u32 1, .slice p1 32 q1, .slice p3 64 q3] (by rfl) Tryz.underlying173 hi hz0 (by rw [hz1]; rfl) (by rfl) (by simp) (by simp) (fun Y wd od hYl hY => ?_)
    go_wp2_with fail
    refine hK.out _ _ ⟨od.at hHeld.1 (by simp), od.at hHeld.2.1 (by simp), od.at hHeld.2.2 (by simp)⟩ (fun hHeld => ?_)
    clear hK K
    try simp only [Act.put, List.setIfInBounds_toArray, List.set_cons_zero, List.set_cons_succ]
    have sd := sE.add (b := row 214 3 (.slice (some ⟨Y, 0, none⟩) 1 1) 1 [.int .u32 1, .slice p1 32 q1, .slice p3 64 q3]) od (blk_row hY rfl (by decide)) (fun k hk => by simp [row, Value.ownBlock] at hk; omega)
    refine wpAnyU_one (i := 7) (by kernel_rfl) (op_at' rfl) (fun K hK => ?_)
    refine step_append_sep (by rfl) (.tmp 37) (.tmp 41) 173 (by rfl) 214 i0 _ 3 56 Tryz.underlying173 hi hz0 hz1 hz2 rfl (by decide) _ 1 _ (by rfl) sd _ 0 [] (by rfl) src_nil (by simp) (by decide) (by decide) (fun a7 c7 we oe se => ?_)
    go_wp2_with fail
    refine hK.out _ _ ⟨se.get 7 rfl, se.get 8 rfl, se.get 6 rfl⟩ (fun hHeld => ?_)
    clear hK K
    try simp only [Act.put, List.setIfInBounds_toArray, List.set_cons_zero, List.set_cons_succ]
    refine' wpAnyU_take (i := 8) (v := _) hZ (op_at' rfl) (by kernel_rfl) (by kernel_rfl) (by kernel_rfl) (by kernel_rfl) (by kernel_rfl) (fun _ _ _ h => h) (Or.inl ⟨by rfl, ?hy65⟩) (by assumption) ?rest65
    case hy65 =>
      intro w' hS
      go_simp
      try with_reducible rfl
    try simp only [Act.put, List.setIfInBounds_toArray, List.set_cons_zero, List.set_cons_succ]
    refine' wpAnyU_take (i := 9) (v := _) hZ (op_at' rfl) (by kernel_rfl) (by kernel_rfl) (by kernel_rfl) (by kernel_rfl) (by kernel_rfl) (fun _ _ _ h => h) (Or.inl ⟨by rfl, ?hy66⟩) (by assumption) ?rest66
    case hy66 =>
      intro w' hS
      go_simp
      try with_reducible rfl
    try simp only [Act.put, List.setIfInBounds_toArray, List.set_cons_zero, List.set_cons_succ]
    refine wpAnyU_next (i := 10) (by kernel_rfl) (by simp) (op_at' rfl) (fun K hK => ?_)
    refine step_store_blk (by rfl) 173 _ _ (by rfl) KB 4 (.slice a7 1 c7) [.slice a7 1 c7] (kc u d ag sg (.slice none 0 0) (.slice none 0 0) 2 (.slice none 0 0)) 176 (by rfl) (by rfl) (by rfl) (se.sel 9 [8, 0, 1, 2, 3, 4, 5, 6, 7]) (by simp) (by kernel_rfl) (by simp [Value.oneCell']) (fun wf of sf => ?_)
    go_wp2_with fail
    refine hK.out _ _ ?_
    clear hK K
    try simp only [Act.put, List.setIfInBounds_toArray, List.set_cons_zero, List.set_cons_succ]
    refine wpAnyU_done (by kernel_rfl) ?_ _
    have hrow : wf.ownsRow 0 214 3 (.slice a7 1 c7) 1 _ := sf.get 1 rfl
    obtain ⟨gg, rfl, _⟩ := own_some hrow (by decide)
    have hc7 : 1 ≤ c7 := by obtain ⟨_, _, he, hle, _⟩ := own_src hrow; cases he; exact hle
    clear se sd sE hHeld hrow hY
    go_upto_region 6 with fail
    have sH : Sep w0 wf.drew (primR PB TB TM vc lc sv mc (row 214 3 (.slice (some ⟨gg, 0, none⟩) 1 c7) 1 [.int .u32 1, .slice p1 32 q1, .slice p3 64 q3] :: blk K2 [.pointer (some ⟨KB, 0, none⟩)] 75 :: blk KB (kc u d ag sg (.slice (some ⟨gg, 0, none⟩) 1 c7) (.slice none 0 0) 2 (.slice none 0 0)) 176 :: blk X [.int .u32 1, .slice p1 32 q1, .slice p3 64 q3] 214 :: byR (.slice p1 32 q1) 32 :: byR (.slice p3 64 q3) 64 :: rs)) := (sf.sel 9 [2, 3, 4, 5, 6, 1, 8, 0, 7]).quiet (Only.drew wf [])
    clear sf
    have e21 : min (2 : Int) 1 = 1 := by decide
    have hc8 : (1 : Int) ≤ (c7 : Int) := by omega
    refine wp_region_u (S := fun w' => w'.heap[K2]? = some (.cells #[.pointer (some ⟨KB, 0, none⟩)] 75 (0, 0)) ∧ w'.heap[KB]? = some (.cells (kc u d ag sg (.slice (some ⟨gg, 0, none⟩) 1 c7) (.slice none 0 0) 2 (.slice none 0 0)).toArray 176 (0, 0))) 14 [] (by kernel_rfl) (by kernel_rfl) ⟨sH.get 6 rfl, sH.get 7 rfl⟩ (fun hZ hHeld => ?_)
    refine' wpAnyU_take (i := 0) (v := _) hZ (op_at' rfl) (by kernel_rfl) (by kernel_rfl) (by kernel_rfl) (by kernel_rfl) (by kernel_rfl) (fun _ _ _ h => h) (Or.inl ⟨by rfl, ?hy67⟩) (by assumption) ?rest67
    case hy67 =>
      intro w' hS
      have k2 := cell_of_one hS.1
      obtain ⟨c0, c1, c2, c3, c4, c5, c6, c7⟩ := kc_at hS.2
      go_simp
      try with_reducible rfl
    try simp only [Act.put, List.setIfInBounds_toArray, List.set_cons_zero, List.set_cons_succ]
    refine' wpAnyU_take (i := 1) (v := _) hZ (op_at' rfl) (by kernel_rfl) (by kernel_rfl) (by kernel_rfl) (by kernel_rfl) (by kernel_rfl) (fun _ _ _ h => h) (Or.inl ⟨by rfl, ?hy68⟩) (by assumption) ?rest68
    case hy68 =>
      intro w' hS
      have k2 := cell_of_one hS.1
      obtain ⟨c0, c1, c2, c3, c4, c5, c6, c7⟩ := kc_at hS.2
      go_simp
      try with_reducible rfl
    try simp only [Act.put, List.setIfInBounds_toArray, List.set_cons_zero, List.set_cons_succ]
    refine' wpAnyU_take (i := 2) (v := _) hZ (op_at' rfl) (by kernel_rfl) (by kernel_rfl) (by kernel_rfl) (by kernel_rfl) (by kernel_rfl) (fun _ _ _ h => h) (Or.inl ⟨by rfl, ?hy69⟩) (by assumption) ?rest69
    case hy69 =>
      intro w' hS
      go_simp
      try with_reducible rfl
    try simp only [Act.put, List.setIfInBounds_toArray, List.set_cons_zero, List.set_cons_succ]
    refine' wpAnyU_take (i := 3) (v := _) hZ (op_at' rfl) (by kernel_rfl) (by kernel_rfl) (by kernel_rfl) (by kernel_rfl) (by kernel_rfl) (fun _ _ _ h => h) (Or.inl ⟨by rfl, ?hy70⟩) (by assumption) ?rest70
    case hy70 =>
      intro w' hS
      go_simp
      try with_reducible rfl
    try simp only [Act.put, List.setIfInBounds_toArray, List.set_cons_zero, List.set_cons_succ]
    refine' wpAnyU_take (i := 4) (v := _) hZ (op_at' rfl) (by kernel_rfl) (by kernel_rfl) (by kernel_rfl) (by kernel_rfl) (by kernel_rfl) (fun _ _ _ h => h) (Or.inl ⟨by rfl, ?hy71⟩) (by assumption) ?rest71
    case hy71 =>
      intro w' hS
      have k2 := cell_of_one hS.1
      obtain ⟨c0, c1, c2, c3, c4, c5, c6, c7⟩ := kc_at hS.2
      go_simp
      try with_reducible rfl
    try simp only [Act.put, List.setIfInBounds_toArray, List.set_cons_zero, List.set_cons_succ]
    refine' wpAnyU_take (i := 5) (v := _) hZ (op_at' rfl) (by kernel_rfl) (by kernel_rfl) (by kernel_rfl) (by kernel_rfl) (by kernel_rfl) (fun _ _ _ h => h) (Or.inl ⟨by rfl, ?hy72⟩) (by assumption) ?rest72
    case hy72 =>
      intro w' hS
      have k2 := cell_of_one hS.1
      obtain ⟨c0, c1, c2, c3, c4, c5, c6, c7⟩ := kc_at hS.2
      go_simp
      try with_reducible rfl
    try simp only [Act.put, List.setIfInBounds_toArray, List.set_cons_zero, List.set_cons_succ]
    refine' wpAnyU_take (i := 6) (v := _) hZ (op_at' rfl) (by kernel_rfl) (by kernel_rfl) (by kernel_rfl) (by kernel_rfl) (by kernel_rfl) (fun _ _ _ h => h) (Or.inl ⟨by rfl, ?hy73⟩) (by assumption) ?rest73
    case hy73 =>
      intro w' hS
      go_simp
      try with_reducible rfl
    try simp only [Act.put, List.setIfInBounds_toArray, List.set_cons_zero, List.set_cons_succ]
    refine' wpAnyU_take (i := 7) (v := _) hZ (op_at' rfl) (by kernel_rfl) (by kernel_rfl) (by kernel_rfl) (by kernel_rfl) (by kernel_rfl) (fun _ _ _ h => h) (Or.inl ⟨by rfl, ?hy74⟩) (by assumption) ?rest74
    case hy74 =>
      intro w' hS
      go_simp
      try with_reducible rfl
    try simp only [Act.put, List.setIfInBounds_toArray, List.set_cons_zero, List.set_cons_succ]
    refine' wpAnyU_take (i := 8) (v := _) hZ (op_at' rfl) (by kernel_rfl) (by kernel_rfl) (by kernel_rfl) (by kernel_rfl) (by kernel_rfl) (fun _ _ _ h => h) (Or.inl ⟨by rfl, ?hy75⟩) (by assumption) ?rest75
    case hy75 =>
      intro w' hS
      have k2 := cell_of_one hS.1
      obtain ⟨c0, c1, c2, c3, c4, c5, c6, c7⟩ := kc_at hS.2
      go_simp
      try with_reducible rfl
    try simp only [Act.put, List.setIfInBounds_toArray, List.set_cons_zero, List.set_cons_succ]
    refine' wpAnyU_take (i := 9) (v := _) hZ (op_at' rfl) (by kernel_rfl) (by kernel_rfl) (by kernel_rfl) (by kernel_rfl) (by kernel_rfl) (fun _ _ _ h => h) (Or.inl ⟨by rfl, ?hy76⟩) (by assumption) ?rest76
    case hy76 =>
      intro w' hS
      go_simp
      try with_reducible rfl
    try simp only [Act.put, List.setIfInBounds_toArray, List.set_cons_zero, List.set_cons_succ]
    refine wpAnyU_one (i := 10) (by kernel_rfl) (op_at' rfl) (fun K hK => ?_)
    go_simp
    go_wp2_with fail
    refine hK.out _ _ hHeld (fun hHeld => ?_)
    clear hK K
    try simp only [Act.put, List.setIfInBounds_toArray, List.set_cons_zero, List.set_cons_succ]
    refine' wpAnyU_take (i := 11) (v := _) hZ (op_at' rfl) (by kernel_rfl) (by kernel_rfl) (by kernel_rfl) (by kernel_rfl) (by kernel_rfl) (fun _ _ _ h => h) (Or.inl ⟨by rfl, ?hy77⟩) (by assumption) ?rest77
    case hy77 =>
      intro w' hS
      go_simp
      try with_reducible rfl
    try simp only [Act.put, List.setIfInBounds_toArray, List.set_cons_zero, List.set_cons_succ]
    refine' wpAnyU_take (i := 12) (v := _) hZ (op_at' rfl) (by kernel_rfl) (by kernel_rfl) (by kernel_rfl) (by kernel_rfl) (by kernel_rfl) (fun _ _ _ h => h) (Or.inl ⟨by rfl, ?hy78⟩) (by assumption) ?rest78
    case hy78 =>
      intro w' hS
      go_simp
      try with_reducible rfl
    try simp only [Act.put, List.setIfInBounds_toArray, List.set_cons_zero, List.set_cons_succ]
    refine' wpAnyU_take (i := 13) (v := _) hZ (op_at' rfl) (by kernel_rfl) (by kernel_rfl) (by kernel_rfl) (by kernel_rfl) (by kernel_rfl) (fun _ _ _ h => h) (Or.inl ⟨by rfl, ?hy79⟩) (by assumption) ?rest79
    case hy79 =>
      intro w' hS
      go_simp
      try with_reducible rfl
    try simp only [Act.put, List.setIfInBounds_toArray, List.set_cons_zero, List.set_cons_succ]
    refine wpAnyU_next (i := 14) (by kernel_rfl) (by simp) (op_at' rfl) (fun K hK => ?_)
    refine step_store_blk (by rfl) 173 _ _ (by rfl) KB 4 (.slice (some ⟨gg, 0, none⟩) 1 c7) [.slice (some ⟨gg, 0, none⟩) 1 c7] (kc u d ag sg (.slice (some ⟨gg, 0, none⟩) 1 c7) (.slice none 0 0) 2 (.slice none 0 0)) 176 (by rfl) (by rfl) (by rfl) (sH.sel 9 [7, 0, 1, 2, 3, 4, 5, 6, 8]) (by simp) (by kernel_rfl) (by simp [Value.oneCell']) (fun wg og sg6 => ?_)
    go_wp2_with fail
    refine hK.out _ _ ?_
    clear hK K
    try simp only [Act.put, List.setIfInBounds_toArray, List.set_cons_zero, List.set_cons_succ]
    refine wpAnyU_done (by kernel_rfl) ?_ _
    clear sH hHeld
    go_upto_region 7 with fail
    have sI : Sep w0 wg.drew (primR PB TB TM vc lc sv mc (row 214 3 (.slice (some ⟨gg, 0, none⟩) 1 c7) 1 [.int .u32 1, .slice p1 32 q1, .slice p3 64 q3] :: blk K2 [.pointer (some ⟨KB, 0, none⟩)] 75 :: blk KB (kc u d ag sg (.slice (some ⟨gg, 0, none⟩) 1 c7) (.slice none 0 0) 2 (.slice none 0 0)) 176 :: blk X [.int .u32 1, .slice p1 32 q1, .slice p3 64 q3] 214 :: byR (.slice p1 32 q1) 32 :: byR (.slice p3 64 q3) 64 :: rs)) := (sg6.sel 9 [1, 2, 3, 4, 5, 6, 7, 0, 8]).quiet (Only.drew wg [])
    clear sg6
    refine wp_region_u (S := fun w' => w'.heap[K2]? = some (.cells #[.pointer (some ⟨KB, 0, none⟩)] 75 (0, 0)) ∧ w'.heap[KB]? = some (.cells (kc u d ag sg (.slice (some ⟨gg, 0, none⟩) 1 c7) (.slice none 0 0) 2 (.slice none 0 0)).toArray 176 (0, 0))) 9 [] (by kernel_rfl) (by kernel_rfl) ⟨sI.get 6 rfl, sI.get 7 rfl⟩ (fun hZ hHeld => ?_)
    refine' wpAnyU_take (i := 0) (v := _) hZ (op_at' rfl) (by kernel_rfl) (by kernel_rfl) (by kernel_rfl) (by kernel_rfl) (by kernel_rfl) (fun _ _ _ h => h) (Or.inl ⟨by rfl, ?hy80⟩) (by assumption) ?rest80
    case hy80 =>
      intro w' hS
      have k2 := cell_of_one hS.1
      obtain ⟨c0, c1, c2, c3, c4, c5, c6, c7⟩ := kc_at hS.2
      go_simp
      try with_reducible rfl
    try simp only [Act.put, List.setIfInBounds_toArray, List.set_cons_zero, List.set_cons_succ]
    refine' wpAnyU_take (i := 1) (v := _) hZ (op_at' rfl) (by kernel_rfl) (by kernel_rfl) (by kernel_rfl) (by kernel_rfl) (by kernel_rfl) (fun _ _ _ h => h) (Or.inl ⟨by rfl, ?hy81⟩) (by assumption) ?rest81
    case hy81 =>
      intro w' hS
      have k2 := cell_of_one hS.1
      obtain ⟨c0, c1, c2, c3, c4, c5, c6, c7⟩ := kc_at hS.2
      go_simp
      try with_reducible rfl
    try simp only [Act.put, List.setIfInBounds_toArray, List.set_cons_zero, List.set_cons_succ]
    refine' wpAnyU_take (i := 2) (v := _) hZ (op_at' rfl) (by kernel_rfl) (by kernel_rfl) (by kernel_rfl) (by kernel_rfl) (by kernel_rfl) (fun _ _ _ h => h) (Or.inl ⟨by rfl, ?hy82⟩) (by assumption) ?rest82
    case hy82 =>
      intro w' hS
      go_simp
      try with_reducible rfl
    try simp only [Act.put, List.setIfInBounds_toArray, List.set_cons_zero, List.set_cons_succ]
    refine' wpAnyU_take (i := 3) (v := _) hZ (op_at' rfl) (by kernel_rfl) (by kernel_rfl) (by kernel_rfl) (by kernel_rfl) (by kernel_rfl) (fun _ _ _ h => h) (Or.inl ⟨by rfl, ?hy83⟩) (by assumption) ?rest83
    case hy83 =>
      intro w' hS
      go_simp
      try with_reducible rfl
    try simp only [Act.put, List.setIfInBounds_toArray, List.set_cons_zero, List.set_cons_succ]
    refine' wpAnyU_take (i := 4) (v := _) hZ (op_at' rfl) (by kernel_rfl) (by kernel_rfl) (by kernel_rfl) (by kernel_rfl) (by kernel_rfl) (fun _ _ _ h => h) (Or.inl ⟨by rfl, ?hy84⟩) (by assumption) ?rest84
    case hy84 =>
      intro w' hS
      have k2 := cell_of_one hS.1
      obtain ⟨c0, c1, c2, c3, c4, c5, c6, c7⟩ := kc_at hS.2
      go_simp
      try with_reducible rfl
    try simp only [Act.put, List.setIfInBounds_toArray, List.set_cons_zero, List.set_cons_succ]
    refine wpAnyU_one (i := 5) (by kernel_rfl) (op_at' rfl) (fun K hK => ?_)
    go_simp
    go_wp2_with fail
    refine hK.out _ _ hHeld (fun hHeld => ?_)
    clear hK K
    try simp only [Act.put, List.setIfInBounds_toArray, List.set_cons_zero, List.set_cons_succ]
    refine wpAnyU_one (i := 6) (by kernel_rfl) (op_at' rfl) (fun K hK => ?_)
    go_simp
    refine (delnil_any _ _).mono ?_
    rintro e wh ⟨rfl, rfl⟩
    go_wp2_with fail
    refine hK.out _ _ hHeld (fun hHeld => ?_)
    clear hK K
    try simp only [Act.put, List.setIfInBounds_toArray, List.set_cons_zero, List.set_cons_succ]
    refine' wpAnyU_take (i := 7) (v := _) hZ (op_at' rfl) (by kernel_rfl) (by kernel_rfl) (by kernel_rfl) (by kernel_rfl) (by kernel_rfl) (fun _ _ _ h => h) (Or.inl ⟨by rfl, ?hy85⟩) (by assumption) ?rest85
    case hy85 =>
      intro w' hS
      go_simp
      try with_reducible rfl
    try simp only [Act.put, List.setIfInBounds_toArray, List.set_cons_zero, List.set_cons_succ]
    refine' wpAnyU_take (i := 8) (v := _) hZ (op_at' rfl) (by kernel_rfl) (by kernel_rfl) (by kernel_rfl) (by kernel_rfl) (by kernel_rfl) (fun _ _ _ h => h) (Or.inl ⟨by rfl, ?hy86⟩) (by assumption) ?rest86
    case hy86 =>
      intro w' hS
      go_simp
      try with_reducible rfl
    try simp only [Act.put, List.setIfInBounds_toArray, List.set_cons_zero, List.set_cons_succ]
    refine wpAnyU_next (i := 9) (by kernel_rfl) (by simp) (op_at' rfl) (fun K hK => ?_)
    refine step_store_blk (by rfl) 174 _ _ (by rfl) KB 7 (.slice none 0 0) [.slice none 0 0] (kc u d ag sg (.slice (some ⟨gg, 0, none⟩) 1 c7) (.slice none 0 0) 2 (.slice none 0 0)) 176 (by rfl) (by rfl) (by rfl) (sI.sel 9 [7, 0, 1, 2, 3, 4, 5, 6, 8]) (by simp) (by kernel_rfl) (by simp [Value.oneCell']) (fun wi oi si => ?_)
    go_wp2_with fail
    refine hK.out _ _ ?_
    clear hK K
    try simp only [Act.put, List.setIfInBounds_toArray, List.set_cons_zero, List.set_cons_succ]
    refine wpAnyU_done (by kernel_rfl) ?_ _
    go_wp2_with fail
    refine bodyPost_end (v := .tuple #[]) (by simp [results, Tryz.results63, go_sem]) rfl ?_
    exact ⟨rfl, vc, lc, mc, gg, c7, .slice p1 32 q1, .slice p3 64 q3, by omega, by omega, by omega, by omega, si.sel 11 [1, 2, 3, 4, 5, 0, 6, 9, 10]⟩
end Go.Proofs.YtmmhbehlpppdiaaGreatDoor.Wl
namespace Go.Proofs.YtmmhbehlpppdiaaGreatDoor.Wl
open Go.RowKit Go.Pw
structure Pa where
  n : Int
  s : Value
  ok : s.oneCell' = true
  lo : 0 ≤ n ∧ n < 4294967296
def pc (x : Pa) : List Value := [.int .u32 x.n, x.s, .slice none 0 0]
theorem pc_len (x : Pa) : (pc x).length = 3 := rfl
def paR (x : Pa) : Res := byR x.s 32
def FillP (w0 : World) (PB TB TM KB : Nat) (k : Nat) (m : Int) (sv : Value) (u d : Int) (ag sg sn : Value) (rs : List Res) (e : Ending) (w' : World) : Prop :=
  (∃ z, e = .returned z) ∧ ∃ (v' : Value) (l' : List Tm) (m' : Int) (ov : Value) (os : List Pa), os.length = 4 ∧ k ≤ l'.length ∧ l'.length ≤ k + 4 ∧ m ≤ m' ∧ m' ≤ m + 4 ∧
    Sep w0 w' (primR PB TB TM v' l' sv m' (blk KB (kc u d ag sg sn ov 6 (.slice none 0 0)) 176 :: row 214 3 ov os.length (fl pc os) :: many (os.map paR) :: rs))
set_option maxRecDepth 100000 in
set_option maxHeartbeats 4000000 in
theorem fill_any {w0 : World} {rs : List Res} (PB TB TM KB : Nat) (v : Value) (l : List Tm) (sv : Value) (m : Int) (u d : Int) (ag sg sn : Value) (w : World) (h : Sep w0 w (primR PB TB TM v l sv m (blk KB (kc u d ag sg sn (.slice none 0 0) 2 (.slice none 0 0)) 176 :: rs))) (hI : ItoaOK w0) (hl : l.length ≤ 700000) (hm : 0 ≤ m ∧ m ≤ 900000) :
    Calls Tryz.prog 64 #[.pointer (some ⟨KB, 0, none⟩), .pointer (some ⟨PB, 0, none⟩)] w (FillP w0 PB TB TM KB l.length m sv u d ag sg sn rs) := by
  obtain ⟨i0, hi, hz0, hz1, hz2⟩ := info_parts info_pair
  go_enter Tryz.func64, Tryz.ntmps64
  go_wp2_with fail
  go_loopw [5] (fun y wr => ∃ (v1 : Value) (l1 : List Tm) (m1 : Int) (ov : Value) (os : List Pa), y = .int .i64 os.length ∧ os.length ≤ 4 ∧ l.length ≤ l1.length ∧ l1.length ≤ l.length + os.length ∧ m ≤ m1 ∧ m1 ≤ m + os.length ∧
    Sep w0 wr (primR PB TB TM v1 l1 sv m1 (blk KB (kc u d ag sg sn ov (2 + os.length) (.slice none 0 0)) 176 :: row 214 3 ov os.length (fl pc os) :: many (os.map paR) :: rs))) (fun y _ => 4 - (intOf y).toNat)
  case atStart => exact ⟨v, l, m, .slice none 0 0, [], rfl, by decide, Nat.le_refl _, Nat.le_refl _, Int.le_refl _, by simp, ((h.many_nil).rown 214 3).sel 8 [2, 3, 4, 5, 6, 7, 0, 1]⟩
  case round =>
    obtain ⟨v1, l1, m1, ov, os, rfl, ho4, q1, q2, q3, q4, s1⟩ := hrel
    clear h
    obtain ⟨ao, c, rfl⟩ := own_slice (show wr.ownsRow 0 214 3 ov os.length (fl pc os) from s1.get 6 rfl)
    obtain ⟨c0, c1, c2, c3, c4, c5, c6, c7⟩ := kc_at (show wr.heap[KB]? = _ from s1.get 5 rfl)
    clear c0 c1 c2 c3 c4 c6 c7
    by_cases h4 : os.length < 4
    · have e1 : decide ((os.length : Int) < 4) = true := by simpa using (show (os.length : Int) < 4 by omega)
      obtain ⟨nx, hnx⟩ : ∃ nx : Int, nx = 2 + (os.length : Int) := ⟨_, rfl⟩
      rw [← hnx] at s1
      have HN := Lib.hid hnx
      have hnb : 2 ≤ nx ∧ nx ≤ 5 := by omega
      clear hnx
      go_upto_region 4 with fail
      have sR := s1.quiet (Only.drew wr [])
      clear s1 c5
      refine wp_region_u (S := fun w' => w'.heap[KB]? = some (.cells (kc u d ag sg sn (.slice ao os.length c) nx (.slice none 0 0)).toArray 176 (0, 0))) 16 [] (by kernel_rfl) (by kernel_rfl) (sR.get 5 rfl) (fun hZ hHeld => ?_)
      refine' wpAnyU_take (i := 0) (v := _) hZ (op_at' rfl) (by kernel_rfl) (by kernel_rfl) (by kernel_rfl) (by kernel_rfl) (by kernel_rfl) (fun _ _ _ h => h) (Or.inl ⟨by rfl, ?hy1⟩) (by assumption) ?rest1
      case hy1 =>
        intro w' hS
        go_simp
        try with_reducible rfl
      try simp only [Act.put, List.setIfInBounds_toArray, List.set_cons_zero, List.set_cons_succ]
      refine' wpAnyU_take (i := 1) (v := _) hZ (op_at' rfl) (by kernel_rfl) (by kernel_rfl) (by kernel_rfl) (by kernel_rfl) (by kernel_rfl) (fun _ _ _ h => h) (Or.inl ⟨by rfl, ?hy2⟩) (by assumption) ?rest2
      case hy2 =>
        intro w' hS
        go_simp
        try with_reducible rfl
      try simp only [Act.put, List.setIfInBounds_toArray, List.set_cons_zero, List.set_cons_succ]
      refine' wpAnyU_take (i := 2) (v := _) hZ (op_at' rfl) (by kernel_rfl) (by kernel_rfl) (by kernel_rfl) (by kernel_rfl) (by kernel_rfl) (fun _ _ _ h => h) (Or.inl ⟨by rfl, ?hy3⟩) (by assumption) ?rest3
      case hy3 =>
        intro w' hS
        go_simp
        try with_reducible rfl
      try simp only [Act.put, List.setIfInBounds_toArray, List.set_cons_zero, List.set_cons_succ]
      refine' wpAnyU_take (i := 3) (v := _) hZ (op_at' rfl) (by kernel_rfl) (by kernel_rfl) (by kernel_rfl) (by kernel_rfl) (by kernel_rfl) (fun _ _ _ h => h) (Or.inl ⟨by rfl, ?hy4⟩) (by assumption) ?rest4
      case hy4 =>
        intro w' hS
        go_simp
        try with_reducible rfl
      try simp only [Act.put, List.setIfInBounds_toArray, List.set_cons_zero, List.set_cons_succ]
      refine' wpAnyU_take (i := 4) (v := _) hZ (op_at' rfl) (by kernel_rfl) (by kernel_rfl) (by kernel_rfl) (by kernel_rfl) (by kernel_rfl) (fun _ _ _ h => h) (Or.inl ⟨by rfl, ?hy5⟩) (by assumption) ?rest5
      case hy5 =>
        intro w' hS
        obtain ⟨c0, c1, c2, c3, c4, c5, c6, c7⟩ := kc_at hS
        go_simp
        try with_reducible rfl
      try simp only [Act.put, List.setIfInBounds_toArray, List.set_cons_zero, List.set_cons_succ]
      refine' wpAnyU_take (i := 5) (v := _) hZ (op_at' rfl) (by kernel_rfl) (by kernel_rfl) (by kernel_rfl) (by kernel_rfl) (by kernel_rfl) (fun _ _ _ h => h) (Or.inl ⟨by rfl, ?hy6⟩) (by assumption) ?rest6
      case hy6 =>
        intro w' hS
        go_simp
        try with_reducible rfl
      try simp only [Act.put, List.setIfInBounds_toArray, List.set_cons_zero, List.set_cons_succ]
      refine' wpAnyU_take (i := 6) (v := _) hZ (op_at' rfl) (by kernel_rfl) (by kernel_rfl) (by kernel_rfl) (by kernel_rfl) (by kernel_rfl) (fun _ _ _ h => h) (Or.inl ⟨by rfl, ?hy7⟩) (by assumption) ?rest7
      case hy7 =>
        intro w' hS
        go_simp
        try with_reducible rfl
      try simp only [Act.put, List.setIfInBounds_toArray, List.set_cons_zero, List.set_cons_succ]
      refine' wpAnyU_take (i := 7) (v := _) hZ (op_at' rfl) (by kernel_rfl) (by kernel_rfl) (by kernel_rfl) (by kernel_rfl) (by kernel_rfl) (fun _ _ _ h => h) (Or.inl ⟨by rfl, ?hy8⟩) (by assumption) ?rest8
      case hy8 =>
        intro w' hS
        go_simp
        try with_reducible rfl
      try simp only [Act.put, List.setIfInBounds_toArray, List.set_cons_zero, List.set_cons_succ]
      refine' wpAnyU_take (i := 8) (v := _) hZ (op_at' rfl) (by kernel_rfl) (by kernel_rfl) (by kernel_rfl) (by kernel_rfl) (by kernel_rfl) (fun _ _ _ h => h) (Or.inl ⟨by rfl, ?hy9⟩) (by assumption) ?rest9
      case hy9 =>
        intro w' hS
        obtain ⟨c0, c1, c2, c3, c4, c5, c6, c7⟩ := kc_at hS
        go_simp
        try with_reducible rfl
      try simp only [Act.put, List.setIfInBounds_toArray, List.set_cons_zero, List.set_cons_succ]
      refine' wpAnyU_take (i := 9) (v := _) hZ (op_at' rfl) (by kernel_rfl) (by kernel_rfl) (by kernel_rfl) (by kernel_rfl) (by kernel_rfl) (fun _ _ _ h => h) (Or.inl ⟨by rfl, ?hy10⟩) (by assumption) ?rest10
      case hy10 =>
        intro w' hS
        go_simp
        try with_reducible rfl
      try simp only [Act.put, List.setIfInBounds_toArray, List.set_cons_zero, List.set_cons_succ]
      refine wpAnyU_one (i := 10) (by kernel_rfl) (op_at' rfl) (fun K hK => ?_)
      go_simp
      refine (fresh_any PB TB TM v1 l1 sv m1 _ sR hI (by omega) (by omega)).mono ?_
      rintro e w10 ⟨r5, v5, l5, m5, rfl, a5, b5, c5, d5, s5⟩
      obtain ⟨p1, q1, rfl⟩ := by_slice (s5.get 5 rfl)
      go_wp2_with fail
      refine hK.out _ _ (s5.get 6 rfl) (fun hHeld => ?_)
      clear hK K
      try simp only [Act.put, List.setIfInBounds_toArray, List.set_cons_zero, List.set_cons_succ]
      refine' wpAnyU_take (i := 11) (v := _) hZ (op_at' rfl) (by kernel_rfl) (by kernel_rfl) (by kernel_rfl) (by kernel_rfl) (by kernel_rfl) (fun _ _ _ h => h) (Or.inl ⟨by rfl, ?hy11⟩) (by assumption) ?rest11
      case hy11 =>
        intro w' hS
        go_simp
        try with_reducible rfl
      try simp only [Act.put, List.setIfInBounds_toArray, List.set_cons_zero, List.set_cons_succ]
      refine wpAnyU_one (i := 12) (by kernel_rfl) (op_at' rfl) (fun K hK => ?_)
      refine step_buildSlice_one (by rfl) 173 _ (by rfl) 214 i0 _ [.int .u32 nx, .slice p1 32 q1, .slice none 0 0] (by rfl) Tryz.underlying173 hi hz0 (by rw [hz1]; rfl) (by rfl) (by simp) (by simp) (fun Y wd od hYl hY => ?_)
      go_wp2_with fail
      refine hK.out _ _ (od.at hHeld (by simp)) (fun hHeld => ?_)
      clear hK K
      try simp only [Act.put, List.setIfInBounds_toArray, List.set_cons_zero, List.set_cons_succ]
      have sd := (s5.quiet od).sel 9 [7, 0, 1, 2, 3, 4, 5, 6, 8]
      refine wpAnyU_one (i := 13) (by kernel_rfl) (op_at' rfl) (fun K hK => ?_)
      refine step_append_sep (by rfl) (.tmp 22) (.tmp 30) 173 (by rfl) 214 i0 _ 3 56 Tryz.underlying173 hi hz0 hz1 hz2 rfl (by decide) _ os.length _ (by rfl) sd _ 1 [.int .u32 nx, .slice p1 32 q1, .slice none 0 0] (by rfl) (src_blk hY rfl) (by simp [Value.oneCell']) (by unfold maxLen; omega) (by omega) (fun a7 c7 we oe se => ?_)
      go_wp2_with fail
      refine hK.out _ _ (se.get 7 rfl) (fun hHeld => ?_)
      clear hK K
      try simp only [Act.put, List.setIfInBounds_toArray, List.set_cons_zero, List.set_cons_succ]
      refine' wpAnyU_take (i := 14) (v := _) hZ (op_at' rfl) (by kernel_rfl) (by kernel_rfl) (by kernel_rfl) (by kernel_rfl) (by kernel_rfl) (fun _ _ _ h => h) (Or.inl ⟨by rfl, ?hy12⟩) (by assumption) ?rest12
      case hy12 =>
        intro w' hS
        go_simp
        try with_reducible rfl
      try simp only [Act.put, List.setIfInBounds_toArray, List.set_cons_zero, List.set_cons_succ]
      refine' wpAnyU_take (i := 15) (v := _) hZ (op_at' rfl) (by kernel_rfl) (by kernel_rfl) (by kernel_rfl) (by kernel_rfl) (by kernel_rfl) (fun _ _ _ h => h) (Or.inl ⟨by rfl, ?hy13⟩) (by assumption) ?rest13
      case hy13 =>
        intro w' hS
        go_simp
        try with_reducible rfl
      try simp only [Act.put, List.setIfInBounds_toArray, List.set_cons_zero, List.set_cons_succ]
      refine wpAnyU_next (i := 16) (by kernel_rfl) (by simp) (op_at' rfl) (fun K hK => ?_)
      refine step_store_blk (by rfl) 173 _ _ (by rfl) KB 5 (.slice a7 (os.length + 1) c7) [.slice a7 (os.length + 1) c7] (kc u d ag sg sn (.slice ao os.length c) nx (.slice none 0 0)) 176 (by rfl) (by rfl) (by rfl) (se.sel 9 [7, 0, 1, 2, 3, 4, 5, 6, 8]) (by simp) (by kernel_rfl) (by simp [Value.oneCell']) (fun wf of sf => ?_)
      go_wp2_with fail
      refine hK.out _ _ ?_
      clear hK K
      try simp only [Act.put, List.setIfInBounds_toArray, List.set_cons_zero, List.set_cons_succ]
      refine wpAnyU_done (by kernel_rfl) ?_ _
      have hKB : wf.heap[KB]? = _ := sf.get 0 rfl
      have c6 : wf.cell? ⟨KB, 6, none⟩ = some (.int .u32 nx) := cell_in hKB 6
      have f6 := free_in hKB 6
      have e6 : IntKind.u32.wrap (nx + 1) = nx + 1 := by simp [IntKind.wrap, IntKind.bits, IntKind.signed]; omega
      have sg2 := ((sf.put 6 (.int .u32 (nx + 1))).sel 9 [8, 7, 0, 1, 2, 3, 4, 5, 6]).many_snoc
      clear hKB sR s5 sd se sf hY
      go_wp2_with fail
      obtain ⟨pa, hp1, hp2⟩ : ∃ pa : Pa, pc pa = [.int .u32 nx, .slice p1 32 q1, .slice none 0 0] ∧ paR pa = byR (.slice p1 32 q1) 32 := ⟨⟨nx, .slice p1 32 q1, by simp [Value.oneCell'], by omega⟩, rfl, rfl⟩
      have hn2 : (2 : Int) + ((os ++ [pa]).length : Int) = nx + 1 := by rw [HN.out]; simp; omega
      refine ⟨⟨v5, l5, m5, .slice a7 (os.length + 1) c7, os ++ [pa], by simp, by simp; omega, by omega, by simp; omega, by omega, by simp; omega, ?_⟩, by simp [intOf]; omega⟩
      rw [hn2, fl_snoc, List.map_append, List.length_append, List.map_singleton, hp1, hp2]
      exact sg2.sel 8 [3, 4, 5, 6, 7, 1, 2, 0]
    · have e4 : os.length = 4 := by omega
      have e1 : decide ((os.length : Int) < 4) = false := by simpa using (show ¬ (os.length : Int) < 4 by omega)
      go_wp2_with fail
      go_ret
      exact ⟨⟨_, rfl⟩, v1, l1, m1, _, os, e4, q1, by omega, q3, by omega, by rw [e4] at s1 ⊢; exact s1⟩
end Go.Proofs.YtmmhbehlpppdiaaGreatDoor.Wl
namespace Go.Proofs.YtmmhbehlpppdiaaGreatDoor.Wl
open Go.RowKit Go.Pw
abbrev keyR (KB : Nat) (u d : Int) (ag sg : Value) (Y c : Nat) (se si ov : Value) (os : List Pa) (rs : List Res) : List Res :=
  blk KB (kc u d ag sg (.slice (some ⟨Y, 0, none⟩) 1 c) ov 6 (.slice none 0 0)) 176 :: row 214 3 (.slice (some ⟨Y, 0, none⟩) 1 c) 1 [.int .u32 1, se, si] :: row 214 3 ov os.length (fl pc os) :: many (os.map paR) :: byR se 32 :: byR si 64 :: byR sg 32 :: byR ag 32 :: rs
def NewKP (w0 : World) (PB TB TM : Nat) (k : Nat) (m : Int) (sv : Value) (u d : Int) (rs : List Res) (e : Ending) (w' : World) : Prop :=
  ∃ (KB Y c : Nat) (ag sg se si ov v' : Value) (os : List Pa) (l' : List Tm) (m' : Int), e = .returned (.pointer (some ⟨KB, 0, none⟩)) ∧ os.length = 4 ∧ k ≤ l'.length ∧ l'.length ≤ k + 11 ∧ m ≤ m' ∧ m' ≤ m + 7 ∧
    Sep w0 w' (primR PB TB TM v' l' sv m' (keyR KB u d ag sg Y c se si ov os rs))
set_option maxRecDepth 100000 in
set_option maxHeartbeats 4000000 in
theorem newk_any {w0 : World} {rs : List Res} (PB TB TM : Nat) (v : Value) (l : List Tm) (sv : Value) (m : Int) (u d : Int) (w : World) (h : Sep w0 w (primR PB TB TM v l sv m rs)) (hI : ItoaOK w0) (hl : l.length ≤ 600000) (hm : 0 ≤ m ∧ m ≤ 800000) :
    Calls Tryz.prog 83 #[.pointer (some ⟨PB, 0, none⟩), wv u d] w (NewKP w0 PB TB TM l.length m sv u d rs) := by
  simp only [wv]
  go_enter Tryz.func83, Tryz.ntmps83
  go_upto_region 1 with (refine wpList_box_new rfl 40 _ rfl (.agg #[.int .i64 u, .int .i64 d]) rfl ?_; intro WB wX oX lX bX)
  have sR := ((h.add (b := blk WB [.int .i64 u, .int .i64 d] 40) oX bX (fun k hk => by simp [blk] at hk; omega)).sel 6 [1, 2, 3, 4, 5, 0]).quiet (Only.drew wX [])
  clear h oX lX bX
  refine wp_region_u (S := fun w' => w'.heap[WB]? = some (.cells [Value.int .i64 u, .int .i64 d].toArray 40 (0, 0))) 8 [] (by kernel_rfl) (by kernel_rfl) (sR.get 5 rfl) (fun hZ hHeld => ?_)
  refine wpAnyU_take (i := 0) hZ (op_at' rfl) (by kernel_rfl) (by kernel_rfl) (by kernel_rfl) (by kernel_rfl) (by kernel_rfl) (fun _ _ _ h => h) (yieldsIf_load_mid (by rfl) _ _ rfl WB 0 rfl ([.int .i64 u, .int .i64 d]) _ (fun w' hS => range_of hS) Tryz.underlying40 (by rfl) (by kernel_rfl)) (by assumption) ?_
  try simp only [Act.put, List.setIfInBounds_toArray, List.set_cons_zero, List.set_cons_succ]
  refine' wpAnyU_take (i := 1) (v := _) hZ (op_at' rfl) (by kernel_rfl) (by kernel_rfl) (by kernel_rfl) (by kernel_rfl) (by kernel_rfl) (fun _ _ _ h => h) (Or.inl ⟨by rfl, ?hy2⟩) (by assumption) ?rest2
  case hy2 =>
    intro w' hS
    go_simp
    try with_reducible rfl
  try simp only [Act.put, List.setIfInBounds_toArray, List.set_cons_zero, List.set_cons_succ]
  refine' wpAnyU_take (i := 3) (v := _) hZ (op_at' rfl) (by kernel_rfl) (by kernel_rfl) (by kernel_rfl) (by kernel_rfl) (by kernel_rfl) (fun _ _ _ h => h) (Or.inl ⟨by rfl, ?hy3⟩) (by assumption) ?rest3
  case hy3 =>
    intro w' hS
    go_simp
    try with_reducible rfl
  try simp only [Act.put, List.setIfInBounds_toArray, List.set_cons_zero, List.set_cons_succ]
  refine wpAnyU_one (i := 2) (by kernel_rfl) (op_at' rfl) (fun K hK => ?_)
  go_simp
  refine (fresh_any PB TB TM v l sv m _ sR hI (by omega) ⟨hm.1, by omega⟩).mono ?_
  rintro e w2 ⟨r1, v2, l2, m2, rfl, a2, b2, c2, d2, s2⟩
  obtain ⟨p1, q1, rfl⟩ := by_slice (s2.get 5 rfl)
  go_wp2_with fail
  refine hK.out _ _ (s2.get 6 rfl) (fun hHeld => ?_)
  clear hK K
  try simp only [Act.put, List.setIfInBounds_toArray, List.set_cons_zero, List.set_cons_succ]
  refine wpAnyU_one (i := 4) (by kernel_rfl) (op_at' rfl) (fun K hK => ?_)
  go_simp
  refine (fresh_any PB TB TM v2 l2 sv m2 _ s2 hI (by omega) ⟨by omega, by omega⟩).mono ?_
  rintro e w4 ⟨r2, v4, l4, m4, rfl, a4, b4, c4, d4, s4⟩
  obtain ⟨p2, q2, rfl⟩ := by_slice (s4.get 5 rfl)
  go_wp2_with fail
  refine hK.out _ _ (s4.get 7 rfl) (fun hHeld => ?_)
  clear hK K
  try simp only [Act.put, List.setIfInBounds_toArray, List.set_cons_zero, List.set_cons_succ]
  refine' wpAnyU_take (i := 5) (v := _) hZ (op_at' rfl) (by kernel_rfl) (by kernel_rfl) (by kernel_rfl) (by kernel_rfl) (by kernel_rfl) (fun _ _ _ h => h) (Or.inl ⟨by rfl, ?hy4⟩) (by assumption) ?rest4
  case hy4 =>
    intro w' hS
    go_simp
    try with_reducible rfl
  try simp only [Act.put, List.setIfInBounds_toArray, List.set_cons_zero, List.set_cons_succ]
  refine wpAnyU_one (i := 6) (by kernel_rfl) (op_at' rfl) (fun K hK => ?_)
  refine step_box_new (by rfl) 176 _ (by rfl) (.agg #[.int .i64 u, .int .i64 d, .slice p1 32 q1, .slice p2 32 q2, .slice none 0 0, .slice none 0 0, .int .u32 1, .slice none 0 0]) (by rfl) (fun KB w6 o6 l6 b6 => ?_)
  go_wp2_with fail
  refine hK.out _ _ (o6.at hHeld (by simp)) (fun hHeld => ?_)
  clear hK K
  try simp only [Act.put, List.setIfInBounds_toArray, List.set_cons_zero, List.set_cons_succ]
  have s6 := s4.add (b := blk KB (kc u d (.slice p1 32 q1) (.slice p2 32 q2) (.slice none 0 0) (.slice none 0 0) 1 (.slice none 0 0)) 176) o6 b6 (fun k hk => by simp [blk] at hk; omega)
  refine' wpAnyU_take (i := 7) (v := _) hZ (op_at' rfl) (by kernel_rfl) (by kernel_rfl) (by kernel_rfl) (by kernel_rfl) (by kernel_rfl) (fun _ _ _ h => h) (Or.inl ⟨by rfl, ?hy5⟩) (by assumption) ?rest5
  case hy5 =>
    intro w' hS
    go_simp
    try with_reducible rfl
  try simp only [Act.put, List.setIfInBounds_toArray, List.set_cons_zero, List.set_cons_succ]
  refine wpAnyU_done (by kernel_rfl) ?_ _
  go_wp2_with fail
  have s7 := s6.sel 9 [1, 2, 3, 4, 5, 0, 6, 7, 8]
  clear s6 s4 s2 sR hHeld
  refine (turn_any PB TB TM KB v4 l4 sv m4 u d _ _ w6 s7 hI (by omega) ⟨by omega, by omega⟩ (by simp)).mono ?_
  rintro e w8 ⟨rfl, v8, l8, m8, Y, c, se, si, a8, b8, c8, d8, s8⟩
  go_wp2_with fail
  refine (fill_any PB TB TM KB v8 l8 sv m8 u d _ _ _ w8 s8 hI (by omega) ⟨by omega, by omega⟩).mono ?_
  rintro e w9 ⟨⟨z, rfl⟩, v9, l9, m9, ov, os, ho, a9, b9, c9, d9, s9⟩
  go_wp2_with fail
  go_ret
  exact ⟨KB, Y, c, _, _, se, si, ov, v9, os, l9, m9, rfl, ho, by omega, by omega, by omega, by omega, s9.sel 14 [0, 1, 2, 3, 4, 5, 8, 6, 7, 9, 10, 11, 12]⟩
end Go.Proofs.YtmmhbehlpppdiaaGreatDoor.Wl
