/- ServerFull returns true for every byte and flag: a full mailbox refuses a message, an acknowledgement makes room. No condition. Printed by gen_sfu.py. -/
import Derived.Test.YticojdepepkdlaaSvr
import Derived.Test.YticojdepepkdlaaSvh
import Derived.Test.YticojdepepkdlaaSvq
import Derived.Test.YticojdepepkdlaaSve
import Derived.Test.YticojdepepkdlaaPj
import Derived.Test.YticojdepepkdlaaSServerFull
import Derived.Deep.Cut
import Derived.Deep.CutBlock
import Derived.Deep.CutRange
set_option linter.unusedSimpArgs false
set_option linter.unusedVariables false
namespace Go.Pw
open Go.RowKit
theorem Sep.made1 {w0 w : World} {rs : List Res} {e : TypeId} (v : Value) (h : Sep w0 w rs) : Sep w0 (w.alloc (.cells #[v] e)) (row e 1 (.slice (some ⟨w.heap.size, 0, none⟩) 1 1) 1 [v] :: rs) :=
  h.add (Only.alloc _ _ _) ⟨by simp, .inr ⟨_, 1, #[v], rfl, Nat.zero_le _, heap_alloc_new w _, Nat.le_refl _, by unfold maxLen; omega, rfl, by simp⟩⟩ (fun k hk => by simp [row, Value.ownBlock] at hk; omega)
end Go.Pw
namespace Go.Proofs.Yticojdepepkdlaa
open Go.RowKit Go.Pw
set_option linter.unusedVariables false

set_option maxRecDepth 100000 in
set_option maxHeartbeats 2000000 in
theorem full_walk (ag : Int) (hag : 0 ≤ ag ∧ ag < 256) (cb : Bool) (w0 : World) :
    Calls Try.prog 4 #[.int .u8 ag, .bool cb] w0 fun e w' => e = .returned (.bool true) ∧ Below w0.heap.size w0 w' := by
  obtain ⟨kk, hkk, hk3⟩ : ∃ kk : Nat, ag % 5 = (kk : Int) ∧ kk < 5 := ⟨(ag % 5).toNat, by omega, by omega⟩
  obtain ⟨up, hup⟩ : ∃ up : Int, up = 1 + (kk : Int) := ⟨_, rfl⟩
  have e1 : ag.tmod 5 = (kk : Int) := by rw [Int.tmod_eq_emod_of_nonneg hag.1]; exact hkk
  have e3 : IntKind.u64.wrap ag = ag := by rw [IntKind.wrap_u64]; omega
  have E1 := Lib.hid e1
  have E3 := Lib.hid e3
  have E2 : Hid ((1 : Int) + (kk : Int) = up) := by show _ = _; omega
  have E4 : Hid (IntKind.u64.wrap up = up) := by show _ = _; rw [IntKind.wrap_u64]; omega
  have hup1 : 1 ≤ up := by omega
  clear hkk e1 e3 hup hag
  have hc01 : ([.int .i64 0, .int .i64 1] : List Value).toArray.all (·.oneCell') = true := by simp [Value.oneCell']
  have hc11 : ([.int .i64 1, .int .i64 1] : List Value).toArray.all (·.oneCell') = true := by simp [Value.oneCell']
  have hc12 : ([.int .i64 1, .int .i64 2] : List Value).toArray.all (·.oneCell') = true := by simp [Value.oneCell']
  go_enter Try.func4, Try.ntmps4
  go_wp2_with fail
  refine (awake_any _).mono ?_
  rintro e w ⟨rfl, oA⟩
  go_wp2_with fail
  refine (snew_any w).mono ?_
  rintro e w1 ⟨SB, RB, BM, LM, rfl, s1⟩
  go_upto_region 5 with (first
    | (refine wpList_alloc_new (op := ⟨some 6, .alloc 27, _, _, _, _⟩) rfl 27 rfl (.agg #[.int .i64 0, .int .i64 0]) (fun _ => by kernel_rfl) ?_; intro X wN oN hNl hN)
    | (refine wpList_store_blk (op := ⟨none, .store 27 _ _, _, _, _, _⟩) rfl 27 _ _ rfl X [.int .i64 0, .int .i64 1] rfl rfl hN rfl (by kernel_rfl) hc01 ?_; intro w2 oS hS_; have oNS := oN.new oS (fun i hi => by simp only [List.mem_singleton] at hi; omega)))
  have s2 := s1.add (b := blk X [.int .i64 0, .int .i64 1] 27) oNS hS_ (fun k hk => by simp [blk] at hk; omega)
  clear s1 oN hNl hN oS hS_ oNS
  go_upto_region 6 with (first
    | (refine wpList_alloc_new (op := ⟨some 7, .alloc 27, _, _, _, _⟩) rfl 27 rfl (.agg #[.int .i64 0, .int .i64 0]) (fun _ => by kernel_rfl) ?_; intro Y wN oN hNl hN)
    | (refine wpList_store_blk (op := ⟨none, .store 27 _ _, _, _, _, _⟩) rfl 27 _ _ rfl Y [.int .i64 1, .int .i64 1] rfl rfl hN rfl (by kernel_rfl) hc11 ?_; intro w3 oS hS_; have oNS := oN.new oS (fun i hi => by simp only [List.mem_singleton] at hi; omega)))
  have s3 := s2.add (b := blk Y [.int .i64 1, .int .i64 1] 27) oNS hS_ (fun k hk => by simp [blk] at hk; omega)
  clear s2 oN hNl hN oS hS_ oNS
  go_upto_region 7 with (first
    | (refine wpList_alloc_new (op := ⟨some 8, .alloc 27, _, _, _, _⟩) rfl 27 rfl (.agg #[.int .i64 0, .int .i64 0]) (fun _ => by kernel_rfl) ?_; intro Z wN oN hNl hN)
    | (refine wpList_store_blk (op := ⟨none, .store 27 _ _, _, _, _, _⟩) rfl 27 _ _ rfl Z [.int .i64 1, .int .i64 2] rfl rfl hN rfl (by kernel_rfl) hc12 ?_; intro w4 oS hS_; have oNS := oN.new oS (fun i hi => by simp only [List.mem_singleton] at hi; omega)))
  have s4 : Sep w w4 (blk Z [.int .i64 1, .int .i64 2] 27 :: blk Y [.int .i64 1, .int .i64 1] 27 :: blk X [.int .i64 0, .int .i64 1] 27 :: srvR SB RB BM LM (.slice none 0 0) [] [] [] (.slice none 0 0) [] []) := s3.add (b := blk Z [.int .i64 1, .int .i64 2] 27) oNS hS_ (fun k hk => by simp [blk] at hk; omega)
  clear s3 oN hNl hN oS hS_ oNS
  have sD := s4.quiet (Only.drew w4 [])
  clear s4
  refine wp_region_held_drew (S := fun w' => (blk X [.int .i64 0, .int .i64 1] 27).ok w' ∧ (blk Y [.int .i64 1, .int .i64 1] 27).ok w' ∧ (blk Z [.int .i64 1, .int .i64 2] 27).ok w') (by kernel_rfl) ⟨(sD.sel 3 [2]).head, (sD.sel 2 [1]).head, (sD.sel 1 [0]).head⟩ (fun hHeld => ?_)
  refine' wpAnyH_take (i := 0) (v := _) (op_at rfl) (by kernel_rfl) (by kernel_rfl) (by kernel_rfl) (fun _ _ _ h => h) (Or.inl ⟨by rfl, ?hy1⟩) (by assumption) ?rest1
  case hy1 =>
    intro w' hS
    go_simp
    try with_reducible rfl
  try simp only [Act.put, List.setIfInBounds_toArray, List.set_cons_zero, List.set_cons_succ]
  refine' wpAnyH_take (i := 1) (v := _) (op_at rfl) (by kernel_rfl) (by kernel_rfl) (by kernel_rfl) (fun _ _ _ h => h) (Or.inl ⟨by rfl, ?hy2⟩) (by assumption) ?rest2
  case hy2 =>
    intro w' hS
    have hX_ := show w'.heap[X]? = _ from hS.1
    have hX0 := cell_two0 hX_
    have hX1 := cell_two1 hX_
    go_simp
    try with_reducible rfl
  try simp only [Act.put, List.setIfInBounds_toArray, List.set_cons_zero, List.set_cons_succ]
  refine' wpAnyH_take (i := 2) (v := _) (op_at rfl) (by kernel_rfl) (by kernel_rfl) (by kernel_rfl) (fun _ _ _ h => h) (Or.inl ⟨by rfl, ?hy3⟩) (by assumption) ?rest3
  case hy3 =>
    intro w' hS
    have hX_ := show w'.heap[X]? = _ from hS.1
    have hX0 := cell_two0 hX_
    have hX1 := cell_two1 hX_
    go_simp
    try with_reducible rfl
  try simp only [Act.put, List.setIfInBounds_toArray, List.set_cons_zero, List.set_cons_succ]
  refine wpAnyH_ready (rs := [3]) (by kernel_rfl) (by simp) (AllReadyH.cons (op_at rfl) (fun K hK => ?_) AllReadyH.nil)
  go_simp
  refine (bundles_any 0 1 _).mono fun e wa hq => ?_
  obtain ⟨bs1, a1, c1, rfl, hl1, hb1, sa⟩ := hq
  have sA := sD.plus sa
  go_wp2_with fail
  refine hK.out _ _ ⟨(sA.sel 4 [3]).head, (sA.sel 3 [2]).head, (sA.sel 2 [1]).head⟩ (fun hHeld => ?_)
  clear hK K
  try simp only [Act.put, List.setIfInBounds_toArray, List.set_cons_zero, List.set_cons_succ]
  refine wpAnyH_ready (rs := [4]) (by kernel_rfl) (by simp) (AllReadyH.cons (op_at rfl) (fun K hK => ?_) AllReadyH.nil)
  go_simp
  refine (link_new SB RB BM LM _ [] [] [] _ [] 0 1 _ bs1 _ (sA.sel 11 [4, 5, 6, 7, 8, 9, 10, 0, 1, 2, 3]) hb1 hl1 (by simp) rise_nil (by rfl) (by rfl) _ (fresh0 0 1)).mono fun e w11 hq => ?_
  obtain ⟨rfl, v1, x1, B1, hx1, s11⟩ := hq
  go_wp2_with fail
  refine hK.out _ _ ⟨(s11.sel 11 [10]).head, (s11.sel 10 [9]).head, (s11.sel 9 [8]).head⟩ (fun hHeld => ?_)
  clear hK K
  try simp only [Act.put, List.setIfInBounds_toArray, List.set_cons_zero, List.set_cons_succ]
  refine wpAnyH_done (by kernel_rfl) ?_ _
  clear sD sa sA hHeld hb1 hl1
  go_upto_region 8 with fail
  have sD := s11.quiet (Only.drew w11 [])
  clear s11
  refine wp_region_held_drew (S := fun w' => (blk X [.int .i64 0, .int .i64 1] 27).ok w' ∧ (blk Y [.int .i64 1, .int .i64 1] 27).ok w' ∧ (blk Z [.int .i64 1, .int .i64 2] 27).ok w') (by kernel_rfl) ⟨(sD.sel 11 [10]).head, (sD.sel 10 [9]).head, (sD.sel 9 [8]).head⟩ (fun hHeld => ?_)
  refine' wpAnyH_take (i := 0) (v := _) (op_at rfl) (by kernel_rfl) (by kernel_rfl) (by kernel_rfl) (fun _ _ _ h => h) (Or.inl ⟨by rfl, ?hy4⟩) (by assumption) ?rest4
  case hy4 =>
    intro w' hS
    go_simp
    try with_reducible rfl
  try simp only [Act.put, List.setIfInBounds_toArray, List.set_cons_zero, List.set_cons_succ]
  refine' wpAnyH_take (i := 1) (v := _) (op_at rfl) (by kernel_rfl) (by kernel_rfl) (by kernel_rfl) (fun _ _ _ h => h) (Or.inl ⟨by rfl, ?hy5⟩) (by assumption) ?rest5
  case hy5 =>
    intro w' hS
    have hY_ := show w'.heap[Y]? = _ from hS.2.1
    have hY0 := cell_two0 hY_
    have hY1 := cell_two1 hY_
    go_simp
    try with_reducible rfl
  try simp only [Act.put, List.setIfInBounds_toArray, List.set_cons_zero, List.set_cons_succ]
  refine' wpAnyH_take (i := 2) (v := _) (op_at rfl) (by kernel_rfl) (by kernel_rfl) (by kernel_rfl) (fun _ _ _ h => h) (Or.inl ⟨by rfl, ?hy6⟩) (by assumption) ?rest6
  case hy6 =>
    intro w' hS
    have hY_ := show w'.heap[Y]? = _ from hS.2.1
    have hY0 := cell_two0 hY_
    have hY1 := cell_two1 hY_
    go_simp
    try with_reducible rfl
  try simp only [Act.put, List.setIfInBounds_toArray, List.set_cons_zero, List.set_cons_succ]
  refine wpAnyH_ready (rs := [3]) (by kernel_rfl) (by simp) (AllReadyH.cons (op_at rfl) (fun K hK => ?_) AllReadyH.nil)
  go_simp
  refine (bundles_any 1 1 _).mono fun e wa hq => ?_
  obtain ⟨bs2, a2, c2, rfl, hl2, hb2, sa⟩ := hq
  have sA := sD.plus sa
  go_wp2_with fail
  refine hK.out _ _ ⟨(sA.sel 12 [11]).head, (sA.sel 11 [10]).head, (sA.sel 10 [9]).head⟩ (fun hHeld => ?_)
  clear hK K
  try simp only [Act.put, List.setIfInBounds_toArray, List.set_cons_zero, List.set_cons_succ]
  refine wpAnyH_ready (rs := [4]) (by kernel_rfl) (by simp) (AllReadyH.cons (op_at rfl) (fun K hK => ?_) AllReadyH.nil)
  go_simp
  refine (link_new SB RB BM LM _ [x1] _ [] _ [] 1 1 _ bs2 _ (sA.sel 12 [1, 2, 3, 4, 5, 6, 7, 0, 8, 9, 10, 11]) hb2 hl2 (by simp) (rise_one x1) (ld_next hx1) (ld_found hx1) _ (ld_ins hx1)).mono fun e w12 hq => ?_
  obtain ⟨rfl, v2, x2, B2, hx2, s12⟩ := hq
  go_wp2_with fail
  refine hK.out _ _ ⟨(s12.sel 12 [11]).head, (s12.sel 11 [10]).head, (s12.sel 10 [9]).head⟩ (fun hHeld => ?_)
  clear hK K
  try simp only [Act.put, List.setIfInBounds_toArray, List.set_cons_zero, List.set_cons_succ]
  refine wpAnyH_done (by kernel_rfl) ?_ _
  clear sD sa sA hHeld hb2 hl2
  obtain ⟨n1, n2, n3⟩ := ld2_next hx1 hx2
  have hr2 := rise_two hx1 hx2
  go_upto_region 9 with fail
  have sD := s12.quiet (Only.drew w12 [])
  clear s12
  refine wp_region_held_drew (S := fun w' => (blk X [.int .i64 0, .int .i64 1] 27).ok w' ∧ (blk Y [.int .i64 1, .int .i64 1] 27).ok w' ∧ (blk Z [.int .i64 1, .int .i64 2] 27).ok w') (by kernel_rfl) ⟨(sD.sel 12 [11]).head, (sD.sel 11 [10]).head, (sD.sel 10 [9]).head⟩ (fun hHeld => ?_)
  refine' wpAnyH_take (i := 0) (v := _) (op_at rfl) (by kernel_rfl) (by kernel_rfl) (by kernel_rfl) (fun _ _ _ h => h) (Or.inl ⟨by rfl, ?hy7⟩) (by assumption) ?rest7
  case hy7 =>
    intro w' hS
    go_simp
    try with_reducible rfl
  try simp only [Act.put, List.setIfInBounds_toArray, List.set_cons_zero, List.set_cons_succ]
  refine' wpAnyH_take (i := 1) (v := _) (op_at rfl) (by kernel_rfl) (by kernel_rfl) (by kernel_rfl) (fun _ _ _ h => h) (Or.inl ⟨by rfl, ?hy8⟩) (by assumption) ?rest8
  case hy8 =>
    intro w' hS
    have hZ_ := show w'.heap[Z]? = _ from hS.2.2
    have hZ0 := cell_two0 hZ_
    have hZ1 := cell_two1 hZ_
    go_simp
    try with_reducible rfl
  try simp only [Act.put, List.setIfInBounds_toArray, List.set_cons_zero, List.set_cons_succ]
  refine' wpAnyH_take (i := 2) (v := _) (op_at rfl) (by kernel_rfl) (by kernel_rfl) (by kernel_rfl) (fun _ _ _ h => h) (Or.inl ⟨by rfl, ?hy9⟩) (by assumption) ?rest9
  case hy9 =>
    intro w' hS
    have hZ_ := show w'.heap[Z]? = _ from hS.2.2
    have hZ0 := cell_two0 hZ_
    have hZ1 := cell_two1 hZ_
    go_simp
    try with_reducible rfl
  try simp only [Act.put, List.setIfInBounds_toArray, List.set_cons_zero, List.set_cons_succ]
  refine wpAnyH_ready (rs := [3]) (by kernel_rfl) (by simp) (AllReadyH.cons (op_at rfl) (fun K hK => ?_) AllReadyH.nil)
  go_simp
  refine (bundles_any 1 2 _).mono fun e wa hq => ?_
  obtain ⟨bs3, a3, c3, rfl, hl3, hb3, sa⟩ := hq
  have sA := sD.plus sa
  go_wp2_with fail
  refine hK.out _ _ ⟨(sA.sel 13 [12]).head, (sA.sel 12 [11]).head, (sA.sel 11 [10]).head⟩ (fun hHeld => ?_)
  clear hK K
  try simp only [Act.put, List.setIfInBounds_toArray, List.set_cons_zero, List.set_cons_succ]
  refine wpAnyH_ready (rs := [4]) (by kernel_rfl) (by simp) (AllReadyH.cons (op_at rfl) (fun K hK => ?_) AllReadyH.nil)
  go_simp
  refine (link_new SB RB BM LM _ [x1, x2] _ [] _ [] 1 2 _ bs3 _ (sA.sel 13 [1, 2, 3, 4, 5, 6, 7, 0, 8, 9, 10, 11, 12]) hb3 hl3 (by simp) hr2 n1 n2 _ n3).mono fun e w13 hq => ?_
  obtain ⟨rfl, v3, x3, B3, hx3, s13⟩ := hq
  go_wp2_with fail
  refine hK.out _ _ ⟨(s13.sel 13 [12]).head, (s13.sel 12 [11]).head, (s13.sel 11 [10]).head⟩ (fun hHeld => ?_)
  clear hK K
  try simp only [Act.put, List.setIfInBounds_toArray, List.set_cons_zero, List.set_cons_succ]
  refine wpAnyH_done (by kernel_rfl) ?_ _
  clear sD sa sA hHeld hb3 hl3
  clear n1 n2 n3 hr2
  have FF := Lib.hid (And.intro (three_facts hx1 hx2 hx3) (rise_three hx1 hx2 hx3))
  clear hx1 hx2 hx3
  have hZ_ : w13.heap[Z]? = some (.cells #[.int .i64 1, .int .i64 2] 27 (0, 0)) := (s13.sel 11 [10]).head
  have hZ0 := cell_two0 hZ_
  have hZ1 := cell_two1 hZ_
  clear hZ_
  go_upto_region 11 with (first
    | (refine wpList_alloc_new (op := ⟨some 9, .alloc 27, _, _, _, _⟩) rfl 27 rfl (.agg #[.int .i64 0, .int .i64 0]) (fun _ => by kernel_rfl) ?_; intro W wN oN hNl hN)
    | (refine wpList_store_blk (op := ⟨none, .store 27 _ _, _, _, _, _⟩) rfl 27 _ _ rfl W [.int .i64 1, .int .i64 2] rfl rfl hN rfl (by kernel_rfl) hc12 ?_; intro w14 oS hS_; have oNS := oN.new oS (fun i hi => by simp only [List.mem_singleton] at hi; omega)))
  have s14 := s13.add (b := blk W [.int .i64 1, .int .i64 2] 27) oNS hS_ (fun k hk => by simp [blk] at hk; omega)
  clear s13 hZ0 hZ1 oN hNl hN oS hS_ oNS
  have s15 : Sep w w14 (srvR SB RB BM LM v3 [x1, x2, x3] (putM (putM (putM [] (0, 1) (.pointer (some ⟨B1, 0, none⟩))) (1, 1) (.pointer (some ⟨B2, 0, none⟩))) (1, 2) (.pointer (some ⟨B3, 0, none⟩))) [] (.slice none 0 0) [] (box B3 (.slice none 0 0) [] 0 :: box B2 (.slice none 0 0) [] 0 :: box B1 (.slice none 0 0) [] 0 :: blk W [.int .i64 1, .int .i64 2] 27 :: blk Z [.int .i64 1, .int .i64 2] 27 :: blk Y [.int .i64 1, .int .i64 1] 27 :: blk X [.int .i64 0, .int .i64 1] 27 :: [])) := s14.sel 14 [1, 2, 3, 4, 5, 6, 7, 8, 9, 10, 0, 11, 12, 13]
  clear s14
  cases cb with
  | false =>
    have s16 : Sep w w14 (srvR SB RB BM LM v3 [x1, x2, x3] (putM (putM (putM [] (0, 1) (.pointer (some ⟨B1, 0, none⟩))) (1, 1) (.pointer (some ⟨B2, 0, none⟩))) (1, 2) (.pointer (some ⟨B3, 0, none⟩))) [] (.slice none 0 0) [] (box B3 (.slice none 0 0) [] 0 :: box B2 (.slice none 0 0) [] 0 :: box B1 (.slice none 0 0) [] 0 :: blk W [.int .i64 1, .int .i64 2] 27 :: blk Z [.int .i64 1, .int .i64 2] 27 :: blk Y [.int .i64 1, .int .i64 1] 27 :: blk X [.int .i64 0, .int .i64 1] 27 :: [])) := s15
    clear s15
    go_wp2_with fail
    go_loopw [10] (fun z wr => ∃ (i : Nat) (uf : Value) (lf : List It) (la : Int), z = .int .i64 i ∧ i ≤ 32 ∧ Hid (lf.length = i) ∧ Hid (la = (i : Int)) ∧ (0 < i → ∃ x ∈ lf, x.n = 1) ∧ Pw.Sep w wr (srvR SB RB BM LM v3 [x1, x2, x3] (putM (putM (putM [] (0, 1) (.pointer (some ⟨B1, 0, none⟩))) (1, 1) (.pointer (some ⟨B2, 0, none⟩))) (1, 2) (.pointer (some ⟨B3, 0, none⟩))) [] (.slice none 0 0) [] (box B3 uf lf la :: box B2 (.slice none 0 0) [] 0 :: box B1 (.slice none 0 0) [] 0 :: blk W [.int .i64 1, .int .i64 2] 27 :: blk Z [.int .i64 1, .int .i64 2] 27 :: blk Y [.int .i64 1, .int .i64 1] 27 :: blk X [.int .i64 0, .int .i64 1] 27 :: []))) (fun z _ => 32 - (intOf z).toNat)
    case atStart => exact ⟨0, _, [], 0, rfl, Nat.zero_le _, rfl, rfl, fun h => absurd h (by omega), s16⟩
    case round =>
      clear s16
      obtain ⟨i, uf, lf, la, rfl, hi, hlf, hla, hex, st⟩ := hrel
      have hW_ : wr.heap[W]? = some (.cells #[.int .i64 1, .int .i64 2] 27 (0, 0)) := (st.sel 11 [10]).head
      have hW0 := cell_two0 hW_
      have hW1 := cell_two1 hW_
      clear hW_
      by_cases hlt : i < 32
      · have d1 : decide ((i : Int) < 32) = true := by simp; omega
        go_wp2_with fail
        refine (sbox_any SB RB BM LM _ _ _ _ _ _ 1 2 _ st).mono ?_
        rintro e w2 ⟨he, o2⟩
        replace he : e = .returned (.pointer (some ⟨B3, 0, none⟩)) := he
        subst he
        have s2 := st.quiet o2
        obtain ⟨hB, _⟩ := box_facts (s2.sel 8 [7])
        have hBl := (Array.getElem?_eq_some_iff.1 hB).1
        have s3 := s2.quiet (Only.alloc w2 (.cells #[.int .u8 120] 5 (1, 2)) [])
        have hp : Pw.Src (w2.alloc (.cells #[.int .u8 120] 5 (1, 2))) (.slice (some ⟨w2.heap.size, 0, none⟩) 1 1) 1 ([120] : List Int).length (([120] : List Int).map (Value.int .u8)) := src_made w2 _ _ _
        have Hput := put_ok B3 uf lf la (.slice (some ⟨w2.heap.size, 0, none⟩) 1 1) [120] (w2.alloc (.cells #[.int .u8 120] 5 (1, 2))) (s3.sel 14 [7, 0, 1, 2, 3, 4, 5, 6, 8, 9, 10, 11, 12, 13]) (by rw [hlf.out]; exact hlt) (by have := hla.out; omega) hp (fun k hk => by simp [Value.ownBlock] at hk; omega) (by simp)
        clear st o2 s2 hB s3 hp hBl hW0 hW1
        go_wp2_with (refine wpList_convert_const rfl _ 32 5 rfl rfl (by simp) Try.underlying32 Try.underlying5 ?_)
        refine Hput.mono ?_
        rintro e w4 ⟨rfl, v', x, hx, s4⟩
        have hxn : x.n = la + 1 := congrArg Prod.fst hx
        have S4 := Lib.hid (s4.sel 14 [1, 2, 3, 4, 5, 6, 7, 0, 8, 9, 10, 11, 12, 13])
        have HEX : Hid (∃ y ∈ lf ++ [x], y.n = 1) := by
          by_cases hi0 : 0 < i
          · obtain ⟨y, hy, h1⟩ := hex hi0
            exact ⟨y, List.mem_append_left _ hy, h1⟩
          · exact ⟨x, by simp, by have := hla.out; omega⟩
        have HL : Hid ((lf ++ [x]).length = i + 1) := by
          show _ = _
          rw [List.length_append, hlf.out]
          rfl
        have HA : Hid (la + 1 = ((i + 1 : Nat) : Int)) := by
          show _ = _
          have := hla.out
          omega
        clear hx hxn s4 hex hla hlf Hput
        go_wp2_with fail
        exact ⟨⟨i + 1, v', lf ++ [x], la + 1, by simp, by omega, HL, HA, fun _ => HEX.out, S4.out⟩, by simp [intOf]; omega⟩
      · obtain rfl : i = 32 := by omega
        clear hlt hi
        have hex := Lib.hid (hex (by omega))
        clear hW0 hW1
        go_upto_region 17 with fail
        have sD : Pw.Sep w wr.drew (srvR SB RB BM LM v3 [x1, x2, x3] (putM (putM (putM [] (0, 1) (.pointer (some ⟨B1, 0, none⟩))) (1, 1) (.pointer (some ⟨B2, 0, none⟩))) (1, 2) (.pointer (some ⟨B3, 0, none⟩))) [] (.slice none 0 0) [] (box B3 uf lf la :: box B2 (.slice none 0 0) [] 0 :: box B1 (.slice none 0 0) [] 0 :: blk W [.int .i64 1, .int .i64 2] 27 :: blk Z [.int .i64 1, .int .i64 2] 27 :: blk Y [.int .i64 1, .int .i64 1] 27 :: blk X [.int .i64 0, .int .i64 1] 27 :: [])) := st.quiet (Only.drew wr [])
        clear st
        go_cut [11] from 49 to 60 (fun u11 wx => ∃ (A : Nat) (ev v1 v2 : Value), u11 = .pointer (some ⟨A, 0, none⟩) ∧ Pw.Sep w wx (srvR SB RB BM LM v3 [x1, x2, x3] (putM (putM (putM [] (0, 1) (.pointer (some ⟨B1, 0, none⟩))) (1, 1) (.pointer (some ⟨B2, 0, none⟩))) (1, 2) (.pointer (some ⟨B3, 0, none⟩))) [] (.slice none 0 0) [] (box B3 uf lf la :: box B2 (.slice none 0 0) [] 0 :: row 32 1 ev 2 [v1, v2] :: row 5 1 v1 (eB 0 1 1 2).length ((eB 0 1 1 2).map (Value.int .u8)) :: row 5 1 v2 (eB 0 1 1 1).length ((eB 0 1 1 1).map (Value.int .u8)) :: blk A (ac 1 0 1 1 0 1 ev 0 (.slice none 0 0)) 45 :: box B1 (.slice none 0 0) [] 0 :: blk W [.int .i64 1, .int .i64 2] 27 :: blk Z [.int .i64 1, .int .i64 2] 27 :: blk Y [.int .i64 1, .int .i64 1] 27 :: blk X [.int .i64 0, .int .i64 1] 27 :: [])))
        case first =>
          refine wp_region_held_drew (S := fun w' => (blk X [.int .i64 0, .int .i64 1] 27).ok w' ∧ (blk Y [.int .i64 1, .int .i64 1] 27).ok w' ∧ (blk Z [.int .i64 1, .int .i64 2] 27).ok w') (by kernel_rfl) ⟨(sD.sel 14 [13]).head, (sD.sel 13 [12]).head, (sD.sel 12 [11]).head⟩ (fun hHeld => ?_)
          refine' wpAnyH_take (i := 0) (v := _) (op_at rfl) (by kernel_rfl) (by kernel_rfl) (by kernel_rfl) (fun _ _ _ h => h) (Or.inl ⟨by rfl, ?hy10⟩) (by assumption) ?rest10
          case hy10 =>
            intro w' hS
            have hX_ := show w'.heap[X]? = _ from hS.1
            have hX0 := cell_two0 hX_
            have hX1 := cell_two1 hX_
            go_simp
            try with_reducible rfl
          try simp only [Act.put, List.setIfInBounds_toArray, List.set_cons_zero, List.set_cons_succ]
          refine' wpAnyH_take (i := 1) (v := _) (op_at rfl) (by kernel_rfl) (by kernel_rfl) (by kernel_rfl) (fun _ _ _ h => h) (Or.inl ⟨by rfl, ?hy11⟩) (by assumption) ?rest11
          case hy11 =>
            intro w' hS
            have hX_ := show w'.heap[X]? = _ from hS.1
            have hX0 := cell_two0 hX_
            have hX1 := cell_two1 hX_
            go_simp
            try with_reducible rfl
          try simp only [Act.put, List.setIfInBounds_toArray, List.set_cons_zero, List.set_cons_succ]
          refine' wpAnyH_take (i := 2) (v := _) (op_at rfl) (by kernel_rfl) (by kernel_rfl) (by kernel_rfl) (fun _ _ _ h => h) (Or.inl ⟨by rfl, ?hy12⟩) (by assumption) ?rest12
          case hy12 =>
            intro w' hS
            have hZ_ := show w'.heap[Z]? = _ from hS.2.2
            have hZ0 := cell_two0 hZ_
            have hZ1 := cell_two1 hZ_
            go_simp
            try with_reducible rfl
          try simp only [Act.put, List.setIfInBounds_toArray, List.set_cons_zero, List.set_cons_succ]
          refine' wpAnyH_take (i := 3) (v := _) (op_at rfl) (by kernel_rfl) (by kernel_rfl) (by kernel_rfl) (fun _ _ _ h => h) (Or.inl ⟨by rfl, ?hy13⟩) (by assumption) ?rest13
          case hy13 =>
            intro w' hS
            go_simp
            try with_reducible rfl
          try simp only [Act.put, List.setIfInBounds_toArray, List.set_cons_zero, List.set_cons_succ]
          refine' wpAnyH_take (i := 5) (v := _) (op_at rfl) (by kernel_rfl) (by kernel_rfl) (by kernel_rfl) (fun _ _ _ h => h) (Or.inl ⟨by rfl, ?hy14⟩) (by assumption) ?rest14
          case hy14 =>
            intro w' hS
            have hX_ := show w'.heap[X]? = _ from hS.1
            have hX0 := cell_two0 hX_
            have hX1 := cell_two1 hX_
            go_simp
            try with_reducible rfl
          try simp only [Act.put, List.setIfInBounds_toArray, List.set_cons_zero, List.set_cons_succ]
          refine' wpAnyH_take (i := 6) (v := _) (op_at rfl) (by kernel_rfl) (by kernel_rfl) (by kernel_rfl) (fun _ _ _ h => h) (Or.inl ⟨by rfl, ?hy15⟩) (by assumption) ?rest15
          case hy15 =>
            intro w' hS
            have hY_ := show w'.heap[Y]? = _ from hS.2.1
            have hY0 := cell_two0 hY_
            have hY1 := cell_two1 hY_
            go_simp
            try with_reducible rfl
          try simp only [Act.put, List.setIfInBounds_toArray, List.set_cons_zero, List.set_cons_succ]
          refine' wpAnyH_take (i := 7) (v := _) (op_at rfl) (by kernel_rfl) (by kernel_rfl) (by kernel_rfl) (fun _ _ _ h => h) (Or.inl ⟨by rfl, ?hy16⟩) (by assumption) ?rest16
          case hy16 =>
            intro w' hS
            go_simp
            try with_reducible rfl
          try simp only [Act.put, List.setIfInBounds_toArray, List.set_cons_zero, List.set_cons_succ]
          refine wpAnyH_ready (rs := [4, 11]) (by kernel_rfl) (by simp) (AllReadyH.cons (op_at rfl) (fun K hK => ?bt17) (AllReadyH.cons (op_at rfl) (fun K hK => ?bt18) AllReadyH.nil))
          case bt17 =>
            go_simp
            refine (env_new 0 1 1 2 _).mono fun e w24 hq => ?_
            obtain ⟨ao1, L1, cc1, rfl, sv⟩ := hq
            have sq4 := sD.plus sv
            go_wp2_with fail
            refine hK.out _ _ ⟨(sq4.sel 15 [14]).head, (sq4.sel 14 [13]).head, (sq4.sel 13 [12]).head⟩ (fun hHeld => ?_)
            clear hK K
            try simp only [Act.put, List.setIfInBounds_toArray, List.set_cons_zero, List.set_cons_succ]
            refine wpAnyH_ready (rs := [8, 11]) (by kernel_rfl) (by simp) (AllReadyH.cons (op_at rfl) (fun K hK => ?bt19) (AllReadyH.cons (op_at rfl) (fun K hK => ?bt20) AllReadyH.nil))
            case bt19 =>
              go_simp
              refine (env_new 0 1 1 1 _).mono fun e w28 hq => ?_
              obtain ⟨ao2, L2, cc2, rfl, sv⟩ := hq
              have sq4_8 := sq4.plus sv
              go_wp2_with fail
              refine hK.out _ _ ⟨(sq4_8.sel 16 [15]).head, (sq4_8.sel 15 [14]).head, (sq4_8.sel 14 [13]).head⟩ (fun hHeld => ?_)
              clear hK K
              try simp only [Act.put, List.setIfInBounds_toArray, List.set_cons_zero, List.set_cons_succ]
              refine wpAnyH_ready (rs := [9, 11]) (by kernel_rfl) (by simp) (AllReadyH.cons (op_at rfl) (fun K hK => ?bt21) (AllReadyH.cons (op_at rfl) (fun K hK => ?bt22) AllReadyH.nil))
              case bt21 =>
                go_simp
                have sq4_8_9 := sq4_8.made2 (e := 32) (.slice ao1 L1 cc1) (.slice ao2 L2 cc2)
                go_wp2_with fail
                refine hK.out _ _ ⟨(sq4_8_9.sel 17 [16]).head, (sq4_8_9.sel 16 [15]).head, (sq4_8_9.sel 15 [14]).head⟩ (fun hHeld => ?_)
                clear hK K
                try simp only [Act.put, List.setIfInBounds_toArray, List.set_cons_zero, List.set_cons_succ]
                refine' wpAnyH_take (i := 10) (v := _) (op_at rfl) (by kernel_rfl) (by kernel_rfl) (by kernel_rfl) (fun _ _ _ h => h) (Or.inl ⟨by rfl, ?hy23⟩) (by assumption) ?rest23
                case hy23 =>
                  intro w' hS
                  go_simp
                  try with_reducible rfl
                try simp only [Act.put, List.setIfInBounds_toArray, List.set_cons_zero, List.set_cons_succ]
                refine wpAnyH_ready (rs := [11]) (by kernel_rfl) (by simp) (AllReadyH.cons (op_at rfl) (fun K hK => ?_) AllReadyH.nil)
                refine step_alloc_new (by rfl) 45 (by rfl) (.agg #[.int .u8 0, .int .i64 0, .int .i64 0, .int .u32 0, .int .u32 0, .int .i64 0, .slice none 0 0, .int .u64 0, .slice none 0 0]) (fun _ => by kernel_rfl) (fun A w31 o31 l31 h31 => ?_)
                have sq4_8_9_11 := sq4_8_9.add (b := blk A [.int .u8 0, .int .i64 0, .int .i64 0, .int .u32 0, .int .u32 0, .int .i64 0, .slice none 0 0, .int .u64 0, .slice none 0 0] 45) o31 h31 (fun k hk => by simp [blk] at hk; omega)
                go_wp2_with fail
                refine hK.out _ _ ⟨(sq4_8_9_11.sel 18 [17]).head, (sq4_8_9_11.sel 17 [16]).head, (sq4_8_9_11.sel 16 [15]).head⟩ (fun hHeld => ?_)
                clear hK K
                try simp only [Act.put, List.setIfInBounds_toArray, List.set_cons_zero, List.set_cons_succ]
                refine wpAnyH_ready (rs := [12]) (by kernel_rfl) (by simp) (AllReadyH.cons (op_at rfl) (fun K hK => ?_) AllReadyH.nil)
                refine step_store_blk (by rfl) 45 _ _ (by rfl) A 0 (.agg (ac 1 0 1 1 0 1 (.slice (some ⟨w28.heap.size, 0, none⟩) 2 2) 0 (.slice none 0 0)).toArray) (ac 1 0 1 1 0 1 (.slice (some ⟨w28.heap.size, 0, none⟩) 2 2) 0 (.slice none 0 0)) [.int .u8 0, .int .i64 0, .int .i64 0, .int .u32 0, .int .u32 0, .int .i64 0, .slice none 0 0, .int .u64 0, .slice none 0 0] 45 (by rfl) (by rfl) (by rfl) (sq4_8_9_11.sel 4 [0, 1, 2, 3]) (by simp [ac]) (by kernel_rfl) (by simp [ac, Value.oneCell']) (fun w32 o32 sq4_8_9_11_12 => ?_)
                go_wp2_with fail
                refine hK.out _ _ ⟨(sq4_8_9_11_12.sel 18 [17]).head, (sq4_8_9_11_12.sel 17 [16]).head, (sq4_8_9_11_12.sel 16 [15]).head⟩ (fun hHeld => ?_)
                clear hK K
                try simp only [Act.put, List.setIfInBounds_toArray, List.set_cons_zero, List.set_cons_succ]
                refine wpAnyH_done (by kernel_rfl) ?_ _
                go_wp2_with fail
                go_meet
                case rel => exact ⟨A, _, _, _, rfl, sq4_8_9_11_12.sel 18 [4, 5, 6, 7, 8, 9, 10, 11, 12, 1, 3, 2, 0, 13, 14, 15, 16, 17]⟩
              case bt22 =>
                refine step_alloc_new (by rfl) 45 (by rfl) (.agg #[.int .u8 0, .int .i64 0, .int .i64 0, .int .u32 0, .int .u32 0, .int .i64 0, .slice none 0 0, .int .u64 0, .slice none 0 0]) (fun _ => by kernel_rfl) (fun A w31 o31 l31 h31 => ?_)
                have sq4_8_11 := sq4_8.add (b := blk A [.int .u8 0, .int .i64 0, .int .i64 0, .int .u32 0, .int .u32 0, .int .i64 0, .slice none 0 0, .int .u64 0, .slice none 0 0] 45) o31 h31 (fun k hk => by simp [blk] at hk; omega)
                go_wp2_with fail
                refine hK.out _ _ ⟨(sq4_8_11.sel 17 [16]).head, (sq4_8_11.sel 16 [15]).head, (sq4_8_11.sel 15 [14]).head⟩ (fun hHeld => ?_)
                clear hK K
                try simp only [Act.put, List.setIfInBounds_toArray, List.set_cons_zero, List.set_cons_succ]
                refine wpAnyH_ready (rs := [9]) (by kernel_rfl) (by simp) (AllReadyH.cons (op_at rfl) (fun K hK => ?_) AllReadyH.nil)
                go_simp
                have sq4_8_11_9 := sq4_8_11.made2 (e := 32) (.slice ao1 L1 cc1) (.slice ao2 L2 cc2)
                go_wp2_with fail
                refine hK.out _ _ ⟨(sq4_8_11_9.sel 18 [17]).head, (sq4_8_11_9.sel 17 [16]).head, (sq4_8_11_9.sel 16 [15]).head⟩ (fun hHeld => ?_)
                clear hK K
                try simp only [Act.put, List.setIfInBounds_toArray, List.set_cons_zero, List.set_cons_succ]
                refine' wpAnyH_take (i := 10) (v := _) (op_at rfl) (by kernel_rfl) (by kernel_rfl) (by kernel_rfl) (fun _ _ _ h => h) (Or.inl ⟨by rfl, ?hy24⟩) (by assumption) ?rest24
                case hy24 =>
                  intro w' hS
                  go_simp
                  try with_reducible rfl
                try simp only [Act.put, List.setIfInBounds_toArray, List.set_cons_zero, List.set_cons_succ]
                refine wpAnyH_ready (rs := [12]) (by kernel_rfl) (by simp) (AllReadyH.cons (op_at rfl) (fun K hK => ?_) AllReadyH.nil)
                refine step_store_blk (by rfl) 45 _ _ (by rfl) A 0 (.agg (ac 1 0 1 1 0 1 (.slice (some ⟨w31.heap.size, 0, none⟩) 2 2) 0 (.slice none 0 0)).toArray) (ac 1 0 1 1 0 1 (.slice (some ⟨w31.heap.size, 0, none⟩) 2 2) 0 (.slice none 0 0)) [.int .u8 0, .int .i64 0, .int .i64 0, .int .u32 0, .int .u32 0, .int .i64 0, .slice none 0 0, .int .u64 0, .slice none 0 0] 45 (by rfl) (by rfl) (by rfl) (sq4_8_11_9.sel 4 [1, 0, 2, 3]) (by simp [ac]) (by kernel_rfl) (by simp [ac, Value.oneCell']) (fun w32 o32 sq4_8_11_9_12 => ?_)
                go_wp2_with fail
                refine hK.out _ _ ⟨(sq4_8_11_9_12.sel 18 [17]).head, (sq4_8_11_9_12.sel 17 [16]).head, (sq4_8_11_9_12.sel 16 [15]).head⟩ (fun hHeld => ?_)
                clear hK K
                try simp only [Act.put, List.setIfInBounds_toArray, List.set_cons_zero, List.set_cons_succ]
                refine wpAnyH_done (by kernel_rfl) ?_ _
                go_wp2_with fail
                go_meet
                case rel => exact ⟨A, _, _, _, rfl, sq4_8_11_9_12.sel 18 [4, 5, 6, 7, 8, 9, 10, 11, 12, 1, 3, 2, 0, 13, 14, 15, 16, 17]⟩
            case bt20 =>
              refine step_alloc_new (by rfl) 45 (by rfl) (.agg #[.int .u8 0, .int .i64 0, .int .i64 0, .int .u32 0, .int .u32 0, .int .i64 0, .slice none 0 0, .int .u64 0, .slice none 0 0]) (fun _ => by kernel_rfl) (fun A w31 o31 l31 h31 => ?_)
              have sq4_11 := sq4.add (b := blk A [.int .u8 0, .int .i64 0, .int .i64 0, .int .u32 0, .int .u32 0, .int .i64 0, .slice none 0 0, .int .u64 0, .slice none 0 0] 45) o31 h31 (fun k hk => by simp [blk] at hk; omega)
              go_wp2_with fail
              refine hK.out _ _ ⟨(sq4_11.sel 16 [15]).head, (sq4_11.sel 15 [14]).head, (sq4_11.sel 14 [13]).head⟩ (fun hHeld => ?_)
              clear hK K
              try simp only [Act.put, List.setIfInBounds_toArray, List.set_cons_zero, List.set_cons_succ]
              refine wpAnyH_ready (rs := [8]) (by kernel_rfl) (by simp) (AllReadyH.cons (op_at rfl) (fun K hK => ?_) AllReadyH.nil)
              go_simp
              refine (env_new 0 1 1 1 _).mono fun e w28 hq => ?_
              obtain ⟨ao2, L2, cc2, rfl, sv⟩ := hq
              have sq4_11_8 := sq4_11.plus sv
              go_wp2_with fail
              refine hK.out _ _ ⟨(sq4_11_8.sel 17 [16]).head, (sq4_11_8.sel 16 [15]).head, (sq4_11_8.sel 15 [14]).head⟩ (fun hHeld => ?_)
              clear hK K
              try simp only [Act.put, List.setIfInBounds_toArray, List.set_cons_zero, List.set_cons_succ]
              refine wpAnyH_ready (rs := [9]) (by kernel_rfl) (by simp) (AllReadyH.cons (op_at rfl) (fun K hK => ?_) AllReadyH.nil)
              go_simp
              have sq4_11_8_9 := sq4_11_8.made2 (e := 32) (.slice ao1 L1 cc1) (.slice ao2 L2 cc2)
              go_wp2_with fail
              refine hK.out _ _ ⟨(sq4_11_8_9.sel 18 [17]).head, (sq4_11_8_9.sel 17 [16]).head, (sq4_11_8_9.sel 16 [15]).head⟩ (fun hHeld => ?_)
              clear hK K
              try simp only [Act.put, List.setIfInBounds_toArray, List.set_cons_zero, List.set_cons_succ]
              refine' wpAnyH_take (i := 10) (v := _) (op_at rfl) (by kernel_rfl) (by kernel_rfl) (by kernel_rfl) (fun _ _ _ h => h) (Or.inl ⟨by rfl, ?hy25⟩) (by assumption) ?rest25
              case hy25 =>
                intro w' hS
                go_simp
                try with_reducible rfl
              try simp only [Act.put, List.setIfInBounds_toArray, List.set_cons_zero, List.set_cons_succ]
              refine wpAnyH_ready (rs := [12]) (by kernel_rfl) (by simp) (AllReadyH.cons (op_at rfl) (fun K hK => ?_) AllReadyH.nil)
              refine step_store_blk (by rfl) 45 _ _ (by rfl) A 0 (.agg (ac 1 0 1 1 0 1 (.slice (some ⟨w28.heap.size, 0, none⟩) 2 2) 0 (.slice none 0 0)).toArray) (ac 1 0 1 1 0 1 (.slice (some ⟨w28.heap.size, 0, none⟩) 2 2) 0 (.slice none 0 0)) [.int .u8 0, .int .i64 0, .int .i64 0, .int .u32 0, .int .u32 0, .int .i64 0, .slice none 0 0, .int .u64 0, .slice none 0 0] 45 (by rfl) (by rfl) (by rfl) (sq4_11_8_9.sel 4 [2, 0, 1, 3]) (by simp [ac]) (by kernel_rfl) (by simp [ac, Value.oneCell']) (fun w32 o32 sq4_11_8_9_12 => ?_)
              go_wp2_with fail
              refine hK.out _ _ ⟨(sq4_11_8_9_12.sel 18 [17]).head, (sq4_11_8_9_12.sel 17 [16]).head, (sq4_11_8_9_12.sel 16 [15]).head⟩ (fun hHeld => ?_)
              clear hK K
              try simp only [Act.put, List.setIfInBounds_toArray, List.set_cons_zero, List.set_cons_succ]
              refine wpAnyH_done (by kernel_rfl) ?_ _
              go_wp2_with fail
              go_meet
              case rel => exact ⟨A, _, _, _, rfl, sq4_11_8_9_12.sel 18 [4, 5, 6, 7, 8, 9, 10, 11, 12, 1, 3, 2, 0, 13, 14, 15, 16, 17]⟩
          case bt18 =>
            refine step_alloc_new (by rfl) 45 (by rfl) (.agg #[.int .u8 0, .int .i64 0, .int .i64 0, .int .u32 0, .int .u32 0, .int .i64 0, .slice none 0 0, .int .u64 0, .slice none 0 0]) (fun _ => by kernel_rfl) (fun A w31 o31 l31 h31 => ?_)
            have sq11 := sD.add (b := blk A [.int .u8 0, .int .i64 0, .int .i64 0, .int .u32 0, .int .u32 0, .int .i64 0, .slice none 0 0, .int .u64 0, .slice none 0 0] 45) o31 h31 (fun k hk => by simp [blk] at hk; omega)
            go_wp2_with fail
            refine hK.out _ _ ⟨(sq11.sel 15 [14]).head, (sq11.sel 14 [13]).head, (sq11.sel 13 [12]).head⟩ (fun hHeld => ?_)
            clear hK K
            try simp only [Act.put, List.setIfInBounds_toArray, List.set_cons_zero, List.set_cons_succ]
            refine wpAnyH_ready (rs := [4]) (by kernel_rfl) (by simp) (AllReadyH.cons (op_at rfl) (fun K hK => ?_) AllReadyH.nil)
            go_simp
            refine (env_new 0 1 1 2 _).mono fun e w24 hq => ?_
            obtain ⟨ao1, L1, cc1, rfl, sv⟩ := hq
            have sq11_4 := sq11.plus sv
            go_wp2_with fail
            refine hK.out _ _ ⟨(sq11_4.sel 16 [15]).head, (sq11_4.sel 15 [14]).head, (sq11_4.sel 14 [13]).head⟩ (fun hHeld => ?_)
            clear hK K
            try simp only [Act.put, List.setIfInBounds_toArray, List.set_cons_zero, List.set_cons_succ]
            refine wpAnyH_ready (rs := [8]) (by kernel_rfl) (by simp) (AllReadyH.cons (op_at rfl) (fun K hK => ?_) AllReadyH.nil)
            go_simp
            refine (env_new 0 1 1 1 _).mono fun e w28 hq => ?_
            obtain ⟨ao2, L2, cc2, rfl, sv⟩ := hq
            have sq11_4_8 := sq11_4.plus sv
            go_wp2_with fail
            refine hK.out _ _ ⟨(sq11_4_8.sel 17 [16]).head, (sq11_4_8.sel 16 [15]).head, (sq11_4_8.sel 15 [14]).head⟩ (fun hHeld => ?_)
            clear hK K
            try simp only [Act.put, List.setIfInBounds_toArray, List.set_cons_zero, List.set_cons_succ]
            refine wpAnyH_ready (rs := [9]) (by kernel_rfl) (by simp) (AllReadyH.cons (op_at rfl) (fun K hK => ?_) AllReadyH.nil)
            go_simp
            have sq11_4_8_9 := sq11_4_8.made2 (e := 32) (.slice ao1 L1 cc1) (.slice ao2 L2 cc2)
            go_wp2_with fail
            refine hK.out _ _ ⟨(sq11_4_8_9.sel 18 [17]).head, (sq11_4_8_9.sel 17 [16]).head, (sq11_4_8_9.sel 16 [15]).head⟩ (fun hHeld => ?_)
            clear hK K
            try simp only [Act.put, List.setIfInBounds_toArray, List.set_cons_zero, List.set_cons_succ]
            refine' wpAnyH_take (i := 10) (v := _) (op_at rfl) (by kernel_rfl) (by kernel_rfl) (by kernel_rfl) (fun _ _ _ h => h) (Or.inl ⟨by rfl, ?hy26⟩) (by assumption) ?rest26
            case hy26 =>
              intro w' hS
              go_simp
              try with_reducible rfl
            try simp only [Act.put, List.setIfInBounds_toArray, List.set_cons_zero, List.set_cons_succ]
            refine wpAnyH_ready (rs := [12]) (by kernel_rfl) (by simp) (AllReadyH.cons (op_at rfl) (fun K hK => ?_) AllReadyH.nil)
            refine step_store_blk (by rfl) 45 _ _ (by rfl) A 0 (.agg (ac 1 0 1 1 0 1 (.slice (some ⟨w28.heap.size, 0, none⟩) 2 2) 0 (.slice none 0 0)).toArray) (ac 1 0 1 1 0 1 (.slice (some ⟨w28.heap.size, 0, none⟩) 2 2) 0 (.slice none 0 0)) [.int .u8 0, .int .i64 0, .int .i64 0, .int .u32 0, .int .u32 0, .int .i64 0, .slice none 0 0, .int .u64 0, .slice none 0 0] 45 (by rfl) (by rfl) (by rfl) (sq11_4_8_9.sel 4 [3, 0, 1, 2]) (by simp [ac]) (by kernel_rfl) (by simp [ac, Value.oneCell']) (fun w32 o32 sq11_4_8_9_12 => ?_)
            go_wp2_with fail
            refine hK.out _ _ ⟨(sq11_4_8_9_12.sel 18 [17]).head, (sq11_4_8_9_12.sel 17 [16]).head, (sq11_4_8_9_12.sel 16 [15]).head⟩ (fun hHeld => ?_)
            clear hK K
            try simp only [Act.put, List.setIfInBounds_toArray, List.set_cons_zero, List.set_cons_succ]
            refine wpAnyH_done (by kernel_rfl) ?_ _
            go_wp2_with fail
            go_meet
            case rel => exact ⟨A, _, _, _, rfl, sq11_4_8_9_12.sel 18 [4, 5, 6, 7, 8, 9, 10, 11, 12, 1, 3, 2, 0, 13, 14, 15, 16, 17]⟩
        case rest =>
        clear sD
        obtain ⟨A, ev, v1, v2, rfl, s20⟩ := hcut
        obtain ⟨cs, hcs⟩ : ∃ cs, cs = (ac 1 0 1 1 0 1 ev 0 (.slice none 0 0)) := ⟨_, rfl⟩
        have Hcs := Lib.hid hcs
        have hal : cs.length = 9 := by rw [hcs]; rfl
        rw [← hcs] at s20
        clear hcs
        obtain ⟨⟨t1, t2, t3, t4, t5⟩, hrt⟩ := FF.out
        have Hf := handle_full SB RB BM LM v3 [x1, x2, x3] _ [] _ [] 0 1 1 0 1 ev 0 (.slice none 0 0) [(v1, (1, 2)), (v2, (1, 1))] wc s20 (by simp) hrt t1 rfl ⟨by decide, by decide⟩ ⟨by decide, by decide⟩ w32_1 [(1, 2), (1, 1)] [(1, 1), (1, 2)] (by simp) (by simp) rfl t4 (by simp) (by simp) t5 in_two1 in_two2 (rm2 [] lf) (rooms_two (s20.sel 9 [7, 8]) (by simp) (by have := hlf.out; simp; omega) rfl rfl) (rm2_full (.inr hlf.out)) (envs_two (s20.sel 12 [9, 10, 11]))
        rw [← Hcs.out] at Hf
        clear t1 t2 t3 t4 t5 hrt
        have hA : wc.heap[A]? = some (.cells cs.toArray 45 (0, 0)) := (s20.sel 13 [12]).head
        go_wp2_with (refine wpList_load_blk (op := ⟨some 61, .load 45 _, _, _, _, _⟩) rfl 45 _ rfl A rfl cs _ hA Try.underlying45 (by rfl) (by rw [hal]; kernel_rfl) ?_)
        refine Hf.mono ?_
        rintro e w21 ⟨he, s21⟩
        replace he : e = .returned (.agg #[.int .u8 1, .int .i64 0, .int .i64 1, .int .u32 1, .int .u32 0, .int .i64 3, .slice none 0 0, .slice none 0 0, .slice none 0 0]) := he
        subst he
        clear Hf hA s20
        have hre : ([.int .u8 1, .int .i64 0, .int .i64 1, .int .u32 1, .int .u32 0, .int .i64 3, .slice none 0 0, .slice none 0 0, .slice none 0 0] : List Value).toArray.all (·.oneCell') = true := by simp [Value.oneCell']
        go_upto_region 19 with (first
          | (refine wpList_alloc_new (op := ⟨some 12, .alloc 49, _, _, _, _⟩) rfl 49 rfl (.agg #[.int .u8 0, .int .i64 0, .int .i64 0, .int .u32 0, .int .u32 0, .int .i64 0, .slice none 0 0, .slice none 0 0, .slice none 0 0]) (fun _ => by kernel_rfl) ?_; intro R1 wN oN hNl hN)
          | (refine wpList_store_blk (op := ⟨none, .store 49 _ _, _, _, _, _⟩) rfl 49 _ _ rfl R1 [.int .u8 1, .int .i64 0, .int .i64 1, .int .u32 1, .int .u32 0, .int .i64 3, .slice none 0 0, .slice none 0 0, .slice none 0 0] rfl rfl hN rfl (by kernel_rfl) hre ?_; intro w22 oS hS_; have oNS := oN.new oS (fun i hi => by simp only [List.mem_singleton] at hi; omega)))
        have s22 := s21.add (b := blk R1 [.int .u8 1, .int .i64 0, .int .i64 1, .int .u32 1, .int .u32 0, .int .i64 3, .slice none 0 0, .slice none 0 0, .slice none 0 0] 49) oNS hS_ (fun k hk => by simp [blk] at hk; omega)
        clear s21 oN hNl hN oS hS_ oNS hre
        go_upto_region 19 with fail
        have sD := s22.quiet (Only.drew w22 [])
        clear s22
        refine wp_region_held_drew (S := fun w' => Only w22.drew w' []) (by kernel_rfl) (Only.refl _ _) (fun hHeld => ?_)
        refine' wpAnyH_take (i := 0) (v := _) (op_at rfl) (by kernel_rfl) (by kernel_rfl) (by kernel_rfl) (fun _ _ _ h => h) (Or.inl ⟨by rfl, ?hy27⟩) (by assumption) ?rest27
        case hy27 =>
          intro w' hS
          go_simp
          try with_reducible rfl
        try simp only [Act.put, List.setIfInBounds_toArray, List.set_cons_zero, List.set_cons_succ]
        refine' wpAnyH_take (i := 1) (v := _) (op_at rfl) (by kernel_rfl) (by kernel_rfl) (by kernel_rfl) (fun _ _ _ h => h) (Or.inl ⟨by rfl, ?hy28⟩) (by assumption) ?rest28
        case hy28 =>
          intro w' hS
          have hY_ := show w'.heap[Y]? = _ from ((sD.quiet hS).sel 18 [17]).head
          have hY0 := cell_two0 hY_
          have hY1 := cell_two1 hY_
          go_simp
          try with_reducible rfl
        try simp only [Act.put, List.setIfInBounds_toArray, List.set_cons_zero, List.set_cons_succ]
        refine' wpAnyH_take (i := 4) (v := _) (op_at rfl) (by kernel_rfl) (by kernel_rfl) (by kernel_rfl) (fun _ _ _ h => h) (Or.inl ⟨by rfl, ?hy29⟩) (by assumption) ?rest29
        case hy29 =>
          intro w' hS
          go_simp
          try with_reducible rfl
        try simp only [Act.put, List.setIfInBounds_toArray, List.set_cons_zero, List.set_cons_succ]
        refine' wpAnyH_take (i := 5) (v := _) (op_at rfl) (by kernel_rfl) (by kernel_rfl) (by kernel_rfl) (fun _ _ _ h => h) (Or.inl ⟨by rfl, ?hy30⟩) (by assumption) ?rest30
        case hy30 =>
          intro w' hS
          have hZ_ := show w'.heap[Z]? = _ from ((sD.quiet hS).sel 17 [16]).head
          have hZ0 := cell_two0 hZ_
          have hZ1 := cell_two1 hZ_
          go_simp
          try with_reducible rfl
        try simp only [Act.put, List.setIfInBounds_toArray, List.set_cons_zero, List.set_cons_succ]
        refine wpAnyH_ready (rs := [2]) (by kernel_rfl) (by simp) (AllReadyH.cons (op_at rfl) (fun K hK => ?_) AllReadyH.nil)
        go_simp
        refine (sbox_any SB RB BM LM _ _ _ _ _ _ 1 1 _ (sD.sel 8 [1, 2, 3, 4, 5, 6, 7, 0])).mono fun e w23 hq => ?_
        obtain ⟨he, o23⟩ := hq
        replace he : e = .returned (.pointer (some ⟨B2, 0, none⟩)) := he
        subst he
        go_wp2_with fail
        refine hK.out _ _ o23 (fun hHeld => ?_)
        clear hK K
        try simp only [Act.put, List.setIfInBounds_toArray, List.set_cons_zero, List.set_cons_succ]
        refine wpAnyH_ready (rs := [3]) (by kernel_rfl) (by simp) (AllReadyH.cons (op_at rfl) (fun K hK => ?_) AllReadyH.nil)
        go_simp
        refine (len_any B2 _ _ _ _ ((sD.quiet o23).sel 10 [9])).mono fun e wl hq => ?_
        obtain ⟨he, hww⟩ := hq
        subst hww
        replace he : e = .returned (.int .i64 0) := he
        subst he
        go_wp2_with fail
        refine hK.out _ _ o23 (fun hHeld => ?_)
        clear hK K
        try simp only [Act.put, List.setIfInBounds_toArray, List.set_cons_zero, List.set_cons_succ]
        refine wpAnyH_ready (rs := [6]) (by kernel_rfl) (by simp) (AllReadyH.cons (op_at rfl) (fun K hK => ?_) AllReadyH.nil)
        go_simp
        refine (sbox_any SB RB BM LM _ _ _ _ _ _ 1 2 _ ((sD.quiet o23).sel 8 [1, 2, 3, 4, 5, 6, 7, 0])).mono fun e w24 hq => ?_
        obtain ⟨he, o24⟩ := hq
        replace he : e = .returned (.pointer (some ⟨B3, 0, none⟩)) := he
        subst he
        go_wp2_with fail
        refine hK.out _ _ (o23.trans o24) (fun hHeld => ?_)
        clear hK K
        try simp only [Act.put, List.setIfInBounds_toArray, List.set_cons_zero, List.set_cons_succ]
        refine wpAnyH_ready (rs := [7]) (by kernel_rfl) (by simp) (AllReadyH.cons (op_at rfl) (fun K hK => ?_) AllReadyH.nil)
        go_simp
        refine (len_any B3 _ _ _ _ (((sD.quiet o23).quiet o24).sel 9 [8])).mono fun e wl hq => ?_
        obtain ⟨he, hww⟩ := hq
        subst hww
        replace he : e = .returned (.int .i64 32) := by rw [he, hlf.out]; rfl
        subst he
        go_wp2_with fail
        refine hK.out _ _ (o23.trans o24) (fun hHeld => ?_)
        clear hK K
        try simp only [Act.put, List.setIfInBounds_toArray, List.set_cons_zero, List.set_cons_succ]
        refine' wpAnyH_take (i := 8) (v := _) (op_at rfl) (by kernel_rfl) (by kernel_rfl) (by kernel_rfl) (fun _ _ _ h => h) (Or.inl ⟨by rfl, ?hy31⟩) (by assumption) ?rest31
        case hy31 =>
          intro w' hS
          have hw_ : IntKind.i64.wrap 32 = 32 := by rfl
          go_simp
          try with_reducible rfl
        try simp only [Act.put, List.setIfInBounds_toArray, List.set_cons_zero, List.set_cons_succ]
        refine' wpAnyH_take (i := 9) (v := _) (op_at rfl) (by kernel_rfl) (by kernel_rfl) (by kernel_rfl) (fun _ _ _ h => h) (Or.inl ⟨by rfl, ?hy32⟩) (by assumption) ?rest32
        case hy32 =>
          intro w' hS
          go_simp
          try with_reducible rfl
        try simp only [Act.put, List.setIfInBounds_toArray, List.set_cons_zero, List.set_cons_succ]
        refine wpAnyH_done (by kernel_rfl) ?_ _
        have s24 : Pw.Sep w w24 (_ :: _) := (sD.quiet o23).quiet o24
        have s25 := s24.sel 19 [1, 2, 3, 4, 5, 6, 7, 8, 9, 10, 11, 12, 13, 14, 15, 16, 17, 18, 0]
        clear sD hHeld o23 o24 s24
        obtain ⟨⟨t1, t2, t3, t4, t5⟩, hrt⟩ := FF.out
        have Hack := handle_ack SB RB BM LM v3 [x1, x2, x3] _ [] _ [] 1 2 0 0 0 (.slice none 0 0) up (.slice none 0 0) B3 uf lf la w24 s25 (by simp) hrt t3 rfl (by have := hlf.out; omega)
        clear t1 t2 t3 t4 t5 hrt
        have hW_ : w24.heap[W]? = some (.cells #[.int .i64 1, .int .i64 2] 27 (0, 0)) := (s25.sel 15 [14]).head
        have hW0 := cell_two0 hW_
        have hW1 := cell_two1 hW_
        clear hW_
        have e1 := E1.out
        have e2 := E2.out
        have e3 := E3.out
        have e4 := E4.out
        go_wp2_with fail
        clear e1 e2 e3 e4 s25 hW0 hW1
        refine Hack.mono ?_
        rintro e w26 ⟨rfl, uf', s26⟩
        clear Hack
        have hkl : (kp up lf).length < 32 := by have h1 := kp_lt hup1 hex.out; have h2 := hlf.out; omega
        have s27 := s26.sel 19 [0, 1, 2, 3, 4, 5, 6, 7, 8, 9, 10, 11, 12, 13, 14, 15, 16, 17, 18]
        clear s26
        obtain ⟨⟨t1, t2, t3, t4, t5⟩, hrt⟩ := FF.out
        have Ht := handle_two SB RB BM LM v3 [x1, x2, x3] _ [] _ [] 0 1 1 0 1 ev 0 (.slice none 0 0) [(v1, (1, 2)), (v2, (1, 1))] B3 uf' (kp up lf) la v1 1 2 B2 _ [] 0 v2 1 1 w26 s27 (by simp) hrt t1 rfl ⟨by decide, by decide⟩ ⟨by decide, by decide⟩ w32_1 [(1, 2), (1, 1)] [(1, 1), (1, 2)] (by simp) (by simp) rfl t4 (by simp) (by simp) t5 in_two1 in_two2 (rm2 [] (kp up lf)) (rooms_two (s27.sel 9 [7, 8]) (by simp) (by omega) rfl rfl) (rm2_room (by simp) hkl) rfl rfl ⟨w32_1, w32_2⟩ rfl hkl (by have := hla.out; omega) ⟨w32_1, w32_1⟩ rfl (by simp) ⟨by decide, by decide⟩ (by simp)
        rw [← Hcs.out] at Ht
        clear t1 t2 t3 t4 t5 hrt
        have hA : w26.heap[A]? = some (.cells cs.toArray 45 (0, 0)) := (s27.sel 13 [12]).head
        go_wp2_with (refine wpList_load_blk (op := ⟨some 81, .load 45 _, _, _, _, _⟩) rfl 45 _ rfl A rfl cs _ hA Try.underlying45 (by rfl) (by rw [hal]; kernel_rfl) ?_)
        refine Ht.mono ?_
        rintro e w28 ⟨he, lv', a3, c3, u31, x31, u32_, x32, s28⟩
        replace he : e = .returned (.agg #[.int .u8 1, .int .i64 0, .int .i64 1, .int .u32 1, .int .u32 0, .int .i64 0, .slice none 0 0, .slice none 0 0, .slice none 0 0]) := he
        subst he
        clear Ht hA s27
        have hre : ([.int .u8 1, .int .i64 0, .int .i64 1, .int .u32 1, .int .u32 0, .int .i64 0, .slice none 0 0, .slice none 0 0, .slice none 0 0] : List Value).toArray.all (·.oneCell') = true := by simp [Value.oneCell']
        go_upto_region 22 with (first
          | (refine wpList_alloc_new (op := ⟨some 14, .alloc 49, _, _, _, _⟩) rfl 49 rfl (.agg #[.int .u8 0, .int .i64 0, .int .i64 0, .int .u32 0, .int .u32 0, .int .i64 0, .slice none 0 0, .slice none 0 0, .slice none 0 0]) (fun _ => by kernel_rfl) ?_; intro R2 wN oN hNl hN)
          | (refine wpList_store_blk (op := ⟨none, .store 49 _ _, _, _, _, _⟩) rfl 49 _ _ rfl R2 [.int .u8 1, .int .i64 0, .int .i64 1, .int .u32 1, .int .u32 0, .int .i64 0, .slice none 0 0, .slice none 0 0, .slice none 0 0] rfl rfl hN rfl (by kernel_rfl) hre ?_; intro w29 oS hS_; have oNS := oN.new oS (fun i hi => by simp only [List.mem_singleton] at hi; omega)))
        have s29 := s28.add (b := blk R2 [.int .u8 1, .int .i64 0, .int .i64 1, .int .u32 1, .int .u32 0, .int .i64 0, .slice none 0 0, .slice none 0 0, .slice none 0 0] 49) oNS hS_ (fun k hk => by simp [blk] at hk; omega)
        clear s28 oN hNl hN oS hS_ oNS hre
        have s30 := s29.sel 20 [1, 2, 3, 4, 5, 6, 7, 0, 19]
        clear s29
        have rA : w29.cell? ⟨R1, 5, none⟩ = some (.int .i64 3) := cell_in (show w29.heap[R1]? = _ from (s30.sel 9 [8]).head) 5
        have rB : w29.cell? ⟨R2, 5, none⟩ = some (.int .i64 0) := cell_in (show w29.heap[R2]? = _ from (s30.sel 8 [7]).head) 5
        go_wp2_with fail
        clear rA rB
        refine (log_any SB RB BM LM _ _ _ _ _ _ w29 s30 (by simp)).mono ?_
        rintro e w31 ⟨ag1, cg1, he, s31⟩
        replace he : e = .returned (.slice ag1 1 cg1) := he
        subst he
        go_wp2_with fail
        refine (log_any SB RB BM LM _ _ _ _ _ _ w31 (s30.quiet s31.only) (by simp)).mono ?_
        rintro e w32 ⟨ag2, cg2, he, s32⟩
        replace he : e = .returned (.slice ag2 1 cg2) := he
        obtain ⟨g, hg, _⟩ := own_some (show w32.ownsRow 0 60 5 (.slice ag2 1 cg2) 1 _ from s32.head) (by decide)
        subst hg
        subst he
        have hrow : w32.ownsRow 0 60 5 (.slice (some ⟨g, 0, none⟩) ([(⟨0, 1, 1, 1, .slice a3 2 c3, rfl⟩ : Sn)] : List Sn).length cg2) ([(⟨0, 1, 1, 1, .slice a3 2 c3, rfl⟩ : Sn)] : List Sn).length (fl sc [(⟨0, 1, 1, 1, .slice a3 2 c3, rfl⟩ : Sn)]) := s32.head
        have q4 := rec_cell sc_len hrow (m := 0) (by simp) 4 (v := .slice a3 2 c3) rfl
        simp only [Nat.zero_mul, Nat.zero_add] at q4
        have oF := ((oA.trans s30.only).trans s31.only).trans s32.only
        clear s30 s31 s32 hrow
        go_wp2_with fail
        go_ret
        exact ⟨rfl, oF.below (Nat.le_refl _) (by simp)⟩
  | true =>
    have hY_ : w14.heap[Y]? = some (.cells #[.int .i64 1, .int .i64 1] 27 (0, 0)) := (s15.sel 13 [12]).head
    have hY0 := cell_two0 hY_
    have hY1 := cell_two1 hY_
    clear hY_
    have hW14 : w14.heap[W]? = some (.cells ([.int .i64 1, .int .i64 2] : List Value).toArray 27 (0, 0)) := (s15.sel 11 [10]).head
    go_upto_region 13 with (refine wpList_store_blk (op := ⟨none, .store 27 _ _, _, _, _, _⟩) rfl 27 _ _ rfl W [.int .i64 1, .int .i64 1] rfl rfl hW14 rfl (by kernel_rfl) hc11 ?_; intro w15 o15 hW15)
    have s16 : Sep w w15 (srvR SB RB BM LM v3 [x1, x2, x3] (putM (putM (putM [] (0, 1) (.pointer (some ⟨B1, 0, none⟩))) (1, 1) (.pointer (some ⟨B2, 0, none⟩))) (1, 2) (.pointer (some ⟨B3, 0, none⟩))) [] (.slice none 0 0) [] (box B3 (.slice none 0 0) [] 0 :: box B2 (.slice none 0 0) [] 0 :: box B1 (.slice none 0 0) [] 0 :: blk W [.int .i64 1, .int .i64 1] 27 :: blk Z [.int .i64 1, .int .i64 2] 27 :: blk Y [.int .i64 1, .int .i64 1] 27 :: blk X [.int .i64 0, .int .i64 1] 27 :: [])) := ((s15.sel 14 [10, 0, 1, 2, 3, 4, 5, 6, 7, 8, 9, 11, 12, 13]).step (b := blk W [.int .i64 1, .int .i64 1] 27) o15 (fun k hk => .inl (by simpa [blk] using hk)) hW15 (fun k hk => .inl hk)).sel 14 [1, 2, 3, 4, 5, 6, 7, 8, 9, 10, 0, 11, 12, 13]
    clear s15 hY0 hY1 hW14 o15 hW15
    go_wp2_with fail
    go_loopw [10] (fun z wr => ∃ (i : Nat) (uf : Value) (lf : List It) (la : Int), z = .int .i64 i ∧ i ≤ 32 ∧ Hid (lf.length = i) ∧ Hid (la = (i : Int)) ∧ (0 < i → ∃ x ∈ lf, x.n = 1) ∧ Pw.Sep w wr (srvR SB RB BM LM v3 [x1, x2, x3] (putM (putM (putM [] (0, 1) (.pointer (some ⟨B1, 0, none⟩))) (1, 1) (.pointer (some ⟨B2, 0, none⟩))) (1, 2) (.pointer (some ⟨B3, 0, none⟩))) [] (.slice none 0 0) [] (box B3 (.slice none 0 0) [] 0 :: box B2 uf lf la :: box B1 (.slice none 0 0) [] 0 :: blk W [.int .i64 1, .int .i64 1] 27 :: blk Z [.int .i64 1, .int .i64 2] 27 :: blk Y [.int .i64 1, .int .i64 1] 27 :: blk X [.int .i64 0, .int .i64 1] 27 :: []))) (fun z _ => 32 - (intOf z).toNat)
    case atStart => exact ⟨0, _, [], 0, rfl, Nat.zero_le _, rfl, rfl, fun h => absurd h (by omega), s16⟩
    case round =>
      clear s16
      obtain ⟨i, uf, lf, la, rfl, hi, hlf, hla, hex, st⟩ := hrel
      have hW_ : wr.heap[W]? = some (.cells #[.int .i64 1, .int .i64 1] 27 (0, 0)) := (st.sel 11 [10]).head
      have hW0 := cell_two0 hW_
      have hW1 := cell_two1 hW_
      clear hW_
      by_cases hlt : i < 32
      · have d1 : decide ((i : Int) < 32) = true := by simp; omega
        go_wp2_with fail
        refine (sbox_any SB RB BM LM _ _ _ _ _ _ 1 1 _ st).mono ?_
        rintro e w2 ⟨he, o2⟩
        replace he : e = .returned (.pointer (some ⟨B2, 0, none⟩)) := he
        subst he
        have s2 := st.quiet o2
        obtain ⟨hB, _⟩ := box_facts (s2.sel 9 [8])
        have hBl := (Array.getElem?_eq_some_iff.1 hB).1
        have s3 := s2.quiet (Only.alloc w2 (.cells #[.int .u8 120] 5 (1, 2)) [])
        have hp : Pw.Src (w2.alloc (.cells #[.int .u8 120] 5 (1, 2))) (.slice (some ⟨w2.heap.size, 0, none⟩) 1 1) 1 ([120] : List Int).length (([120] : List Int).map (Value.int .u8)) := src_made w2 _ _ _
        have Hput := put_ok B2 uf lf la (.slice (some ⟨w2.heap.size, 0, none⟩) 1 1) [120] (w2.alloc (.cells #[.int .u8 120] 5 (1, 2))) (s3.sel 14 [8, 0, 1, 2, 3, 4, 5, 6, 7, 9, 10, 11, 12, 13]) (by rw [hlf.out]; exact hlt) (by have := hla.out; omega) hp (fun k hk => by simp [Value.ownBlock] at hk; omega) (by simp)
        clear st o2 s2 hB s3 hp hBl hW0 hW1
        go_wp2_with (refine wpList_convert_const rfl _ 32 5 rfl rfl (by simp) Try.underlying32 Try.underlying5 ?_)
        refine Hput.mono ?_
        rintro e w4 ⟨rfl, v', x, hx, s4⟩
        have hxn : x.n = la + 1 := congrArg Prod.fst hx
        have S4 := Lib.hid (s4.sel 14 [1, 2, 3, 4, 5, 6, 7, 8, 0, 9, 10, 11, 12, 13])
        have HEX : Hid (∃ y ∈ lf ++ [x], y.n = 1) := by
          by_cases hi0 : 0 < i
          · obtain ⟨y, hy, h1⟩ := hex hi0
            exact ⟨y, List.mem_append_left _ hy, h1⟩
          · exact ⟨x, by simp, by have := hla.out; omega⟩
        have HL : Hid ((lf ++ [x]).length = i + 1) := by
          show _ = _
          rw [List.length_append, hlf.out]
          rfl
        have HA : Hid (la + 1 = ((i + 1 : Nat) : Int)) := by
          show _ = _
          have := hla.out
          omega
        clear hx hxn s4 hex hla hlf Hput
        go_wp2_with fail
        exact ⟨⟨i + 1, v', lf ++ [x], la + 1, by simp, by omega, HL, HA, fun _ => HEX.out, S4.out⟩, by simp [intOf]; omega⟩
      · obtain rfl : i = 32 := by omega
        clear hlt hi
        have hex := Lib.hid (hex (by omega))
        clear hW0 hW1
        go_upto_region 17 with fail
        have sD : Pw.Sep w wr.drew (srvR SB RB BM LM v3 [x1, x2, x3] (putM (putM (putM [] (0, 1) (.pointer (some ⟨B1, 0, none⟩))) (1, 1) (.pointer (some ⟨B2, 0, none⟩))) (1, 2) (.pointer (some ⟨B3, 0, none⟩))) [] (.slice none 0 0) [] (box B3 (.slice none 0 0) [] 0 :: box B2 uf lf la :: box B1 (.slice none 0 0) [] 0 :: blk W [.int .i64 1, .int .i64 1] 27 :: blk Z [.int .i64 1, .int .i64 2] 27 :: blk Y [.int .i64 1, .int .i64 1] 27 :: blk X [.int .i64 0, .int .i64 1] 27 :: [])) := st.quiet (Only.drew wr [])
        clear st
        go_cut [11] from 49 to 60 (fun u11 wx => ∃ (A : Nat) (ev v1 v2 : Value), u11 = .pointer (some ⟨A, 0, none⟩) ∧ Pw.Sep w wx (srvR SB RB BM LM v3 [x1, x2, x3] (putM (putM (putM [] (0, 1) (.pointer (some ⟨B1, 0, none⟩))) (1, 1) (.pointer (some ⟨B2, 0, none⟩))) (1, 2) (.pointer (some ⟨B3, 0, none⟩))) [] (.slice none 0 0) [] (box B3 (.slice none 0 0) [] 0 :: box B2 uf lf la :: row 32 1 ev 2 [v1, v2] :: row 5 1 v1 (eB 0 1 1 2).length ((eB 0 1 1 2).map (Value.int .u8)) :: row 5 1 v2 (eB 0 1 1 1).length ((eB 0 1 1 1).map (Value.int .u8)) :: blk A (ac 1 0 1 1 0 1 ev 0 (.slice none 0 0)) 45 :: box B1 (.slice none 0 0) [] 0 :: blk W [.int .i64 1, .int .i64 1] 27 :: blk Z [.int .i64 1, .int .i64 2] 27 :: blk Y [.int .i64 1, .int .i64 1] 27 :: blk X [.int .i64 0, .int .i64 1] 27 :: [])))
        case first =>
          refine wp_region_held_drew (S := fun w' => (blk X [.int .i64 0, .int .i64 1] 27).ok w' ∧ (blk Y [.int .i64 1, .int .i64 1] 27).ok w' ∧ (blk Z [.int .i64 1, .int .i64 2] 27).ok w') (by kernel_rfl) ⟨(sD.sel 14 [13]).head, (sD.sel 13 [12]).head, (sD.sel 12 [11]).head⟩ (fun hHeld => ?_)
          refine' wpAnyH_take (i := 0) (v := _) (op_at rfl) (by kernel_rfl) (by kernel_rfl) (by kernel_rfl) (fun _ _ _ h => h) (Or.inl ⟨by rfl, ?hy33⟩) (by assumption) ?rest33
          case hy33 =>
            intro w' hS
            have hX_ := show w'.heap[X]? = _ from hS.1
            have hX0 := cell_two0 hX_
            have hX1 := cell_two1 hX_
            go_simp
            try with_reducible rfl
          try simp only [Act.put, List.setIfInBounds_toArray, List.set_cons_zero, List.set_cons_succ]
          refine' wpAnyH_take (i := 1) (v := _) (op_at rfl) (by kernel_rfl) (by kernel_rfl) (by kernel_rfl) (fun _ _ _ h => h) (Or.inl ⟨by rfl, ?hy34⟩) (by assumption) ?rest34
          case hy34 =>
            intro w' hS
            have hX_ := show w'.heap[X]? = _ from hS.1
            have hX0 := cell_two0 hX_
            have hX1 := cell_two1 hX_
            go_simp
            try with_reducible rfl
          try simp only [Act.put, List.setIfInBounds_toArray, List.set_cons_zero, List.set_cons_succ]
          refine' wpAnyH_take (i := 2) (v := _) (op_at rfl) (by kernel_rfl) (by kernel_rfl) (by kernel_rfl) (fun _ _ _ h => h) (Or.inl ⟨by rfl, ?hy35⟩) (by assumption) ?rest35
          case hy35 =>
            intro w' hS
            have hZ_ := show w'.heap[Z]? = _ from hS.2.2
            have hZ0 := cell_two0 hZ_
            have hZ1 := cell_two1 hZ_
            go_simp
            try with_reducible rfl
          try simp only [Act.put, List.setIfInBounds_toArray, List.set_cons_zero, List.set_cons_succ]
          refine' wpAnyH_take (i := 3) (v := _) (op_at rfl) (by kernel_rfl) (by kernel_rfl) (by kernel_rfl) (fun _ _ _ h => h) (Or.inl ⟨by rfl, ?hy36⟩) (by assumption) ?rest36
          case hy36 =>
            intro w' hS
            go_simp
            try with_reducible rfl
          try simp only [Act.put, List.setIfInBounds_toArray, List.set_cons_zero, List.set_cons_succ]
          refine' wpAnyH_take (i := 5) (v := _) (op_at rfl) (by kernel_rfl) (by kernel_rfl) (by kernel_rfl) (fun _ _ _ h => h) (Or.inl ⟨by rfl, ?hy37⟩) (by assumption) ?rest37
          case hy37 =>
            intro w' hS
            have hX_ := show w'.heap[X]? = _ from hS.1
            have hX0 := cell_two0 hX_
            have hX1 := cell_two1 hX_
            go_simp
            try with_reducible rfl
          try simp only [Act.put, List.setIfInBounds_toArray, List.set_cons_zero, List.set_cons_succ]
          refine' wpAnyH_take (i := 6) (v := _) (op_at rfl) (by kernel_rfl) (by kernel_rfl) (by kernel_rfl) (fun _ _ _ h => h) (Or.inl ⟨by rfl, ?hy38⟩) (by assumption) ?rest38
          case hy38 =>
            intro w' hS
            have hY_ := show w'.heap[Y]? = _ from hS.2.1
            have hY0 := cell_two0 hY_
            have hY1 := cell_two1 hY_
            go_simp
            try with_reducible rfl
          try simp only [Act.put, List.setIfInBounds_toArray, List.set_cons_zero, List.set_cons_succ]
          refine' wpAnyH_take (i := 7) (v := _) (op_at rfl) (by kernel_rfl) (by kernel_rfl) (by kernel_rfl) (fun _ _ _ h => h) (Or.inl ⟨by rfl, ?hy39⟩) (by assumption) ?rest39
          case hy39 =>
            intro w' hS
            go_simp
            try with_reducible rfl
          try simp only [Act.put, List.setIfInBounds_toArray, List.set_cons_zero, List.set_cons_succ]
          refine wpAnyH_ready (rs := [4, 11]) (by kernel_rfl) (by simp) (AllReadyH.cons (op_at rfl) (fun K hK => ?bt40) (AllReadyH.cons (op_at rfl) (fun K hK => ?bt41) AllReadyH.nil))
          case bt40 =>
            go_simp
            refine (env_new 0 1 1 2 _).mono fun e w24 hq => ?_
            obtain ⟨ao1, L1, cc1, rfl, sv⟩ := hq
            have sq4 := sD.plus sv
            go_wp2_with fail
            refine hK.out _ _ ⟨(sq4.sel 15 [14]).head, (sq4.sel 14 [13]).head, (sq4.sel 13 [12]).head⟩ (fun hHeld => ?_)
            clear hK K
            try simp only [Act.put, List.setIfInBounds_toArray, List.set_cons_zero, List.set_cons_succ]
            refine wpAnyH_ready (rs := [8, 11]) (by kernel_rfl) (by simp) (AllReadyH.cons (op_at rfl) (fun K hK => ?bt42) (AllReadyH.cons (op_at rfl) (fun K hK => ?bt43) AllReadyH.nil))
            case bt42 =>
              go_simp
              refine (env_new 0 1 1 1 _).mono fun e w28 hq => ?_
              obtain ⟨ao2, L2, cc2, rfl, sv⟩ := hq
              have sq4_8 := sq4.plus sv
              go_wp2_with fail
              refine hK.out _ _ ⟨(sq4_8.sel 16 [15]).head, (sq4_8.sel 15 [14]).head, (sq4_8.sel 14 [13]).head⟩ (fun hHeld => ?_)
              clear hK K
              try simp only [Act.put, List.setIfInBounds_toArray, List.set_cons_zero, List.set_cons_succ]
              refine wpAnyH_ready (rs := [9, 11]) (by kernel_rfl) (by simp) (AllReadyH.cons (op_at rfl) (fun K hK => ?bt44) (AllReadyH.cons (op_at rfl) (fun K hK => ?bt45) AllReadyH.nil))
              case bt44 =>
                go_simp
                have sq4_8_9 := sq4_8.made2 (e := 32) (.slice ao1 L1 cc1) (.slice ao2 L2 cc2)
                go_wp2_with fail
                refine hK.out _ _ ⟨(sq4_8_9.sel 17 [16]).head, (sq4_8_9.sel 16 [15]).head, (sq4_8_9.sel 15 [14]).head⟩ (fun hHeld => ?_)
                clear hK K
                try simp only [Act.put, List.setIfInBounds_toArray, List.set_cons_zero, List.set_cons_succ]
                refine' wpAnyH_take (i := 10) (v := _) (op_at rfl) (by kernel_rfl) (by kernel_rfl) (by kernel_rfl) (fun _ _ _ h => h) (Or.inl ⟨by rfl, ?hy46⟩) (by assumption) ?rest46
                case hy46 =>
                  intro w' hS
                  go_simp
                  try with_reducible rfl
                try simp only [Act.put, List.setIfInBounds_toArray, List.set_cons_zero, List.set_cons_succ]
                refine wpAnyH_ready (rs := [11]) (by kernel_rfl) (by simp) (AllReadyH.cons (op_at rfl) (fun K hK => ?_) AllReadyH.nil)
                refine step_alloc_new (by rfl) 45 (by rfl) (.agg #[.int .u8 0, .int .i64 0, .int .i64 0, .int .u32 0, .int .u32 0, .int .i64 0, .slice none 0 0, .int .u64 0, .slice none 0 0]) (fun _ => by kernel_rfl) (fun A w31 o31 l31 h31 => ?_)
                have sq4_8_9_11 := sq4_8_9.add (b := blk A [.int .u8 0, .int .i64 0, .int .i64 0, .int .u32 0, .int .u32 0, .int .i64 0, .slice none 0 0, .int .u64 0, .slice none 0 0] 45) o31 h31 (fun k hk => by simp [blk] at hk; omega)
                go_wp2_with fail
                refine hK.out _ _ ⟨(sq4_8_9_11.sel 18 [17]).head, (sq4_8_9_11.sel 17 [16]).head, (sq4_8_9_11.sel 16 [15]).head⟩ (fun hHeld => ?_)
                clear hK K
                try simp only [Act.put, List.setIfInBounds_toArray, List.set_cons_zero, List.set_cons_succ]
                refine wpAnyH_ready (rs := [12]) (by kernel_rfl) (by simp) (AllReadyH.cons (op_at rfl) (fun K hK => ?_) AllReadyH.nil)
                refine step_store_blk (by rfl) 45 _ _ (by rfl) A 0 (.agg (ac 1 0 1 1 0 1 (.slice (some ⟨w28.heap.size, 0, none⟩) 2 2) 0 (.slice none 0 0)).toArray) (ac 1 0 1 1 0 1 (.slice (some ⟨w28.heap.size, 0, none⟩) 2 2) 0 (.slice none 0 0)) [.int .u8 0, .int .i64 0, .int .i64 0, .int .u32 0, .int .u32 0, .int .i64 0, .slice none 0 0, .int .u64 0, .slice none 0 0] 45 (by rfl) (by rfl) (by rfl) (sq4_8_9_11.sel 4 [0, 1, 2, 3]) (by simp [ac]) (by kernel_rfl) (by simp [ac, Value.oneCell']) (fun w32 o32 sq4_8_9_11_12 => ?_)
                go_wp2_with fail
                refine hK.out _ _ ⟨(sq4_8_9_11_12.sel 18 [17]).head, (sq4_8_9_11_12.sel 17 [16]).head, (sq4_8_9_11_12.sel 16 [15]).head⟩ (fun hHeld => ?_)
                clear hK K
                try simp only [Act.put, List.setIfInBounds_toArray, List.set_cons_zero, List.set_cons_succ]
                refine wpAnyH_done (by kernel_rfl) ?_ _
                go_wp2_with fail
                go_meet
                case rel => exact ⟨A, _, _, _, rfl, sq4_8_9_11_12.sel 18 [4, 5, 6, 7, 8, 9, 10, 11, 12, 1, 3, 2, 0, 13, 14, 15, 16, 17]⟩
              case bt45 =>
                refine step_alloc_new (by rfl) 45 (by rfl) (.agg #[.int .u8 0, .int .i64 0, .int .i64 0, .int .u32 0, .int .u32 0, .int .i64 0, .slice none 0 0, .int .u64 0, .slice none 0 0]) (fun _ => by kernel_rfl) (fun A w31 o31 l31 h31 => ?_)
                have sq4_8_11 := sq4_8.add (b := blk A [.int .u8 0, .int .i64 0, .int .i64 0, .int .u32 0, .int .u32 0, .int .i64 0, .slice none 0 0, .int .u64 0, .slice none 0 0] 45) o31 h31 (fun k hk => by simp [blk] at hk; omega)
                go_wp2_with fail
                refine hK.out _ _ ⟨(sq4_8_11.sel 17 [16]).head, (sq4_8_11.sel 16 [15]).head, (sq4_8_11.sel 15 [14]).head⟩ (fun hHeld => ?_)
                clear hK K
                try simp only [Act.put, List.setIfInBounds_toArray, List.set_cons_zero, List.set_cons_succ]
                refine wpAnyH_ready (rs := [9]) (by kernel_rfl) (by simp) (AllReadyH.cons (op_at rfl) (fun K hK => ?_) AllReadyH.nil)
                go_simp
                have sq4_8_11_9 := sq4_8_11.made2 (e := 32) (.slice ao1 L1 cc1) (.slice ao2 L2 cc2)
                go_wp2_with fail
                refine hK.out _ _ ⟨(sq4_8_11_9.sel 18 [17]).head, (sq4_8_11_9.sel 17 [16]).head, (sq4_8_11_9.sel 16 [15]).head⟩ (fun hHeld => ?_)
                clear hK K
                try simp only [Act.put, List.setIfInBounds_toArray, List.set_cons_zero, List.set_cons_succ]
                refine' wpAnyH_take (i := 10) (v := _) (op_at rfl) (by kernel_rfl) (by kernel_rfl) (by kernel_rfl) (fun _ _ _ h => h) (Or.inl ⟨by rfl, ?hy47⟩) (by assumption) ?rest47
                case hy47 =>
                  intro w' hS
                  go_simp
                  try with_reducible rfl
                try simp only [Act.put, List.setIfInBounds_toArray, List.set_cons_zero, List.set_cons_succ]
                refine wpAnyH_ready (rs := [12]) (by kernel_rfl) (by simp) (AllReadyH.cons (op_at rfl) (fun K hK => ?_) AllReadyH.nil)
                refine step_store_blk (by rfl) 45 _ _ (by rfl) A 0 (.agg (ac 1 0 1 1 0 1 (.slice (some ⟨w31.heap.size, 0, none⟩) 2 2) 0 (.slice none 0 0)).toArray) (ac 1 0 1 1 0 1 (.slice (some ⟨w31.heap.size, 0, none⟩) 2 2) 0 (.slice none 0 0)) [.int .u8 0, .int .i64 0, .int .i64 0, .int .u32 0, .int .u32 0, .int .i64 0, .slice none 0 0, .int .u64 0, .slice none 0 0] 45 (by rfl) (by rfl) (by rfl) (sq4_8_11_9.sel 4 [1, 0, 2, 3]) (by simp [ac]) (by kernel_rfl) (by simp [ac, Value.oneCell']) (fun w32 o32 sq4_8_11_9_12 => ?_)
                go_wp2_with fail
                refine hK.out _ _ ⟨(sq4_8_11_9_12.sel 18 [17]).head, (sq4_8_11_9_12.sel 17 [16]).head, (sq4_8_11_9_12.sel 16 [15]).head⟩ (fun hHeld => ?_)
                clear hK K
                try simp only [Act.put, List.setIfInBounds_toArray, List.set_cons_zero, List.set_cons_succ]
                refine wpAnyH_done (by kernel_rfl) ?_ _
                go_wp2_with fail
                go_meet
                case rel => exact ⟨A, _, _, _, rfl, sq4_8_11_9_12.sel 18 [4, 5, 6, 7, 8, 9, 10, 11, 12, 1, 3, 2, 0, 13, 14, 15, 16, 17]⟩
            case bt43 =>
              refine step_alloc_new (by rfl) 45 (by rfl) (.agg #[.int .u8 0, .int .i64 0, .int .i64 0, .int .u32 0, .int .u32 0, .int .i64 0, .slice none 0 0, .int .u64 0, .slice none 0 0]) (fun _ => by kernel_rfl) (fun A w31 o31 l31 h31 => ?_)
              have sq4_11 := sq4.add (b := blk A [.int .u8 0, .int .i64 0, .int .i64 0, .int .u32 0, .int .u32 0, .int .i64 0, .slice none 0 0, .int .u64 0, .slice none 0 0] 45) o31 h31 (fun k hk => by simp [blk] at hk; omega)
              go_wp2_with fail
              refine hK.out _ _ ⟨(sq4_11.sel 16 [15]).head, (sq4_11.sel 15 [14]).head, (sq4_11.sel 14 [13]).head⟩ (fun hHeld => ?_)
              clear hK K
              try simp only [Act.put, List.setIfInBounds_toArray, List.set_cons_zero, List.set_cons_succ]
              refine wpAnyH_ready (rs := [8]) (by kernel_rfl) (by simp) (AllReadyH.cons (op_at rfl) (fun K hK => ?_) AllReadyH.nil)
              go_simp
              refine (env_new 0 1 1 1 _).mono fun e w28 hq => ?_
              obtain ⟨ao2, L2, cc2, rfl, sv⟩ := hq
              have sq4_11_8 := sq4_11.plus sv
              go_wp2_with fail
              refine hK.out _ _ ⟨(sq4_11_8.sel 17 [16]).head, (sq4_11_8.sel 16 [15]).head, (sq4_11_8.sel 15 [14]).head⟩ (fun hHeld => ?_)
              clear hK K
              try simp only [Act.put, List.setIfInBounds_toArray, List.set_cons_zero, List.set_cons_succ]
              refine wpAnyH_ready (rs := [9]) (by kernel_rfl) (by simp) (AllReadyH.cons (op_at rfl) (fun K hK => ?_) AllReadyH.nil)
              go_simp
              have sq4_11_8_9 := sq4_11_8.made2 (e := 32) (.slice ao1 L1 cc1) (.slice ao2 L2 cc2)
              go_wp2_with fail
              refine hK.out _ _ ⟨(sq4_11_8_9.sel 18 [17]).head, (sq4_11_8_9.sel 17 [16]).head, (sq4_11_8_9.sel 16 [15]).head⟩ (fun hHeld => ?_)
              clear hK K
              try simp only [Act.put, List.setIfInBounds_toArray, List.set_cons_zero, List.set_cons_succ]
              refine' wpAnyH_take (i := 10) (v := _) (op_at rfl) (by kernel_rfl) (by kernel_rfl) (by kernel_rfl) (fun _ _ _ h => h) (Or.inl ⟨by rfl, ?hy48⟩) (by assumption) ?rest48
              case hy48 =>
                intro w' hS
                go_simp
                try with_reducible rfl
              try simp only [Act.put, List.setIfInBounds_toArray, List.set_cons_zero, List.set_cons_succ]
              refine wpAnyH_ready (rs := [12]) (by kernel_rfl) (by simp) (AllReadyH.cons (op_at rfl) (fun K hK => ?_) AllReadyH.nil)
              refine step_store_blk (by rfl) 45 _ _ (by rfl) A 0 (.agg (ac 1 0 1 1 0 1 (.slice (some ⟨w28.heap.size, 0, none⟩) 2 2) 0 (.slice none 0 0)).toArray) (ac 1 0 1 1 0 1 (.slice (some ⟨w28.heap.size, 0, none⟩) 2 2) 0 (.slice none 0 0)) [.int .u8 0, .int .i64 0, .int .i64 0, .int .u32 0, .int .u32 0, .int .i64 0, .slice none 0 0, .int .u64 0, .slice none 0 0] 45 (by rfl) (by rfl) (by rfl) (sq4_11_8_9.sel 4 [2, 0, 1, 3]) (by simp [ac]) (by kernel_rfl) (by simp [ac, Value.oneCell']) (fun w32 o32 sq4_11_8_9_12 => ?_)
              go_wp2_with fail
              refine hK.out _ _ ⟨(sq4_11_8_9_12.sel 18 [17]).head, (sq4_11_8_9_12.sel 17 [16]).head, (sq4_11_8_9_12.sel 16 [15]).head⟩ (fun hHeld => ?_)
              clear hK K
              try simp only [Act.put, List.setIfInBounds_toArray, List.set_cons_zero, List.set_cons_succ]
              refine wpAnyH_done (by kernel_rfl) ?_ _
              go_wp2_with fail
              go_meet
              case rel => exact ⟨A, _, _, _, rfl, sq4_11_8_9_12.sel 18 [4, 5, 6, 7, 8, 9, 10, 11, 12, 1, 3, 2, 0, 13, 14, 15, 16, 17]⟩
          case bt41 =>
            refine step_alloc_new (by rfl) 45 (by rfl) (.agg #[.int .u8 0, .int .i64 0, .int .i64 0, .int .u32 0, .int .u32 0, .int .i64 0, .slice none 0 0, .int .u64 0, .slice none 0 0]) (fun _ => by kernel_rfl) (fun A w31 o31 l31 h31 => ?_)
            have sq11 := sD.add (b := blk A [.int .u8 0, .int .i64 0, .int .i64 0, .int .u32 0, .int .u32 0, .int .i64 0, .slice none 0 0, .int .u64 0, .slice none 0 0] 45) o31 h31 (fun k hk => by simp [blk] at hk; omega)
            go_wp2_with fail
            refine hK.out _ _ ⟨(sq11.sel 15 [14]).head, (sq11.sel 14 [13]).head, (sq11.sel 13 [12]).head⟩ (fun hHeld => ?_)
            clear hK K
            try simp only [Act.put, List.setIfInBounds_toArray, List.set_cons_zero, List.set_cons_succ]
            refine wpAnyH_ready (rs := [4]) (by kernel_rfl) (by simp) (AllReadyH.cons (op_at rfl) (fun K hK => ?_) AllReadyH.nil)
            go_simp
            refine (env_new 0 1 1 2 _).mono fun e w24 hq => ?_
            obtain ⟨ao1, L1, cc1, rfl, sv⟩ := hq
            have sq11_4 := sq11.plus sv
            go_wp2_with fail
            refine hK.out _ _ ⟨(sq11_4.sel 16 [15]).head, (sq11_4.sel 15 [14]).head, (sq11_4.sel 14 [13]).head⟩ (fun hHeld => ?_)
            clear hK K
            try simp only [Act.put, List.setIfInBounds_toArray, List.set_cons_zero, List.set_cons_succ]
            refine wpAnyH_ready (rs := [8]) (by kernel_rfl) (by simp) (AllReadyH.cons (op_at rfl) (fun K hK => ?_) AllReadyH.nil)
            go_simp
            refine (env_new 0 1 1 1 _).mono fun e w28 hq => ?_
            obtain ⟨ao2, L2, cc2, rfl, sv⟩ := hq
            have sq11_4_8 := sq11_4.plus sv
            go_wp2_with fail
            refine hK.out _ _ ⟨(sq11_4_8.sel 17 [16]).head, (sq11_4_8.sel 16 [15]).head, (sq11_4_8.sel 15 [14]).head⟩ (fun hHeld => ?_)
            clear hK K
            try simp only [Act.put, List.setIfInBounds_toArray, List.set_cons_zero, List.set_cons_succ]
            refine wpAnyH_ready (rs := [9]) (by kernel_rfl) (by simp) (AllReadyH.cons (op_at rfl) (fun K hK => ?_) AllReadyH.nil)
            go_simp
            have sq11_4_8_9 := sq11_4_8.made2 (e := 32) (.slice ao1 L1 cc1) (.slice ao2 L2 cc2)
            go_wp2_with fail
            refine hK.out _ _ ⟨(sq11_4_8_9.sel 18 [17]).head, (sq11_4_8_9.sel 17 [16]).head, (sq11_4_8_9.sel 16 [15]).head⟩ (fun hHeld => ?_)
            clear hK K
            try simp only [Act.put, List.setIfInBounds_toArray, List.set_cons_zero, List.set_cons_succ]
            refine' wpAnyH_take (i := 10) (v := _) (op_at rfl) (by kernel_rfl) (by kernel_rfl) (by kernel_rfl) (fun _ _ _ h => h) (Or.inl ⟨by rfl, ?hy49⟩) (by assumption) ?rest49
            case hy49 =>
              intro w' hS
              go_simp
              try with_reducible rfl
            try simp only [Act.put, List.setIfInBounds_toArray, List.set_cons_zero, List.set_cons_succ]
            refine wpAnyH_ready (rs := [12]) (by kernel_rfl) (by simp) (AllReadyH.cons (op_at rfl) (fun K hK => ?_) AllReadyH.nil)
            refine step_store_blk (by rfl) 45 _ _ (by rfl) A 0 (.agg (ac 1 0 1 1 0 1 (.slice (some ⟨w28.heap.size, 0, none⟩) 2 2) 0 (.slice none 0 0)).toArray) (ac 1 0 1 1 0 1 (.slice (some ⟨w28.heap.size, 0, none⟩) 2 2) 0 (.slice none 0 0)) [.int .u8 0, .int .i64 0, .int .i64 0, .int .u32 0, .int .u32 0, .int .i64 0, .slice none 0 0, .int .u64 0, .slice none 0 0] 45 (by rfl) (by rfl) (by rfl) (sq11_4_8_9.sel 4 [3, 0, 1, 2]) (by simp [ac]) (by kernel_rfl) (by simp [ac, Value.oneCell']) (fun w32 o32 sq11_4_8_9_12 => ?_)
            go_wp2_with fail
            refine hK.out _ _ ⟨(sq11_4_8_9_12.sel 18 [17]).head, (sq11_4_8_9_12.sel 17 [16]).head, (sq11_4_8_9_12.sel 16 [15]).head⟩ (fun hHeld => ?_)
            clear hK K
            try simp only [Act.put, List.setIfInBounds_toArray, List.set_cons_zero, List.set_cons_succ]
            refine wpAnyH_done (by kernel_rfl) ?_ _
            go_wp2_with fail
            go_meet
            case rel => exact ⟨A, _, _, _, rfl, sq11_4_8_9_12.sel 18 [4, 5, 6, 7, 8, 9, 10, 11, 12, 1, 3, 2, 0, 13, 14, 15, 16, 17]⟩
        case rest =>
        clear sD
        obtain ⟨A, ev, v1, v2, rfl, s20⟩ := hcut
        obtain ⟨cs, hcs⟩ : ∃ cs, cs = (ac 1 0 1 1 0 1 ev 0 (.slice none 0 0)) := ⟨_, rfl⟩
        have Hcs := Lib.hid hcs
        have hal : cs.length = 9 := by rw [hcs]; rfl
        rw [← hcs] at s20
        clear hcs
        obtain ⟨⟨t1, t2, t3, t4, t5⟩, hrt⟩ := FF.out
        have Hf := handle_full SB RB BM LM v3 [x1, x2, x3] _ [] _ [] 0 1 1 0 1 ev 0 (.slice none 0 0) [(v1, (1, 2)), (v2, (1, 1))] wc s20 (by simp) hrt t1 rfl ⟨by decide, by decide⟩ ⟨by decide, by decide⟩ w32_1 [(1, 2), (1, 1)] [(1, 1), (1, 2)] (by simp) (by simp) rfl t4 (by simp) (by simp) t5 in_two1 in_two2 (rm2 lf []) (rooms_two (s20.sel 9 [7, 8]) (by have := hlf.out; simp; omega) (by simp) rfl rfl) (rm2_full (.inl hlf.out)) (envs_two (s20.sel 12 [9, 10, 11]))
        rw [← Hcs.out] at Hf
        clear t1 t2 t3 t4 t5 hrt
        have hA : wc.heap[A]? = some (.cells cs.toArray 45 (0, 0)) := (s20.sel 13 [12]).head
        go_wp2_with (refine wpList_load_blk (op := ⟨some 61, .load 45 _, _, _, _, _⟩) rfl 45 _ rfl A rfl cs _ hA Try.underlying45 (by rfl) (by rw [hal]; kernel_rfl) ?_)
        refine Hf.mono ?_
        rintro e w21 ⟨he, s21⟩
        replace he : e = .returned (.agg #[.int .u8 1, .int .i64 0, .int .i64 1, .int .u32 1, .int .u32 0, .int .i64 3, .slice none 0 0, .slice none 0 0, .slice none 0 0]) := he
        subst he
        clear Hf hA s20
        have hre : ([.int .u8 1, .int .i64 0, .int .i64 1, .int .u32 1, .int .u32 0, .int .i64 3, .slice none 0 0, .slice none 0 0, .slice none 0 0] : List Value).toArray.all (·.oneCell') = true := by simp [Value.oneCell']
        go_upto_region 19 with (first
          | (refine wpList_alloc_new (op := ⟨some 12, .alloc 49, _, _, _, _⟩) rfl 49 rfl (.agg #[.int .u8 0, .int .i64 0, .int .i64 0, .int .u32 0, .int .u32 0, .int .i64 0, .slice none 0 0, .slice none 0 0, .slice none 0 0]) (fun _ => by kernel_rfl) ?_; intro R1 wN oN hNl hN)
          | (refine wpList_store_blk (op := ⟨none, .store 49 _ _, _, _, _, _⟩) rfl 49 _ _ rfl R1 [.int .u8 1, .int .i64 0, .int .i64 1, .int .u32 1, .int .u32 0, .int .i64 3, .slice none 0 0, .slice none 0 0, .slice none 0 0] rfl rfl hN rfl (by kernel_rfl) hre ?_; intro w22 oS hS_; have oNS := oN.new oS (fun i hi => by simp only [List.mem_singleton] at hi; omega)))
        have s22 := s21.add (b := blk R1 [.int .u8 1, .int .i64 0, .int .i64 1, .int .u32 1, .int .u32 0, .int .i64 3, .slice none 0 0, .slice none 0 0, .slice none 0 0] 49) oNS hS_ (fun k hk => by simp [blk] at hk; omega)
        clear s21 oN hNl hN oS hS_ oNS hre
        go_upto_region 19 with fail
        have sD := s22.quiet (Only.drew w22 [])
        clear s22
        refine wp_region_held_drew (S := fun w' => Only w22.drew w' []) (by kernel_rfl) (Only.refl _ _) (fun hHeld => ?_)
        refine' wpAnyH_take (i := 0) (v := _) (op_at rfl) (by kernel_rfl) (by kernel_rfl) (by kernel_rfl) (fun _ _ _ h => h) (Or.inl ⟨by rfl, ?hy50⟩) (by assumption) ?rest50
        case hy50 =>
          intro w' hS
          go_simp
          try with_reducible rfl
        try simp only [Act.put, List.setIfInBounds_toArray, List.set_cons_zero, List.set_cons_succ]
        refine' wpAnyH_take (i := 1) (v := _) (op_at rfl) (by kernel_rfl) (by kernel_rfl) (by kernel_rfl) (fun _ _ _ h => h) (Or.inl ⟨by rfl, ?hy51⟩) (by assumption) ?rest51
        case hy51 =>
          intro w' hS
          have hY_ := show w'.heap[Y]? = _ from ((sD.quiet hS).sel 18 [17]).head
          have hY0 := cell_two0 hY_
          have hY1 := cell_two1 hY_
          go_simp
          try with_reducible rfl
        try simp only [Act.put, List.setIfInBounds_toArray, List.set_cons_zero, List.set_cons_succ]
        refine' wpAnyH_take (i := 4) (v := _) (op_at rfl) (by kernel_rfl) (by kernel_rfl) (by kernel_rfl) (fun _ _ _ h => h) (Or.inl ⟨by rfl, ?hy52⟩) (by assumption) ?rest52
        case hy52 =>
          intro w' hS
          go_simp
          try with_reducible rfl
        try simp only [Act.put, List.setIfInBounds_toArray, List.set_cons_zero, List.set_cons_succ]
        refine' wpAnyH_take (i := 5) (v := _) (op_at rfl) (by kernel_rfl) (by kernel_rfl) (by kernel_rfl) (fun _ _ _ h => h) (Or.inl ⟨by rfl, ?hy53⟩) (by assumption) ?rest53
        case hy53 =>
          intro w' hS
          have hZ_ := show w'.heap[Z]? = _ from ((sD.quiet hS).sel 17 [16]).head
          have hZ0 := cell_two0 hZ_
          have hZ1 := cell_two1 hZ_
          go_simp
          try with_reducible rfl
        try simp only [Act.put, List.setIfInBounds_toArray, List.set_cons_zero, List.set_cons_succ]
        refine wpAnyH_ready (rs := [2]) (by kernel_rfl) (by simp) (AllReadyH.cons (op_at rfl) (fun K hK => ?_) AllReadyH.nil)
        go_simp
        refine (sbox_any SB RB BM LM _ _ _ _ _ _ 1 1 _ (sD.sel 8 [1, 2, 3, 4, 5, 6, 7, 0])).mono fun e w23 hq => ?_
        obtain ⟨he, o23⟩ := hq
        replace he : e = .returned (.pointer (some ⟨B2, 0, none⟩)) := he
        subst he
        go_wp2_with fail
        refine hK.out _ _ o23 (fun hHeld => ?_)
        clear hK K
        try simp only [Act.put, List.setIfInBounds_toArray, List.set_cons_zero, List.set_cons_succ]
        refine wpAnyH_ready (rs := [3]) (by kernel_rfl) (by simp) (AllReadyH.cons (op_at rfl) (fun K hK => ?_) AllReadyH.nil)
        go_simp
        refine (len_any B2 _ _ _ _ ((sD.quiet o23).sel 10 [9])).mono fun e wl hq => ?_
        obtain ⟨he, hww⟩ := hq
        subst hww
        replace he : e = .returned (.int .i64 32) := by rw [he, hlf.out]; rfl
        subst he
        go_wp2_with fail
        refine hK.out _ _ o23 (fun hHeld => ?_)
        clear hK K
        try simp only [Act.put, List.setIfInBounds_toArray, List.set_cons_zero, List.set_cons_succ]
        refine wpAnyH_ready (rs := [6]) (by kernel_rfl) (by simp) (AllReadyH.cons (op_at rfl) (fun K hK => ?_) AllReadyH.nil)
        go_simp
        refine (sbox_any SB RB BM LM _ _ _ _ _ _ 1 2 _ ((sD.quiet o23).sel 8 [1, 2, 3, 4, 5, 6, 7, 0])).mono fun e w24 hq => ?_
        obtain ⟨he, o24⟩ := hq
        replace he : e = .returned (.pointer (some ⟨B3, 0, none⟩)) := he
        subst he
        go_wp2_with fail
        refine hK.out _ _ (o23.trans o24) (fun hHeld => ?_)
        clear hK K
        try simp only [Act.put, List.setIfInBounds_toArray, List.set_cons_zero, List.set_cons_succ]
        refine wpAnyH_ready (rs := [7]) (by kernel_rfl) (by simp) (AllReadyH.cons (op_at rfl) (fun K hK => ?_) AllReadyH.nil)
        go_simp
        refine (len_any B3 _ _ _ _ (((sD.quiet o23).quiet o24).sel 9 [8])).mono fun e wl hq => ?_
        obtain ⟨he, hww⟩ := hq
        subst hww
        replace he : e = .returned (.int .i64 0) := he
        subst he
        go_wp2_with fail
        refine hK.out _ _ (o23.trans o24) (fun hHeld => ?_)
        clear hK K
        try simp only [Act.put, List.setIfInBounds_toArray, List.set_cons_zero, List.set_cons_succ]
        refine' wpAnyH_take (i := 8) (v := _) (op_at rfl) (by kernel_rfl) (by kernel_rfl) (by kernel_rfl) (fun _ _ _ h => h) (Or.inl ⟨by rfl, ?hy54⟩) (by assumption) ?rest54
        case hy54 =>
          intro w' hS
          have hw_ : IntKind.i64.wrap 32 = 32 := by rfl
          go_simp
          try with_reducible rfl
        try simp only [Act.put, List.setIfInBounds_toArray, List.set_cons_zero, List.set_cons_succ]
        refine' wpAnyH_take (i := 9) (v := _) (op_at rfl) (by kernel_rfl) (by kernel_rfl) (by kernel_rfl) (fun _ _ _ h => h) (Or.inl ⟨by rfl, ?hy55⟩) (by assumption) ?rest55
        case hy55 =>
          intro w' hS
          go_simp
          try with_reducible rfl
        try simp only [Act.put, List.setIfInBounds_toArray, List.set_cons_zero, List.set_cons_succ]
        refine wpAnyH_done (by kernel_rfl) ?_ _
        have s24 : Pw.Sep w w24 (_ :: _) := (sD.quiet o23).quiet o24
        have s25 := s24.sel 19 [1, 2, 3, 4, 5, 6, 7, 9, 8, 10, 11, 12, 13, 14, 15, 16, 17, 18, 0]
        clear sD hHeld o23 o24 s24
        obtain ⟨⟨t1, t2, t3, t4, t5⟩, hrt⟩ := FF.out
        have Hack := handle_ack SB RB BM LM v3 [x1, x2, x3] _ [] _ [] 1 1 0 0 0 (.slice none 0 0) up (.slice none 0 0) B2 uf lf la w24 s25 (by simp) hrt t2 rfl (by have := hlf.out; omega)
        clear t1 t2 t3 t4 t5 hrt
        have hW_ : w24.heap[W]? = some (.cells #[.int .i64 1, .int .i64 1] 27 (0, 0)) := (s25.sel 15 [14]).head
        have hW0 := cell_two0 hW_
        have hW1 := cell_two1 hW_
        clear hW_
        have e1 := E1.out
        have e2 := E2.out
        have e3 := E3.out
        have e4 := E4.out
        go_wp2_with fail
        clear e1 e2 e3 e4 s25 hW0 hW1
        refine Hack.mono ?_
        rintro e w26 ⟨rfl, uf', s26⟩
        clear Hack
        have hkl : (kp up lf).length < 32 := by have h1 := kp_lt hup1 hex.out; have h2 := hlf.out; omega
        have s27 := s26.sel 19 [0, 1, 2, 3, 4, 5, 6, 8, 7, 9, 10, 11, 12, 13, 14, 15, 16, 17, 18]
        clear s26
        obtain ⟨⟨t1, t2, t3, t4, t5⟩, hrt⟩ := FF.out
        have Ht := handle_two SB RB BM LM v3 [x1, x2, x3] _ [] _ [] 0 1 1 0 1 ev 0 (.slice none 0 0) [(v1, (1, 2)), (v2, (1, 1))] B3 _ [] 0 v1 1 2 B2 uf' (kp up lf) la v2 1 1 w26 s27 (by simp) hrt t1 rfl ⟨by decide, by decide⟩ ⟨by decide, by decide⟩ w32_1 [(1, 2), (1, 1)] [(1, 1), (1, 2)] (by simp) (by simp) rfl t4 (by simp) (by simp) t5 in_two1 in_two2 (rm2 (kp up lf) []) (rooms_two (s27.sel 9 [7, 8]) (by omega) (by simp) rfl rfl) (rm2_room hkl (by simp)) rfl rfl ⟨w32_1, w32_2⟩ rfl (by simp) ⟨by decide, by decide⟩ ⟨w32_1, w32_1⟩ rfl hkl (by have := hla.out; omega) (by simp)
        rw [← Hcs.out] at Ht
        clear t1 t2 t3 t4 t5 hrt
        have hA : w26.heap[A]? = some (.cells cs.toArray 45 (0, 0)) := (s27.sel 13 [12]).head
        go_wp2_with (refine wpList_load_blk (op := ⟨some 81, .load 45 _, _, _, _, _⟩) rfl 45 _ rfl A rfl cs _ hA Try.underlying45 (by rfl) (by rw [hal]; kernel_rfl) ?_)
        refine Ht.mono ?_
        rintro e w28 ⟨he, lv', a3, c3, u31, x31, u32_, x32, s28⟩
        replace he : e = .returned (.agg #[.int .u8 1, .int .i64 0, .int .i64 1, .int .u32 1, .int .u32 0, .int .i64 0, .slice none 0 0, .slice none 0 0, .slice none 0 0]) := he
        subst he
        clear Ht hA s27
        have hre : ([.int .u8 1, .int .i64 0, .int .i64 1, .int .u32 1, .int .u32 0, .int .i64 0, .slice none 0 0, .slice none 0 0, .slice none 0 0] : List Value).toArray.all (·.oneCell') = true := by simp [Value.oneCell']
        go_upto_region 22 with (first
          | (refine wpList_alloc_new (op := ⟨some 14, .alloc 49, _, _, _, _⟩) rfl 49 rfl (.agg #[.int .u8 0, .int .i64 0, .int .i64 0, .int .u32 0, .int .u32 0, .int .i64 0, .slice none 0 0, .slice none 0 0, .slice none 0 0]) (fun _ => by kernel_rfl) ?_; intro R2 wN oN hNl hN)
          | (refine wpList_store_blk (op := ⟨none, .store 49 _ _, _, _, _, _⟩) rfl 49 _ _ rfl R2 [.int .u8 1, .int .i64 0, .int .i64 1, .int .u32 1, .int .u32 0, .int .i64 0, .slice none 0 0, .slice none 0 0, .slice none 0 0] rfl rfl hN rfl (by kernel_rfl) hre ?_; intro w29 oS hS_; have oNS := oN.new oS (fun i hi => by simp only [List.mem_singleton] at hi; omega)))
        have s29 := s28.add (b := blk R2 [.int .u8 1, .int .i64 0, .int .i64 1, .int .u32 1, .int .u32 0, .int .i64 0, .slice none 0 0, .slice none 0 0, .slice none 0 0] 49) oNS hS_ (fun k hk => by simp [blk] at hk; omega)
        clear s28 oN hNl hN oS hS_ oNS hre
        have s30 := s29.sel 20 [1, 2, 3, 4, 5, 6, 7, 0, 19]
        clear s29
        have rA : w29.cell? ⟨R1, 5, none⟩ = some (.int .i64 3) := cell_in (show w29.heap[R1]? = _ from (s30.sel 9 [8]).head) 5
        have rB : w29.cell? ⟨R2, 5, none⟩ = some (.int .i64 0) := cell_in (show w29.heap[R2]? = _ from (s30.sel 8 [7]).head) 5
        go_wp2_with fail
        clear rA rB
        refine (log_any SB RB BM LM _ _ _ _ _ _ w29 s30 (by simp)).mono ?_
        rintro e w31 ⟨ag1, cg1, he, s31⟩
        replace he : e = .returned (.slice ag1 1 cg1) := he
        subst he
        go_wp2_with fail
        refine (log_any SB RB BM LM _ _ _ _ _ _ w31 (s30.quiet s31.only) (by simp)).mono ?_
        rintro e w32 ⟨ag2, cg2, he, s32⟩
        replace he : e = .returned (.slice ag2 1 cg2) := he
        obtain ⟨g, hg, _⟩ := own_some (show w32.ownsRow 0 60 5 (.slice ag2 1 cg2) 1 _ from s32.head) (by decide)
        subst hg
        subst he
        have hrow : w32.ownsRow 0 60 5 (.slice (some ⟨g, 0, none⟩) ([(⟨0, 1, 1, 1, .slice a3 2 c3, rfl⟩ : Sn)] : List Sn).length cg2) ([(⟨0, 1, 1, 1, .slice a3 2 c3, rfl⟩ : Sn)] : List Sn).length (fl sc [(⟨0, 1, 1, 1, .slice a3 2 c3, rfl⟩ : Sn)]) := s32.head
        have q4 := rec_cell sc_len hrow (m := 0) (by simp) 4 (v := .slice a3 2 c3) rfl
        simp only [Nat.zero_mul, Nat.zero_add] at q4
        have oF := ((oA.trans s30.only).trans s31.only).trans s32.only
        clear s30 s31 s32 hrow
        go_wp2_with fail
        go_ret
        exact ⟨rfl, oF.below (Nat.le_refl _) (by simp)⟩

set_option maxRecDepth 100000 in
theorem serverFull_holds : Rows.ServerFullSaid := serverFull.said fun H enc base W v0 v1 d0 p0 d1 p1 h0 t0 h1 t1 => by
  obtain ⟨m, rfl, _, _, hm⟩ := Go.ChangeShapes.open_int Try.underlying5 h0 t0
  obtain ⟨b, rfl, _⟩ := Go.RowKit.open_bool Try.underlying4 h1 t1
  exact full_walk m (u8_wf hm) b W
end Go.Proofs.Yticojdepepkdlaa
