/- ServerOnce returns true for every number, with a cancel or without, however often the ask is sent again. No condition. Printed by gen_soo.py. -/
import Derived.Test.YticojdepepkdlaaSvh
import Derived.Test.YticojdepepkdlaaSvq
import Derived.Test.YticojdepepkdlaaSvb
import Derived.Test.YticojdepepkdlaaSvc
import Derived.Deep.Cut
import Derived.Deep.CutBlock
import Derived.Deep.CutRange
import Derived.Test.YticojdepepkdlaaPj
import Derived.Test.YticojdepepkdlaaSServerOnce
set_option linter.unusedSimpArgs false
set_option linter.unusedVariables false
namespace Go.Pw
open Go.RowKit
theorem Sep.made1 {w0 w : World} {rs : List Res} {e : TypeId} (v : Value) (h : Sep w0 w rs) : Sep w0 (w.alloc (.cells #[v] e)) (row e 1 (.slice (some ⟨w.heap.size, 0, none⟩) 1 1) 1 [v] :: rs) :=
  h.add (Only.alloc _ _ _) ⟨by simp, .inr ⟨_, 1, #[v], rfl, Nat.zero_le _, heap_alloc_new w _, Nat.le_refl _, by unfold maxLen; omega, rfl, by simp⟩⟩ (fun k hk => by simp [row, Value.ownBlock] at hk; omega)
end Go.Pw
namespace Go.Proofs.Yticojdepepkdlaa
open Go.RowKit Go.Pw
set_option linter.unusedVariables false

theorem in_one : ∀ p ∈ ([(1, 1)] : List (Int × Int)), hasW [(1, 1)] p.1 p.2 = true := fun p hp => by
  obtain rfl : p = (1, 1) := by simpa using hp
  simp [hasW]
theorem one_at {bm : List ((Int × Int) × Value)} {X : Nat} (h : getM bm (1, 1) = some (.pointer (some ⟨X, 0, none⟩))) : ∀ p ∈ ([(1, 1)] : List (Int × Int)), getM bm p = some (.pointer (some ⟨X, 0, none⟩)) := fun p hp => by
  obtain rfl : p = (1, 1) := by simpa using hp
  exact h

set_option maxRecDepth 100000 in
set_option maxHeartbeats 2000000 in
theorem once_walk (n : Int) (hn : 0 ≤ n ∧ n < 4294967296) (cb : Bool) (ag : Int) (hag : 0 ≤ ag ∧ ag < 256) (w0 : World) :
    Calls Try.prog 3 #[.int .u32 n, .bool cb, .int .u8 ag] w0 fun e w' => e = .returned (.bool true) ∧ Below w0.heap.size w0 w' := by
  obtain ⟨kk, hkk, hk3⟩ : ∃ kk : Nat, ag % 3 = (kk : Int) ∧ kk < 3 := ⟨(ag % 3).toNat, by omega, by omega⟩
  obtain ⟨k, hk⟩ : ∃ k : Nat, k = 2 + kk := ⟨_, rfl⟩
  have e1 : ag.tmod 3 = (kk : Int) := by rw [Int.tmod_eq_emod_of_nonneg hag.1]; exact hkk
  have e3 : IntKind.i64.wrap ag = ag := by rw [IntKind.wrap_i64]; omega
  have E1 := Lib.hid e1
  have E3 := Lib.hid e3
  have E2 : Hid ((2 : Int) + (kk : Int) = (k : Int)) := by show _ = _; omega
  have hk2 : 2 ≤ k := by omega
  have hk5 : k ≤ 4 := by omega
  clear hkk e1 e3 hk hag
  have h1c : ([.int .i64 0, .int .i64 1] : List Value).toArray.all (·.oneCell') = true := by simp [Value.oneCell']
  have h2c : ([.int .i64 1, .int .i64 1] : List Value).toArray.all (·.oneCell') = true := by simp [Value.oneCell']
  go_enter Try.func3, Try.ntmps3
  go_wp2_with fail
  refine (awake_any _).mono ?_
  rintro e w ⟨rfl, oA⟩
  go_upto_if 18 with fail
  go_cut [0] from 17 to 19 (fun u0 wx => ∃ m : Int, u0 = .int .u32 m ∧ 0 < m ∧ m < 4294967296 ∧ w = wx)
  case first =>
    by_cases hn0 : n = 0
    · subst hn0
      go_wp2_with fail
      go_meet
      case rel => exact ⟨1, rfl, by decide, by decide, rfl⟩
    · have dn : (n == 0) = false := by simpa using hn0
      go_wp2_with fail
      go_meet
      case rel => exact ⟨n, rfl, by omega, by omega, rfl⟩
  case rest =>
  obtain ⟨m, rfl, hm0, hm1, rfl⟩ := hcut
  clear hn
  go_wp2_with fail
  refine (snew_any w).mono ?_
  rintro e w1 ⟨SB, RB, BM, LM, rfl, s1⟩
  go_upto_region 7 with (first
    | (refine wpList_alloc_new (op := ⟨some 8, .alloc 27, _, _, _, _⟩) rfl 27 rfl (.agg #[.int .i64 0, .int .i64 0]) (fun _ => by kernel_rfl) ?_; intro X wX oX hXl hX)
    | (refine wpList_store_blk (op := ⟨none, .store 27 _ _, _, _, _, _⟩) rfl 27 _ _ rfl X [.int .i64 0, .int .i64 1] rfl rfl hX rfl (by kernel_rfl) h1c ?_; intro w2 o2 hX2; have oX2 := oX.new o2 (fun i hi => by simp only [List.mem_singleton] at hi; omega)))
  have s2 := s1.add (b := blk X [.int .i64 0, .int .i64 1] 27) oX2 hX2 (fun k hk => by simp [blk] at hk; omega)
  clear s1 oX hXl hX o2 oX2 hX2
  go_upto_region 8 with (first
    | (refine wpList_alloc_new (op := ⟨some 9, .alloc 27, _, _, _, _⟩) rfl 27 rfl (.agg #[.int .i64 0, .int .i64 0]) (fun _ => by kernel_rfl) ?_; intro Y wY oY hYl hY)
    | (refine wpList_store_blk (op := ⟨none, .store 27 _ _, _, _, _, _⟩) rfl 27 _ _ rfl Y [.int .i64 1, .int .i64 1] rfl rfl hY rfl (by kernel_rfl) h2c ?_; intro w3 o3 hY3; have oY3 := oY.new o3 (fun i hi => by simp only [List.mem_singleton] at hi; omega)))
  have s3 : Sep w w3 (blk Y [.int .i64 1, .int .i64 1] 27 :: blk X [.int .i64 0, .int .i64 1] 27 :: srvR SB RB BM LM (.slice none 0 0) [] [] [] (.slice none 0 0) [] []) := s2.add (b := blk Y [.int .i64 1, .int .i64 1] 27) oY3 hY3 (fun k hk => by simp [blk] at hk; omega)
  clear s2 oY hYl hY o3 oY3 hY3
  have sD := s3.quiet (Only.drew w3 [])
  clear s3
  refine wp_region_held_drew (S := fun w' => (blk X [.int .i64 0, .int .i64 1] 27).ok w' ∧ (blk Y [.int .i64 1, .int .i64 1] 27).ok w') (by kernel_rfl) ⟨(sD.sel 2 [1]).head, sD.head⟩ (fun hHeld => ?_)
  refine' wpAnyH_take (i := 0) (v := _) (op_at rfl) (by kernel_rfl) (by kernel_rfl) (by kernel_rfl) (fun _ _ _ h => h) (Or.inl ⟨by rfl, ?hy1⟩) (by assumption) ?rest1
  case hy1 =>
    intro w' hS
    go_simp
    try with_reducible rfl
  try simp only [Act.put, List.setIfInBounds_toArray, List.set_cons_zero, List.set_cons_succ]
  refine' wpAnyH_take (i := 1) (v := _) (op_at rfl) (by kernel_rfl) (by kernel_rfl) (by kernel_rfl) (fun _ _ _ h => h) (Or.inl ⟨by rfl, ?hy2⟩) (by assumption) ?rest2
  case hy2 =>
    intro w' hS
    have hx_ := show w'.heap[X]? = _ from hS.1
    have hx0 := cell_two0 hx_
    have hx1 := cell_two1 hx_
    go_simp
    try with_reducible rfl
  try simp only [Act.put, List.setIfInBounds_toArray, List.set_cons_zero, List.set_cons_succ]
  refine' wpAnyH_take (i := 2) (v := _) (op_at rfl) (by kernel_rfl) (by kernel_rfl) (by kernel_rfl) (fun _ _ _ h => h) (Or.inl ⟨by rfl, ?hy3⟩) (by assumption) ?rest3
  case hy3 =>
    intro w' hS
    have hx_ := show w'.heap[X]? = _ from hS.1
    have hx0 := cell_two0 hx_
    have hx1 := cell_two1 hx_
    go_simp
    try with_reducible rfl
  try simp only [Act.put, List.setIfInBounds_toArray, List.set_cons_zero, List.set_cons_succ]
  refine wpAnyH_ready (rs := [3]) (by kernel_rfl) (by simp) (AllReadyH.cons (op_at rfl) (fun K hK => ?_) AllReadyH.nil)
  go_simp
  refine (bundles_any 0 1 _).mono fun e w4 hq => ?_
  obtain ⟨b1, a1, c1, rfl, hl1, hb1, s4⟩ := hq
  have sA := sD.plus s4
  go_wp2_with fail
  refine hK.out _ _ ⟨(sA.sel 3 [2]).head, (sA.sel 2 [1]).head⟩ (fun hHeld => ?_)
  clear hK K
  try simp only [Act.put, List.setIfInBounds_toArray, List.set_cons_zero, List.set_cons_succ]
  refine wpAnyH_ready (rs := [4]) (by kernel_rfl) (by simp) (AllReadyH.cons (op_at rfl) (fun K hK => ?_) AllReadyH.nil)
  go_simp
  refine (link_new SB RB BM LM _ [] [] [] _ [] 0 1 _ b1 _ (sA.sel 10 [3, 4, 5, 6, 7, 8, 9, 0, 1, 2]) hb1 hl1 (by simp) rise_nil (by rfl) (by rfl) _ (fresh0 0 1)).mono fun e w5 hq => ?_
  obtain ⟨rfl, v1, x1, B1, hx1, s5⟩ := hq
  go_wp2_with fail
  refine hK.out _ _ ⟨(s5.sel 10 [9]).head, (s5.sel 9 [8]).head⟩ (fun hHeld => ?_)
  clear hK K
  try simp only [Act.put, List.setIfInBounds_toArray, List.set_cons_zero, List.set_cons_succ]
  refine wpAnyH_done (by kernel_rfl) ?_ _
  clear sD s4 sA hHeld hb1 hl1
  go_upto_region 9 with fail
  have sD := s5.quiet (Only.drew w5 [])
  clear s5
  refine wp_region_held_drew (S := fun w' => (blk X [.int .i64 0, .int .i64 1] 27).ok w' ∧ (blk Y [.int .i64 1, .int .i64 1] 27).ok w') (by kernel_rfl) ⟨(sD.sel 10 [9]).head, (sD.sel 9 [8]).head⟩ (fun hHeld => ?_)
  refine' wpAnyH_take (i := 0) (v := _) (op_at rfl) (by kernel_rfl) (by kernel_rfl) (by kernel_rfl) (fun _ _ _ h => h) (Or.inl ⟨by rfl, ?hy4⟩) (by assumption) ?rest4
  case hy4 =>
    intro w' hS
    go_simp
    try with_reducible rfl
  try simp only [Act.put, List.setIfInBounds_toArray, List.set_cons_zero, List.set_cons_succ]
  refine' wpAnyH_take (i := 1) (v := _) (op_at rfl) (by kernel_rfl) (by kernel_rfl) (by kernel_rfl) (fun _ _ _ h => h) (Or.inl ⟨by rfl, ?hy5⟩) (by assumption) ?rest5
  case hy5 =>
    intro w' hS
    have hy_ := show w'.heap[Y]? = _ from hS.2
    have hy0 := cell_two0 hy_
    have hy1 := cell_two1 hy_
    go_simp
    try with_reducible rfl
  try simp only [Act.put, List.setIfInBounds_toArray, List.set_cons_zero, List.set_cons_succ]
  refine' wpAnyH_take (i := 2) (v := _) (op_at rfl) (by kernel_rfl) (by kernel_rfl) (by kernel_rfl) (fun _ _ _ h => h) (Or.inl ⟨by rfl, ?hy6⟩) (by assumption) ?rest6
  case hy6 =>
    intro w' hS
    have hy_ := show w'.heap[Y]? = _ from hS.2
    have hy0 := cell_two0 hy_
    have hy1 := cell_two1 hy_
    go_simp
    try with_reducible rfl
  try simp only [Act.put, List.setIfInBounds_toArray, List.set_cons_zero, List.set_cons_succ]
  refine wpAnyH_ready (rs := [3]) (by kernel_rfl) (by simp) (AllReadyH.cons (op_at rfl) (fun K hK => ?_) AllReadyH.nil)
  go_simp
  refine (bundles_any 1 1 _).mono fun e w6 hq => ?_
  obtain ⟨b2, a2, c2, rfl, hl2, hb2, s6⟩ := hq
  have sB := sD.plus s6
  go_wp2_with fail
  refine hK.out _ _ ⟨(sB.sel 11 [10]).head, (sB.sel 10 [9]).head⟩ (fun hHeld => ?_)
  clear hK K
  try simp only [Act.put, List.setIfInBounds_toArray, List.set_cons_zero, List.set_cons_succ]
  refine wpAnyH_ready (rs := [4]) (by kernel_rfl) (by simp) (AllReadyH.cons (op_at rfl) (fun K hK => ?_) AllReadyH.nil)
  go_simp
  refine (link_new SB RB BM LM _ [x1] _ [] _ [] 1 1 _ b2 _ (sB.sel 11 [1, 2, 3, 4, 5, 6, 7, 0, 8, 9, 10]) hb2 hl2 (by simp) (rise_one x1) (ld_next hx1) (ld_found hx1) _ (ld_ins hx1)).mono fun e w7 hq => ?_
  obtain ⟨rfl, v2, x2, B2, hx2, s7⟩ := hq
  go_wp2_with fail
  refine hK.out _ _ ⟨(s7.sel 11 [10]).head, (s7.sel 10 [9]).head⟩ (fun hHeld => ?_)
  clear hK K
  try simp only [Act.put, List.setIfInBounds_toArray, List.set_cons_zero, List.set_cons_succ]
  refine wpAnyH_done (by kernel_rfl) ?_ _
  clear sD s6 sB hHeld hb2 hl2
  obtain ⟨t1, t2, t3, t4, t5⟩ := two_facts hx1 hx2
  have hrt := rise_two hx1 hx2
  clear t4 t5 hx1 hx2
  have F := Lib.hid (And.intro t1 (And.intro t2 (And.intro t3 hrt)))
  clear t1 t2 t3 hrt
  go_upto_region 10 with fail
  have sD : Sep w w7.drew (srvR SB RB BM LM v2 [x1, x2] (putM (putM [] (0, 1) (.pointer (some ⟨B1, 0, none⟩))) (1, 1) (.pointer (some ⟨B2, 0, none⟩))) [] (.slice none 0 0) [] (box B2 (.slice none 0 0) [] 0 :: box B1 (.slice none 0 0) [] 0 :: blk Y [.int .i64 1, .int .i64 1] 27 :: blk X [.int .i64 0, .int .i64 1] 27 :: [])) := s7.quiet (Only.drew w7 [])
  clear s7
  go_cut [10] from 32 to 40 (fun u10 wx => ∃ (A : Nat) (ev v1 : Value), u10 = .pointer (some ⟨A, 0, none⟩) ∧ Pw.Sep w wx (srvR SB RB BM LM v2 [x1, x2] (putM (putM [] (0, 1) (.pointer (some ⟨B1, 0, none⟩))) (1, 1) (.pointer (some ⟨B2, 0, none⟩))) [] (.slice none 0 0) [] (box B2 (.slice none 0 0) [] 0 :: row 32 1 ev 1 [v1] :: row 5 1 v1 (eB 0 1 1 1).length ((eB 0 1 1 1).map (Value.int .u8)) :: blk A (ac 1 0 1 m 0 1 ev 0 (.slice none 0 0)) 45 :: box B1 (.slice none 0 0) [] 0 :: blk Y [.int .i64 1, .int .i64 1] 27 :: blk X [.int .i64 0, .int .i64 1] 27 :: [])))
  case first =>
    refine wp_region_held_drew (S := fun w' => (blk X [.int .i64 0, .int .i64 1] 27).ok w' ∧ (blk Y [.int .i64 1, .int .i64 1] 27).ok w') (by kernel_rfl) ⟨(sD.sel 11 [10]).head, (sD.sel 10 [9]).head⟩ (fun hHeld => ?_)
    refine' wpAnyH_take (i := 0) (v := _) (op_at rfl) (by kernel_rfl) (by kernel_rfl) (by kernel_rfl) (fun _ _ _ h => h) (Or.inl ⟨by rfl, ?hy7⟩) (by assumption) ?rest7
    case hy7 =>
      intro w' hS
      have hx_ := show w'.heap[X]? = _ from hS.1
      have hx0 := cell_two0 hx_
      have hx1 := cell_two1 hx_
      go_simp
      try with_reducible rfl
    try simp only [Act.put, List.setIfInBounds_toArray, List.set_cons_zero, List.set_cons_succ]
    refine' wpAnyH_take (i := 1) (v := _) (op_at rfl) (by kernel_rfl) (by kernel_rfl) (by kernel_rfl) (fun _ _ _ h => h) (Or.inl ⟨by rfl, ?hy8⟩) (by assumption) ?rest8
    case hy8 =>
      intro w' hS
      go_simp
      try with_reducible rfl
    try simp only [Act.put, List.setIfInBounds_toArray, List.set_cons_zero, List.set_cons_succ]
    refine' wpAnyH_take (i := 2) (v := _) (op_at rfl) (by kernel_rfl) (by kernel_rfl) (by kernel_rfl) (fun _ _ _ h => h) (Or.inl ⟨by rfl, ?hy9⟩) (by assumption) ?rest9
    case hy9 =>
      intro w' hS
      have hx_ := show w'.heap[X]? = _ from hS.1
      have hx0 := cell_two0 hx_
      have hx1 := cell_two1 hx_
      go_simp
      try with_reducible rfl
    try simp only [Act.put, List.setIfInBounds_toArray, List.set_cons_zero, List.set_cons_succ]
    refine' wpAnyH_take (i := 3) (v := _) (op_at rfl) (by kernel_rfl) (by kernel_rfl) (by kernel_rfl) (fun _ _ _ h => h) (Or.inl ⟨by rfl, ?hy10⟩) (by assumption) ?rest10
    case hy10 =>
      intro w' hS
      have hy_ := show w'.heap[Y]? = _ from hS.2
      have hy0 := cell_two0 hy_
      have hy1 := cell_two1 hy_
      go_simp
      try with_reducible rfl
    try simp only [Act.put, List.setIfInBounds_toArray, List.set_cons_zero, List.set_cons_succ]
    refine' wpAnyH_take (i := 4) (v := _) (op_at rfl) (by kernel_rfl) (by kernel_rfl) (by kernel_rfl) (fun _ _ _ h => h) (Or.inl ⟨by rfl, ?hy11⟩) (by assumption) ?rest11
    case hy11 =>
      intro w' hS
      go_simp
      try with_reducible rfl
    try simp only [Act.put, List.setIfInBounds_toArray, List.set_cons_zero, List.set_cons_succ]
    refine wpAnyH_ready (rs := [5, 8]) (by kernel_rfl) (by simp) (AllReadyH.cons (op_at rfl) (fun K hK => ?bt12) (AllReadyH.cons (op_at rfl) (fun K hK => ?bt13) AllReadyH.nil))
    case bt12 =>
      go_simp
      refine (env_new 0 1 1 1 _).mono fun e w9 hq => ?_
      obtain ⟨ao, L, cc, rfl, sv⟩ := hq
      have sq5 := sD.plus sv
      go_wp2_with fail
      refine hK.out _ _ ⟨(sq5.sel 12 [11]).head, (sq5.sel 11 [10]).head⟩ (fun hHeld => ?_)
      clear hK K
      try simp only [Act.put, List.setIfInBounds_toArray, List.set_cons_zero, List.set_cons_succ]
      refine wpAnyH_ready (rs := [6, 8]) (by kernel_rfl) (by simp) (AllReadyH.cons (op_at rfl) (fun K hK => ?bt14) (AllReadyH.cons (op_at rfl) (fun K hK => ?bt15) AllReadyH.nil))
      case bt14 =>
        go_simp
        have sq56 := sq5.made1 (e := 32) (.slice ao L cc)
        go_wp2_with fail
        refine hK.out _ _ ⟨(sq56.sel 13 [12]).head, (sq56.sel 12 [11]).head⟩ (fun hHeld => ?_)
        clear hK K
        try simp only [Act.put, List.setIfInBounds_toArray, List.set_cons_zero, List.set_cons_succ]
        refine' wpAnyH_take (i := 7) (v := _) (op_at rfl) (by kernel_rfl) (by kernel_rfl) (by kernel_rfl) (fun _ _ _ h => h) (Or.inl ⟨by rfl, ?hy16⟩) (by assumption) ?rest16
        case hy16 =>
          intro w' hS
          go_simp
          try with_reducible rfl
        try simp only [Act.put, List.setIfInBounds_toArray, List.set_cons_zero, List.set_cons_succ]
        refine wpAnyH_ready (rs := [8]) (by kernel_rfl) (by simp) (AllReadyH.cons (op_at rfl) (fun K hK => ?_) AllReadyH.nil)
        refine step_alloc_new (by rfl) 45 (by rfl) (.agg #[.int .u8 0, .int .i64 0, .int .i64 0, .int .u32 0, .int .u32 0, .int .i64 0, .slice none 0 0, .int .u64 0, .slice none 0 0]) (fun _ => by kernel_rfl) (fun A w8 o8 l8 h8 => ?_)
        have sq568 := sq56.add (b := blk A [.int .u8 0, .int .i64 0, .int .i64 0, .int .u32 0, .int .u32 0, .int .i64 0, .slice none 0 0, .int .u64 0, .slice none 0 0] 45) o8 h8 (fun k hk => by simp [blk] at hk; omega)
        go_wp2_with fail
        refine hK.out _ _ ⟨(sq568.sel 14 [13]).head, (sq568.sel 13 [12]).head⟩ (fun hHeld => ?_)
        clear hK K
        try simp only [Act.put, List.setIfInBounds_toArray, List.set_cons_zero, List.set_cons_succ]
        refine wpAnyH_ready (rs := [9]) (by kernel_rfl) (by simp) (AllReadyH.cons (op_at rfl) (fun K hK => ?_) AllReadyH.nil)
        refine step_store_blk (by rfl) 45 _ _ (by rfl) A 0 (.agg (ac 1 0 1 m 0 1 (.slice (some ⟨w9.heap.size, 0, none⟩) 1 1) 0 (.slice none 0 0)).toArray) (ac 1 0 1 m 0 1 (.slice (some ⟨w9.heap.size, 0, none⟩) 1 1) 0 (.slice none 0 0)) [.int .u8 0, .int .i64 0, .int .i64 0, .int .u32 0, .int .u32 0, .int .i64 0, .slice none 0 0, .int .u64 0, .slice none 0 0] 45 (by rfl) (by rfl) (by rfl) (sq568.sel 3 [0, 1, 2]) (by simp [ac]) (by kernel_rfl) (by simp [ac, Value.oneCell']) (fun w11 o11 sq5689 => ?_)
        go_wp2_with fail
        refine hK.out _ _ ⟨(sq5689.sel 14 [13]).head, (sq5689.sel 13 [12]).head⟩ (fun hHeld => ?_)
        clear hK K
        try simp only [Act.put, List.setIfInBounds_toArray, List.set_cons_zero, List.set_cons_succ]
        refine wpAnyH_done (by kernel_rfl) ?_ _
        go_wp2_with fail
        go_meet
        case rel => exact ⟨A, _, _, rfl, sq5689.sel 14 [3, 4, 5, 6, 7, 8, 9, 10, 1, 2, 0, 11, 12, 13]⟩
      case bt15 =>
        refine step_alloc_new (by rfl) 45 (by rfl) (.agg #[.int .u8 0, .int .i64 0, .int .i64 0, .int .u32 0, .int .u32 0, .int .i64 0, .slice none 0 0, .int .u64 0, .slice none 0 0]) (fun _ => by kernel_rfl) (fun A w8 o8 l8 h8 => ?_)
        have sq58 := sq5.add (b := blk A [.int .u8 0, .int .i64 0, .int .i64 0, .int .u32 0, .int .u32 0, .int .i64 0, .slice none 0 0, .int .u64 0, .slice none 0 0] 45) o8 h8 (fun k hk => by simp [blk] at hk; omega)
        go_wp2_with fail
        refine hK.out _ _ ⟨(sq58.sel 13 [12]).head, (sq58.sel 12 [11]).head⟩ (fun hHeld => ?_)
        clear hK K
        try simp only [Act.put, List.setIfInBounds_toArray, List.set_cons_zero, List.set_cons_succ]
        refine wpAnyH_ready (rs := [6]) (by kernel_rfl) (by simp) (AllReadyH.cons (op_at rfl) (fun K hK => ?_) AllReadyH.nil)
        go_simp
        have sq586 := sq58.made1 (e := 32) (.slice ao L cc)
        go_wp2_with fail
        refine hK.out _ _ ⟨(sq586.sel 14 [13]).head, (sq586.sel 13 [12]).head⟩ (fun hHeld => ?_)
        clear hK K
        try simp only [Act.put, List.setIfInBounds_toArray, List.set_cons_zero, List.set_cons_succ]
        refine' wpAnyH_take (i := 7) (v := _) (op_at rfl) (by kernel_rfl) (by kernel_rfl) (by kernel_rfl) (fun _ _ _ h => h) (Or.inl ⟨by rfl, ?hy17⟩) (by assumption) ?rest17
        case hy17 =>
          intro w' hS
          go_simp
          try with_reducible rfl
        try simp only [Act.put, List.setIfInBounds_toArray, List.set_cons_zero, List.set_cons_succ]
        refine wpAnyH_ready (rs := [9]) (by kernel_rfl) (by simp) (AllReadyH.cons (op_at rfl) (fun K hK => ?_) AllReadyH.nil)
        refine step_store_blk (by rfl) 45 _ _ (by rfl) A 0 (.agg (ac 1 0 1 m 0 1 (.slice (some ⟨w8.heap.size, 0, none⟩) 1 1) 0 (.slice none 0 0)).toArray) (ac 1 0 1 m 0 1 (.slice (some ⟨w8.heap.size, 0, none⟩) 1 1) 0 (.slice none 0 0)) [.int .u8 0, .int .i64 0, .int .i64 0, .int .u32 0, .int .u32 0, .int .i64 0, .slice none 0 0, .int .u64 0, .slice none 0 0] 45 (by rfl) (by rfl) (by rfl) (sq586.sel 3 [1, 0, 2]) (by simp [ac]) (by kernel_rfl) (by simp [ac, Value.oneCell']) (fun w11 o11 sq5869 => ?_)
        go_wp2_with fail
        refine hK.out _ _ ⟨(sq5869.sel 14 [13]).head, (sq5869.sel 13 [12]).head⟩ (fun hHeld => ?_)
        clear hK K
        try simp only [Act.put, List.setIfInBounds_toArray, List.set_cons_zero, List.set_cons_succ]
        refine wpAnyH_done (by kernel_rfl) ?_ _
        go_wp2_with fail
        go_meet
        case rel => exact ⟨A, _, _, rfl, sq5869.sel 14 [3, 4, 5, 6, 7, 8, 9, 10, 1, 2, 0, 11, 12, 13]⟩
    case bt13 =>
      refine step_alloc_new (by rfl) 45 (by rfl) (.agg #[.int .u8 0, .int .i64 0, .int .i64 0, .int .u32 0, .int .u32 0, .int .i64 0, .slice none 0 0, .int .u64 0, .slice none 0 0]) (fun _ => by kernel_rfl) (fun A w8 o8 l8 h8 => ?_)
      have sq8 := sD.add (b := blk A [.int .u8 0, .int .i64 0, .int .i64 0, .int .u32 0, .int .u32 0, .int .i64 0, .slice none 0 0, .int .u64 0, .slice none 0 0] 45) o8 h8 (fun k hk => by simp [blk] at hk; omega)
      go_wp2_with fail
      refine hK.out _ _ ⟨(sq8.sel 12 [11]).head, (sq8.sel 11 [10]).head⟩ (fun hHeld => ?_)
      clear hK K
      try simp only [Act.put, List.setIfInBounds_toArray, List.set_cons_zero, List.set_cons_succ]
      refine wpAnyH_ready (rs := [5]) (by kernel_rfl) (by simp) (AllReadyH.cons (op_at rfl) (fun K hK => ?_) AllReadyH.nil)
      go_simp
      refine (env_new 0 1 1 1 _).mono fun e w9 hq => ?_
      obtain ⟨ao, L, cc, rfl, sv⟩ := hq
      have sq85 := sq8.plus sv
      go_wp2_with fail
      refine hK.out _ _ ⟨(sq85.sel 13 [12]).head, (sq85.sel 12 [11]).head⟩ (fun hHeld => ?_)
      clear hK K
      try simp only [Act.put, List.setIfInBounds_toArray, List.set_cons_zero, List.set_cons_succ]
      refine wpAnyH_ready (rs := [6]) (by kernel_rfl) (by simp) (AllReadyH.cons (op_at rfl) (fun K hK => ?_) AllReadyH.nil)
      go_simp
      have sq856 := sq85.made1 (e := 32) (.slice ao L cc)
      go_wp2_with fail
      refine hK.out _ _ ⟨(sq856.sel 14 [13]).head, (sq856.sel 13 [12]).head⟩ (fun hHeld => ?_)
      clear hK K
      try simp only [Act.put, List.setIfInBounds_toArray, List.set_cons_zero, List.set_cons_succ]
      refine' wpAnyH_take (i := 7) (v := _) (op_at rfl) (by kernel_rfl) (by kernel_rfl) (by kernel_rfl) (fun _ _ _ h => h) (Or.inl ⟨by rfl, ?hy18⟩) (by assumption) ?rest18
      case hy18 =>
        intro w' hS
        go_simp
        try with_reducible rfl
      try simp only [Act.put, List.setIfInBounds_toArray, List.set_cons_zero, List.set_cons_succ]
      refine wpAnyH_ready (rs := [9]) (by kernel_rfl) (by simp) (AllReadyH.cons (op_at rfl) (fun K hK => ?_) AllReadyH.nil)
      refine step_store_blk (by rfl) 45 _ _ (by rfl) A 0 (.agg (ac 1 0 1 m 0 1 (.slice (some ⟨w9.heap.size, 0, none⟩) 1 1) 0 (.slice none 0 0)).toArray) (ac 1 0 1 m 0 1 (.slice (some ⟨w9.heap.size, 0, none⟩) 1 1) 0 (.slice none 0 0)) [.int .u8 0, .int .i64 0, .int .i64 0, .int .u32 0, .int .u32 0, .int .i64 0, .slice none 0 0, .int .u64 0, .slice none 0 0] 45 (by rfl) (by rfl) (by rfl) (sq856.sel 3 [2, 0, 1]) (by simp [ac]) (by kernel_rfl) (by simp [ac, Value.oneCell']) (fun w11 o11 sq8569 => ?_)
      go_wp2_with fail
      refine hK.out _ _ ⟨(sq8569.sel 14 [13]).head, (sq8569.sel 13 [12]).head⟩ (fun hHeld => ?_)
      clear hK K
      try simp only [Act.put, List.setIfInBounds_toArray, List.set_cons_zero, List.set_cons_succ]
      refine wpAnyH_done (by kernel_rfl) ?_ _
      go_wp2_with fail
      go_meet
      case rel => exact ⟨A, _, _, rfl, sq8569.sel 14 [3, 4, 5, 6, 7, 8, 9, 10, 1, 2, 0, 11, 12, 13]⟩
  case rest =>
  clear sD
  obtain ⟨A, ev, v1, rfl, s10⟩ := hcut
  obtain ⟨cs, hcs⟩ : ∃ cs, cs = (ac 1 0 1 m 0 1 ev 0 (.slice none 0 0)) := ⟨_, rfl⟩
  have Hcs := Lib.hid hcs
  have hal : cs.length = 9 := by rw [hcs]; rfl
  have z0 : cs.toArray[0]? = some (.int .u8 1) := by rw [hcs]; rfl
  rw [← hcs] at s10
  clear hcs z0
  obtain ⟨t1, t2, t3, hrt⟩ := F.out
  have Hone := fun (w' : World) (s : Pw.Sep w w' (srvR SB RB BM LM v2 [x1, x2] (putM (putM [] (0, 1) (.pointer (some ⟨B1, 0, none⟩))) (1, 1) (.pointer (some ⟨B2, 0, none⟩))) [] (.slice none 0 0) [] (box B2 (.slice none 0 0) [] 0 :: row 32 1 ev 1 [v1] :: row 5 1 v1 (eB 0 1 1 1).length ((eB 0 1 1 1).map (Value.int .u8)) :: blk A cs 45 :: box B1 (.slice none 0 0) [] 0 :: blk Y [.int .i64 1, .int .i64 1] 27 :: blk X [.int .i64 0, .int .i64 1] 27 :: []))) => handle_one SB RB BM LM v2 [x1, x2] _ [] _ [] 0 1 m 0 1 ev 0 (.slice none 0 0) [(v1, (1, 1))] B2 _ [] 0 v1 1 1 w' s (by simp) hrt t1 rfl ⟨hm0, hm1⟩ ⟨by decide, by decide⟩ ⟨by decide, by decide⟩ [(1, 1)] [(1, 1)] (by simp) (by simp) rfl t2 (by simp) (by simp) t3 in_one in_one (fun _ => 32 - (([] : List It).length : Int)) (fun p hp => ⟨B2, one_at rfl p hp, fun w'' o => room_any B2 _ [] 0 w'' ((s.quiet o).sel 8 [7]) (by simp)⟩) (by decide) rfl rfl ⟨⟨by decide, by decide⟩, ⟨by decide, by decide⟩⟩ rfl (by simp) ⟨by decide, by decide⟩ (by simp)
  have Hsame := fun (w' : World) (lv' : Value) (lg : Sn) (u1 : Value) (y1 : It) (s : Pw.Sep w w' (srvR SB RB BM LM v2 [x1, x2] (putM (putM [] (0, 1) (.pointer (some ⟨B1, 0, none⟩))) (1, 1) (.pointer (some ⟨B2, 0, none⟩))) (putM [] (0, 1) (.agg #[.int .u32 m, .bool true])) lv' [lg] (box B2 u1 [y1] (0 + 1) :: row 32 1 ev 1 [v1] :: row 5 1 v1 (eB 0 1 1 1).length ((eB 0 1 1 1).map (Value.int .u8)) :: blk A cs 45 :: box B1 (.slice none 0 0) [] 0 :: blk Y [.int .i64 1, .int .i64 1] 27 :: blk X [.int .i64 0, .int .i64 1] 27 :: []))) => handle_same SB RB BM LM v2 [x1, x2] _ _ _ [lg] 0 1 m 0 1 ev 0 (.slice none 0 0) w' s (by simp) hrt t1 rfl
  have Hused := fun (w' : World) (s : Pw.Sep w w' (srvR SB RB BM LM v2 [x1, x2] (putM (putM [] (0, 1) (.pointer (some ⟨B1, 0, none⟩))) (1, 1) (.pointer (some ⟨B2, 0, none⟩))) (putM [] (0, 1) (.agg #[.int .u32 m, .bool false])) (.slice none 0 0) [] (box B2 (.slice none 0 0) [] 0 :: row 32 1 ev 1 [v1] :: row 5 1 v1 (eB 0 1 1 1).length ((eB 0 1 1 1).map (Value.int .u8)) :: blk A cs 45 :: box B1 (.slice none 0 0) [] 0 :: blk Y [.int .i64 1, .int .i64 1] 27 :: blk X [.int .i64 0, .int .i64 1] 27 :: []))) => handle_used SB RB BM LM v2 [x1, x2] _ _ _ [] 0 1 m 0 1 ev 0 (.slice none 0 0) w' s (by simp) hrt t1 rfl
  have Hcn := fun (w' : World) (s : Pw.Sep w w' (srvR SB RB BM LM v2 [x1, x2] (putM (putM [] (0, 1) (.pointer (some ⟨B1, 0, none⟩))) (1, 1) (.pointer (some ⟨B2, 0, none⟩))) [] (.slice none 0 0) [] (box B2 (.slice none 0 0) [] 0 :: row 32 1 ev 1 [v1] :: row 5 1 v1 (eB 0 1 1 1).length ((eB 0 1 1 1).map (Value.int .u8)) :: blk A cs 45 :: box B1 (.slice none 0 0) [] 0 :: blk Y [.int .i64 1, .int .i64 1] 27 :: blk X [.int .i64 0, .int .i64 1] 27 :: []))) => handle_cancel_new SB RB BM LM v2 [x1, x2] _ [] _ [] 0 1 m 0 0 (.slice none 0 0) 0 (.slice none 0 0) w' s (by simp) hrt t1 rfl hm0
  have Hcu := fun (w' : World) (lv' : Value) (lg : Sn) (u1 : Value) (y1 : It) (s : Pw.Sep w w' (srvR SB RB BM LM v2 [x1, x2] (putM (putM [] (0, 1) (.pointer (some ⟨B1, 0, none⟩))) (1, 1) (.pointer (some ⟨B2, 0, none⟩))) (putM [] (0, 1) (.agg #[.int .u32 m, .bool true])) lv' [lg] (box B2 u1 [y1] (0 + 1) :: row 32 1 ev 1 [v1] :: row 5 1 v1 (eB 0 1 1 1).length ((eB 0 1 1 1).map (Value.int .u8)) :: blk A cs 45 :: box B1 (.slice none 0 0) [] 0 :: blk Y [.int .i64 1, .int .i64 1] 27 :: blk X [.int .i64 0, .int .i64 1] 27 :: []))) => handle_cancel_used SB RB BM LM v2 [x1, x2] _ _ _ [lg] 0 1 m 0 0 (.slice none 0 0) 0 (.slice none 0 0) w' s (by simp) hrt t1 rfl
  have Hcsm := fun (w' : World) (s : Pw.Sep w w' (srvR SB RB BM LM v2 [x1, x2] (putM (putM [] (0, 1) (.pointer (some ⟨B1, 0, none⟩))) (1, 1) (.pointer (some ⟨B2, 0, none⟩))) (putM [] (0, 1) (.agg #[.int .u32 m, .bool false])) (.slice none 0 0) [] (box B2 (.slice none 0 0) [] 0 :: row 32 1 ev 1 [v1] :: row 5 1 v1 (eB 0 1 1 1).length ((eB 0 1 1 1).map (Value.int .u8)) :: blk A cs 45 :: box B1 (.slice none 0 0) [] 0 :: blk Y [.int .i64 1, .int .i64 1] 27 :: blk X [.int .i64 0, .int .i64 1] 27 :: []))) => handle_cancel_same SB RB BM LM v2 [x1, x2] _ _ _ [] 0 1 m 0 0 (.slice none 0 0) 0 (.slice none 0 0) w' s (by simp) hrt t1 rfl
  rw [← Hcs.out] at Hone Hsame Hused
  clear t1 t2 t3 hrt
  cases cb with
  | false =>
    go_wp2_with fail
    go_loopw [13] (fun z wr => ∃ i : Nat, z = .int .i64 i ∧ i ≤ k ∧ ((Hid (i = 0) ∧ Pw.Sep w wr (srvR SB RB BM LM v2 [x1, x2] (putM (putM [] (0, 1) (.pointer (some ⟨B1, 0, none⟩))) (1, 1) (.pointer (some ⟨B2, 0, none⟩))) [] (.slice none 0 0) [] (box B2 (.slice none 0 0) [] 0 :: row 32 1 ev 1 [v1] :: row 5 1 v1 (eB 0 1 1 1).length ((eB 0 1 1 1).map (Value.int .u8)) :: blk A cs 45 :: box B1 (.slice none 0 0) [] 0 :: blk Y [.int .i64 1, .int .i64 1] 27 :: blk X [.int .i64 0, .int .i64 1] 27 :: []))) ∨ (0 < i ∧ ∃ (lv' : Value) (lg : Sn) (u1 : Value) (y1 : It), Pw.Sep w wr (srvR SB RB BM LM v2 [x1, x2] (putM (putM [] (0, 1) (.pointer (some ⟨B1, 0, none⟩))) (1, 1) (.pointer (some ⟨B2, 0, none⟩))) (putM [] (0, 1) (.agg #[.int .u32 m, .bool true])) lv' [lg] (box B2 u1 [y1] (0 + 1) :: row 32 1 ev 1 [v1] :: row 5 1 v1 (eB 0 1 1 1).length ((eB 0 1 1 1).map (Value.int .u8)) :: blk A cs 45 :: box B1 (.slice none 0 0) [] 0 :: blk Y [.int .i64 1, .int .i64 1] 27 :: blk X [.int .i64 0, .int .i64 1] 27 :: []))))) (fun z _ => k - (intOf z).toNat)
    case atStart => exact ⟨0, rfl, Nat.zero_le _, .inl ⟨rfl, s10⟩⟩
    case round =>
      clear s10
      obtain ⟨i, rfl, hi, hs⟩ := hrel
      have e1 := E1.out
      have e2 := E2.out
      have e3 := E3.out
      by_cases hlt : i < k
      · have d1 : decide ((i : Int) < (k : Int)) = true := by simpa using hlt
        rcases hs with ⟨hi0, st⟩ | ⟨hi0, lv', lg, u1, y1, st⟩
        · have hA : wr.heap[A]? = some (.cells cs.toArray 45 (0, 0)) := (st.sel 11 [10]).head
          have Hp := Hone wr st
          clear Hone Hsame Hused Hcn Hcu Hcsm
          go_wp2_with (refine wpList_load_blk (op := ⟨some 60, .load 45 _, _, _, _, _⟩) rfl 45 _ rfl A rfl cs _ hA Try.underlying45 (by rfl) (by rw [hal]; kernel_rfl) ?_)
          refine Hp.mono ?_
          rintro e w2 ⟨he, lv', a3, c3, u1, y1, s2⟩
          replace he : e = .returned (.agg #[.int .u8 1, .int .i64 0, .int .i64 1, .int .u32 m, .int .u32 0, .int .i64 0, .slice none 0 0, .slice none 0 0, .slice none 0 0]) := he
          subst he
          have S2 := Lib.hid (show ∃ (lv' : Value) (lg : Sn) (u1 : Value) (y1 : It), Pw.Sep w w2 (srvR SB RB BM LM v2 [x1, x2] (putM (putM [] (0, 1) (.pointer (some ⟨B1, 0, none⟩))) (1, 1) (.pointer (some ⟨B2, 0, none⟩))) (putM [] (0, 1) (.agg #[.int .u32 m, .bool true])) lv' [lg] (box B2 u1 [y1] (0 + 1) :: row 32 1 ev 1 [v1] :: row 5 1 v1 (eB 0 1 1 1).length ((eB 0 1 1 1).map (Value.int .u8)) :: blk A cs 45 :: box B1 (.slice none 0 0) [] 0 :: blk Y [.int .i64 1, .int .i64 1] 27 :: blk X [.int .i64 0, .int .i64 1] 27 :: [])) from ⟨lv', _, u1, y1, s2⟩)
          clear s2 hA Hp st
          have hfd : ∀ w : World, (Instr.field 49 (.agg #[.int .u8 1, .int .i64 0, .int .i64 1, .int .u32 m, .int .u32 0, .int .i64 0, .slice none 0 0, .slice none 0 0, .slice none 0 0]) 4).run Try.prog w = .ok (.int .i64 0) w := fun _ => by kernel_rfl
          go_wp2_with fail
          clear hfd
          exact ⟨⟨i + 1, by simp, by omega, .inr ⟨by omega, S2.out⟩⟩, by simp [intOf]; omega⟩
        · have hA : wr.heap[A]? = some (.cells cs.toArray 45 (0, 0)) := (st.sel 11 [10]).head
          have Hp := Hsame wr lv' lg u1 y1 st
          clear Hone Hsame Hused Hcn Hcu Hcsm
          go_wp2_with (refine wpList_load_blk (op := ⟨some 60, .load 45 _, _, _, _, _⟩) rfl 45 _ rfl A rfl cs _ hA Try.underlying45 (by rfl) (by rw [hal]; kernel_rfl) ?_)
          refine Hp.mono ?_
          rintro e w2 ⟨he, s2⟩
          replace he : e = .returned (.agg #[.int .u8 1, .int .i64 0, .int .i64 1, .int .u32 m, .int .u32 0, .int .i64 0, .slice none 0 0, .slice none 0 0, .slice none 0 0]) := he
          subst he
          have S2 := Lib.hid (show ∃ (lv' : Value) (lg : Sn) (u1 : Value) (y1 : It), Pw.Sep w w2 (srvR SB RB BM LM v2 [x1, x2] (putM (putM [] (0, 1) (.pointer (some ⟨B1, 0, none⟩))) (1, 1) (.pointer (some ⟨B2, 0, none⟩))) (putM [] (0, 1) (.agg #[.int .u32 m, .bool true])) lv' [lg] (box B2 u1 [y1] (0 + 1) :: row 32 1 ev 1 [v1] :: row 5 1 v1 (eB 0 1 1 1).length ((eB 0 1 1 1).map (Value.int .u8)) :: blk A cs 45 :: box B1 (.slice none 0 0) [] 0 :: blk Y [.int .i64 1, .int .i64 1] 27 :: blk X [.int .i64 0, .int .i64 1] 27 :: [])) from ⟨lv', lg, u1, y1, s2⟩)
          clear s2 hA Hp st
          have hfd : ∀ w : World, (Instr.field 49 (.agg #[.int .u8 1, .int .i64 0, .int .i64 1, .int .u32 m, .int .u32 0, .int .i64 0, .slice none 0 0, .slice none 0 0, .slice none 0 0]) 4).run Try.prog w = .ok (.int .i64 0) w := fun _ => by kernel_rfl
          go_wp2_with fail
          clear hfd
          exact ⟨⟨i + 1, by simp, by omega, .inr ⟨by omega, S2.out⟩⟩, by simp [intOf]; omega⟩
      · obtain rfl : i = k := by omega
        have d1 : decide ((i : Int) < (i : Int)) = false := by simp
        rcases hs with ⟨hi0, st⟩ | ⟨hi0, lv', lg, u1, y1, st⟩
        · exact absurd hi0.out (by omega)
        · clear Hone Hsame Hused Hcn Hcsm
          have hX_ : wr.heap[X]? = some (.cells #[.int .i64 0, .int .i64 1] 27 (0, 0)) := (st.sel 14 [13]).head
          have hx0 := cell_two0 hX_
          have hx1 := cell_two1 hX_
          clear hX_
          go_wp2_with fail
          refine (Hcu _ lv' lg u1 y1 st).mono ?_
          rintro e w3 ⟨he, s3⟩
          replace he : e = .returned (.agg #[.int .u8 5, .int .i64 0, .int .i64 1, .int .u32 m, .int .u32 0, .int .i64 8, .slice none 0 0, .slice none 0 0, .slice none 0 0]) := he
          subst he
          clear hx0 hx1 st
          have hre : ([.int .u8 5, .int .i64 0, .int .i64 1, .int .u32 m, .int .u32 0, .int .i64 8, .slice none 0 0, .slice none 0 0, .slice none 0 0] : List Value).toArray.all (·.oneCell') = true := by simp [Value.oneCell']
          go_upto_region 24 with (first
            | (refine wpList_alloc_new (op := ⟨some 14, .alloc 49, _, _, _, _⟩) rfl 49 rfl (.agg #[.int .u8 0, .int .i64 0, .int .i64 0, .int .u32 0, .int .u32 0, .int .i64 0, .slice none 0 0, .slice none 0 0, .slice none 0 0]) (fun _ => by kernel_rfl) ?_; intro R wR oR hRl hR)
            | (refine wpList_store_blk (op := ⟨none, .store 49 _ _, _, _, _, _⟩) rfl 49 _ _ rfl R [.int .u8 5, .int .i64 0, .int .i64 1, .int .u32 m, .int .u32 0, .int .i64 8, .slice none 0 0, .slice none 0 0, .slice none 0 0] rfl rfl hR rfl (by kernel_rfl) hre ?_; intro w4 o4 hR4; have oR4 := oR.new o4 (fun i hi => by simp only [List.mem_singleton] at hi; omega)))
          have s4 := s3.add (b := blk R [.int .u8 5, .int .i64 0, .int .i64 1, .int .u32 m, .int .u32 0, .int .i64 8, .slice none 0 0, .slice none 0 0, .slice none 0 0] 49) oR4 hR4 (fun k hk => by simp [blk] at hk; omega)
          clear s3 oR hRl hR o4 oR4 hR4 hre
          have hY_ : w4.heap[Y]? = some (.cells #[.int .i64 1, .int .i64 1] 27 (0, 0)) := (s4.sel 14 [13]).head
          have hy0 := cell_two0 hY_
          have hy1 := cell_two1 hY_
          clear hY_
          go_wp2_with fail
          refine (sbox_any SB RB BM LM _ _ _ _ _ _ 1 1 _ (s4.sel 8 [1, 2, 3, 4, 5, 6, 7, 0])).mono ?_
          rintro e w5 ⟨he, o5⟩
          replace he : e = .returned (.pointer (some ⟨B2, 0, none⟩)) := he
          subst he
          have s5 := s4.quiet o5
          clear s4 o5 hy0 hy1
          go_wp2_with fail
          refine (len_any B2 u1 [y1] (0 + 1) w5 (s5.sel 9 [8])).mono ?_
          rintro e w6 ⟨he, rfl⟩
          replace he : e = .returned (.int .i64 1) := he
          subst he
          go_wp2_with fail
          refine (log_any SB RB BM LM _ _ _ _ _ [lg] _ (s5.sel 8 [1, 2, 3, 4, 5, 6, 7, 0]) (by simp)).mono ?_
          rintro e w6 ⟨ag_, cg, he, s6⟩
          replace he : e = .returned (.slice ag_ 1 cg) := he
          subst he
          have s7 := s5.quiet s6.only
          have r5 : w6.cell? ⟨R, 5, none⟩ = some (.int .i64 8) := cell_in (show w6.heap[R]? = _ from s7.head) 5
          have oF := oA.trans s7.only
          clear s5 s6 s7
          go_wp2_with fail
          go_ret
          exact ⟨rfl, oF.below (Nat.le_refl _) (by simp)⟩
  | true =>
    have hX_ : wc.heap[X]? = some (.cells #[.int .i64 0, .int .i64 1] 27 (0, 0)) := (s10.sel 14 [13]).head
    have hx0 := cell_two0 hX_
    have hx1 := cell_two1 hX_
    clear hX_
    go_wp2_with fail
    refine (Hcn _ s10).mono ?_
    rintro e w2 ⟨he, s2⟩
    replace he : e = .returned (.agg #[.int .u8 5, .int .i64 0, .int .i64 1, .int .u32 m, .int .u32 0, .int .i64 0, .slice none 0 0, .slice none 0 0, .slice none 0 0]) := he
    subst he
    have s11 : Pw.Sep w w2 (srvR SB RB BM LM v2 [x1, x2] (putM (putM [] (0, 1) (.pointer (some ⟨B1, 0, none⟩))) (1, 1) (.pointer (some ⟨B2, 0, none⟩))) (putM [] (0, 1) (.agg #[.int .u32 m, .bool false])) (.slice none 0 0) [] (box B2 (.slice none 0 0) [] 0 :: row 32 1 ev 1 [v1] :: row 5 1 v1 (eB 0 1 1 1).length ((eB 0 1 1 1).map (Value.int .u8)) :: blk A cs 45 :: box B1 (.slice none 0 0) [] 0 :: blk Y [.int .i64 1, .int .i64 1] 27 :: blk X [.int .i64 0, .int .i64 1] 27 :: [])) := s2
    clear hx0 hx1 s10 s2
    have hfd : ∀ w : World, (Instr.field 49 (.agg #[.int .u8 5, .int .i64 0, .int .i64 1, .int .u32 m, .int .u32 0, .int .i64 0, .slice none 0 0, .slice none 0 0, .slice none 0 0]) 4).run Try.prog w = .ok (.int .i64 0) w := fun _ => by kernel_rfl
    go_wp2_with fail
    clear hfd
    go_loopw [13] (fun z wr => ∃ i : Nat, z = .int .i64 i ∧ i ≤ k ∧ Pw.Sep w wr (srvR SB RB BM LM v2 [x1, x2] (putM (putM [] (0, 1) (.pointer (some ⟨B1, 0, none⟩))) (1, 1) (.pointer (some ⟨B2, 0, none⟩))) (putM [] (0, 1) (.agg #[.int .u32 m, .bool false])) (.slice none 0 0) [] (box B2 (.slice none 0 0) [] 0 :: row 32 1 ev 1 [v1] :: row 5 1 v1 (eB 0 1 1 1).length ((eB 0 1 1 1).map (Value.int .u8)) :: blk A cs 45 :: box B1 (.slice none 0 0) [] 0 :: blk Y [.int .i64 1, .int .i64 1] 27 :: blk X [.int .i64 0, .int .i64 1] 27 :: []))) (fun z _ => k - (intOf z).toNat)
    case atStart => exact ⟨0, rfl, Nat.zero_le _, s11⟩
    case round =>
      clear s11
      obtain ⟨i, rfl, hi, st⟩ := hrel
      have e1 := E1.out
      have e2 := E2.out
      have e3 := E3.out
      by_cases hlt : i < k
      · have d1 : decide ((i : Int) < (k : Int)) = true := by simpa using hlt
        have hA : wr.heap[A]? = some (.cells cs.toArray 45 (0, 0)) := (st.sel 11 [10]).head
        have Hp := Hused wr st
        clear Hone Hsame Hused Hcn Hcu Hcsm
        go_wp2_with (refine wpList_load_blk (op := ⟨some 60, .load 45 _, _, _, _, _⟩) rfl 45 _ rfl A rfl cs _ hA Try.underlying45 (by rfl) (by rw [hal]; kernel_rfl) ?_)
        refine Hp.mono ?_
        rintro e w2 ⟨he, s2⟩
        replace he : e = .returned (.agg #[.int .u8 1, .int .i64 0, .int .i64 1, .int .u32 m, .int .u32 0, .int .i64 8, .slice none 0 0, .slice none 0 0, .slice none 0 0]) := he
        subst he
        have S2 := Lib.hid (show Pw.Sep w w2 (srvR SB RB BM LM v2 [x1, x2] (putM (putM [] (0, 1) (.pointer (some ⟨B1, 0, none⟩))) (1, 1) (.pointer (some ⟨B2, 0, none⟩))) (putM [] (0, 1) (.agg #[.int .u32 m, .bool false])) (.slice none 0 0) [] (box B2 (.slice none 0 0) [] 0 :: row 32 1 ev 1 [v1] :: row 5 1 v1 (eB 0 1 1 1).length ((eB 0 1 1 1).map (Value.int .u8)) :: blk A cs 45 :: box B1 (.slice none 0 0) [] 0 :: blk Y [.int .i64 1, .int .i64 1] 27 :: blk X [.int .i64 0, .int .i64 1] 27 :: [])) from s2)
        clear s2 hA Hp st
        have hfd : ∀ w : World, (Instr.field 49 (.agg #[.int .u8 1, .int .i64 0, .int .i64 1, .int .u32 m, .int .u32 0, .int .i64 8, .slice none 0 0, .slice none 0 0, .slice none 0 0]) 4).run Try.prog w = .ok (.int .i64 8) w := fun _ => by kernel_rfl
        go_wp2_with fail
        clear hfd
        exact ⟨⟨i + 1, by simp, by omega, S2.out⟩, by simp [intOf]; omega⟩
      · obtain rfl : i = k := by omega
        have d1 : decide ((i : Int) < (i : Int)) = false := by simp
        clear Hone Hsame Hused Hcn Hcu
        have hX_ : wr.heap[X]? = some (.cells #[.int .i64 0, .int .i64 1] 27 (0, 0)) := (st.sel 14 [13]).head
        have hx0 := cell_two0 hX_
        have hx1 := cell_two1 hX_
        clear hX_
        go_wp2_with fail
        refine (Hcsm _ st).mono ?_
        rintro e w3 ⟨he, s3⟩
        replace he : e = .returned (.agg #[.int .u8 5, .int .i64 0, .int .i64 1, .int .u32 m, .int .u32 0, .int .i64 0, .slice none 0 0, .slice none 0 0, .slice none 0 0]) := he
        subst he
        clear hx0 hx1 st
        have hre : ([.int .u8 5, .int .i64 0, .int .i64 1, .int .u32 m, .int .u32 0, .int .i64 0, .slice none 0 0, .slice none 0 0, .slice none 0 0] : List Value).toArray.all (·.oneCell') = true := by simp [Value.oneCell']
        go_upto_region 24 with (first
          | (refine wpList_alloc_new (op := ⟨some 14, .alloc 49, _, _, _, _⟩) rfl 49 rfl (.agg #[.int .u8 0, .int .i64 0, .int .i64 0, .int .u32 0, .int .u32 0, .int .i64 0, .slice none 0 0, .slice none 0 0, .slice none 0 0]) (fun _ => by kernel_rfl) ?_; intro R wR oR hRl hR)
          | (refine wpList_store_blk (op := ⟨none, .store 49 _ _, _, _, _, _⟩) rfl 49 _ _ rfl R [.int .u8 5, .int .i64 0, .int .i64 1, .int .u32 m, .int .u32 0, .int .i64 0, .slice none 0 0, .slice none 0 0, .slice none 0 0] rfl rfl hR rfl (by kernel_rfl) hre ?_; intro w4 o4 hR4; have oR4 := oR.new o4 (fun i hi => by simp only [List.mem_singleton] at hi; omega)))
        have s4 := s3.add (b := blk R [.int .u8 5, .int .i64 0, .int .i64 1, .int .u32 m, .int .u32 0, .int .i64 0, .slice none 0 0, .slice none 0 0, .slice none 0 0] 49) oR4 hR4 (fun k hk => by simp [blk] at hk; omega)
        clear s3 oR hRl hR o4 oR4 hR4 hre
        have hY_ : w4.heap[Y]? = some (.cells #[.int .i64 1, .int .i64 1] 27 (0, 0)) := (s4.sel 14 [13]).head
        have hy0 := cell_two0 hY_
        have hy1 := cell_two1 hY_
        clear hY_
        go_wp2_with fail
        refine (sbox_any SB RB BM LM _ _ _ _ _ _ 1 1 _ (s4.sel 8 [1, 2, 3, 4, 5, 6, 7, 0])).mono ?_
        rintro e w5 ⟨he, o5⟩
        replace he : e = .returned (.pointer (some ⟨B2, 0, none⟩)) := he
        subst he
        have s5 := s4.quiet o5
        clear s4 o5 hy0 hy1
        go_wp2_with fail
        refine (len_any B2 _ [] 0 w5 (s5.sel 9 [8])).mono ?_
        rintro e w6 ⟨he, rfl⟩
        replace he : e = .returned (.int .i64 0) := he
        subst he
        go_wp2_with fail
        refine (log_any SB RB BM LM _ _ _ _ _ [] _ (s5.sel 8 [1, 2, 3, 4, 5, 6, 7, 0]) (by simp)).mono ?_
        rintro e w6 ⟨ag_, cg, he, s6⟩
        replace he : e = .returned (.slice ag_ 0 cg) := he
        subst he
        have s7 := s5.quiet s6.only
        have r5 : w6.cell? ⟨R, 5, none⟩ = some (.int .i64 0) := cell_in (show w6.heap[R]? = _ from s7.head) 5
        have oF := oA.trans s7.only
        clear s5 s6 s7
        go_wp2_with fail
        go_ret
        exact ⟨rfl, oF.below (Nat.le_refl _) (by simp)⟩

set_option maxRecDepth 100000 in
theorem serverOnce_holds : Rows.ServerOnceSaid := serverOnce.said fun H enc base W v0 v1 v2 d0 p0 d1 p1 d2 p2 h0 t0 h1 t1 h2 t2 => by
  obtain ⟨n, rfl, _, _, hn⟩ := Go.ChangeShapes.open_int Try.underlying22 h0 t0
  obtain ⟨b, rfl, _⟩ := Go.RowKit.open_bool Try.underlying4 h1 t1
  obtain ⟨m, rfl, _, _, hm⟩ := Go.ChangeShapes.open_int Try.underlying5 h2 t2
  exact once_walk n (u32_wf hn) b m (u8_wf hm) W
end Go.Proofs.Yticojdepepkdlaa
