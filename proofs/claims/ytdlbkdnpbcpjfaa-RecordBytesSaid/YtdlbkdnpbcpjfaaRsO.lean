/- The law step: a known device is put. Printed by gen_rs.py. -/
import Derived.Test.YtdlbkdnpbcpjfaaRs0
import Derived.Test.YtdlbkdnpbcpjfaaPk
set_option linter.unusedSimpArgs false
set_option linter.unusedVariables false
namespace Go.Proofs.Ytdlbkdnpbcpjfaa
open Go.RowKit Go.Pw Go.Pw.Fl
set_option linter.unusedVariables false

set_option maxRecDepth 100000 in
set_option maxHeartbeats 1600000 in
theorem step_other {w0 : World} {rs : List Res} (B : Nat) (L : List Rcd) (M : List Ln) (v mv : Value) (ka A I : Int) (T D i : Nat) (w : World) (h : Sep w0 w (row 36 7 v (L.map re).length (fl rc (L.map re)) :: blk B [v] 68 :: many (L.map recR) :: row 86 6 mv M.length (fl lnc M) :: rs)) (hV : Inv i L M) (hi : i < 60) (hA : 0 ≤ A ∧ A < 256) (hI : 0 ≤ I ∧ I < 256) (hT : T < 18446744073709551616) (hD : D < 18446744073709551616) (hK : 0 ≤ ka ∧ ka < 256) (hKn : ka % 6 ≠ 3 ∧ ka % 6 ≠ 4 ∧ ka % 6 ≠ 5) (j : Nat) (hj : j < M.length) (ha : atL M (A % 3) (1 + A / 3 % 3) M.length = j) (hMj : M[j].u = A % 3 ∧ M[j].d = 1 + A / 3 % 3) (hs : ¬ (M[j].i % 3 = I % 3)) :
    Calls Try.prog 23 #[.pointer (some ⟨B, 0, none⟩), mv, .agg #[.int .u8 ka, .int .u8 A, .int .u8 I, .float .f64 T, .float .f64 D], .int .i64 i] w (StepP w0 rs B i) := by
  obtain ⟨ao, c, rfl⟩ := own_slice (show w.ownsRow 0 _ 7 v (L.map re).length (fl rc (L.map re)) from h.head)
  obtain ⟨mo, mc, rfl⟩ := own_slice (show w.ownsRow 0 _ 6 mv M.length (fl lnc M) from (h.sel 4 [3]).head)
  have hlen := hV.len
  have hml : M.length ≤ 60 := by have := hV.mlen; omega
  have eK : ka.tmod 6 = ka % 6 := Int.tmod_eq_emod_of_nonneg hK.1
  have eK2 : IntKind.u8.wrap (ka % 6) = ka % 6 := by rw [IntKind.wrap_u8]; omega
  generalize hKq : ka % 6 = q at *
  have EKq := Lib.hid hKq
  clear hKq
  have Hwho := who_any A hA.1 hA.2
  obtain ⟨u, hu⟩ : ∃ u, u = A % 3 := ⟨_, rfl⟩
  obtain ⟨d, hd⟩ : ∃ d, d = 1 + A / 3 % 3 := ⟨_, rfl⟩
  rw [← hu, ← hd] at Hwho ha hMj
  clear hu hd hA
  go_enter Try.func23, Try.ntmps23
  go_wp2_with (refine wpList_box_new rfl 58 _ rfl (.agg #[.int .u8 ka, .int .u8 A, .int .u8 I, .float .f64 T, .float .f64 D]) rfl ?_; intro Z wZ oZ hZl hZ; have z1 := cell_in hZ 1)
  have sZ : Sep w0 wZ (row 36 7 (.slice ao (L.map re).length c) (L.map re).length (fl rc (L.map re)) :: blk B [.slice ao (L.map re).length c] 68 :: many (L.map recR) :: row 86 6 (.slice mo M.length mc) M.length (fl lnc M) :: blk Z [.int .u8 ka, .int .u8 A, .int .u8 I, .float .f64 T, .float .f64 D] 58 :: rs) := (h.add (b := blk Z [.int .u8 ka, .int .u8 A, .int .u8 I, .float .f64 T, .float .f64 D] 58) oZ hZ (fun k hk => by simp [blk] at hk; omega)).sel 5 [1, 2, 3, 4, 0]
  clear h z1 hZ hZl oZ
  refine (Hwho wZ).mono ?_
  rintro e w1 ⟨rfl, o1⟩
  have s1 := sZ.quiet o1
  have h1c : (#[.int .i64 u, .int .i64 d] : Array Value).all (·.oneCell') = true := by simp [Value.oneCell']
  clear sZ o1 Hwho
  go_wp2_with (first
    | (refine wpList_alloc_new rfl 26 rfl (.agg #[.int .i64 0, .int .i64 0]) (fun _ => by kernel_rfl) ?_; intro X wX oX hXl hX)
    | (refine wpList_store_blk rfl 26 _ _ rfl X [.int .i64 u, .int .i64 d] rfl rfl hX rfl (by kernel_rfl) h1c ?_; intro wY oY hY; have oXY := oX.new oY (fun i hi => by simp only [List.mem_singleton] at hi; omega); clear hX oX oY))
  have s2 : Sep w0 wY (row 36 7 (.slice ao (L.map re).length c) (L.map re).length (fl rc (L.map re)) :: blk B [.slice ao (L.map re).length c] 68 :: many (L.map recR) :: row 86 6 (.slice mo M.length mc) M.length (fl lnc M) :: blk Z [.int .u8 ka, .int .u8 A, .int .u8 I, .float .f64 T, .float .f64 D] 58 :: blk X [.int .i64 u, .int .i64 d] 26 :: rs) := (s1.add (b := blk X [.int .i64 u, .int .i64 d] 26) oXY hY (fun k hk => by simp [blk] at hk; omega)).sel 6 [1, 2, 3, 4, 5, 0]
  clear s1 oXY hY hXl h1c
  have hXr : wY.heap[X]? = some (.cells #[.int .i64 u, .int .i64 d] 26 (0, 0)) := (s2.sel 6 [5]).head
  have hrow0 : wY.ownsRow 0 86 6 (.slice mo M.length mc) M.length (fl lnc M) := (s2.sel 4 [3]).head
  have HM := fun (hp : 0 < M.length) => own_some hrow0 hp
  go_loopw [11, 12] (fun a b wr => ∃ k : Nat, a = .int .i64 (atL M u d k) ∧ b = .int .i64 k ∧ k ≤ M.length ∧ Only wY wr []) (fun _ b _ => M.length - (intOf b).toNat)
  case atStart => exact ⟨0, rfl, rfl, Nat.zero_le _, Only.refl _ _⟩
  case round =>
    obtain ⟨k, rfl, rfl, hk, oR0⟩ := hrel
    by_cases hkl : k < M.length
    · have d1 : decide ((k : Int) < M.length) = true := by simpa using hkl
      obtain ⟨mg, rfl, _⟩ := HM (by omega)
      have hrow := hrow0
      have Hst := Lib.hid (atL_step u d hkl)
      have oR := oR0.trans (Only.drew wr [])
      clear HM hrow0
      go_upto_region 6 with fail
      refine wp_region_held_drew (S := fun w' => Only wr.drew w' []) (by kernel_rfl) (Only.refl _ _) (fun hHeld => ?_)
      refine' wpAnyH_take (i := 0) (v := _) (op_at rfl) (by kernel_rfl) (by kernel_rfl) (by kernel_rfl) (fun _ _ _ h => h) (Or.inl ⟨by rfl, ?hy16⟩) (by assumption) ?rest16
      case hy16 =>
        intro w' hS
        go_simp
        try with_reducible rfl
      try simp only [Act.put, List.setIfInBounds_toArray, List.set_cons_zero, List.set_cons_succ]
      refine' wpAnyH_take (i := 1) (v := _) (op_at rfl) (by kernel_rfl) (by kernel_rfl) (by kernel_rfl) (fun _ _ _ h => h) (Or.inl ⟨by rfl, ?hy17⟩) (by assumption) ?rest17
      case hy17 =>
        intro w' hS
        go_simp
        try with_reducible rfl
      try simp only [Act.put, List.setIfInBounds_toArray, List.set_cons_zero, List.set_cons_succ]
      refine' wpAnyH_take (i := 2) (v := _) (op_at rfl) (by kernel_rfl) (by kernel_rfl) (by kernel_rfl) (fun _ _ _ h => h) (Or.inl ⟨by rfl, ?hy18⟩) (by assumption) ?rest18
      case hy18 =>
        intro w' hS
        go_simp
        try with_reducible rfl
      try simp only [Act.put, List.setIfInBounds_toArray, List.set_cons_zero, List.set_cons_succ]
      refine' wpAnyH_take (i := 3) (v := _) (op_at rfl) (by kernel_rfl) (by kernel_rfl) (by kernel_rfl) (fun _ _ _ h => h) (Or.inl ⟨by rfl, ?hy19⟩) (by assumption) ?rest19
      case hy19 =>
        intro w' hS
        go_simp
        try with_reducible rfl
      try simp only [Act.put, List.setIfInBounds_toArray, List.set_cons_zero, List.set_cons_succ]
      refine wpAnyH_take (i := 4) (op_at rfl) (by kernel_rfl) (by kernel_rfl) (by kernel_rfl) (fun _ _ _ h => h) (yieldsIf_load_mid (by rfl) _ _ rfl mg (k * 6) rfl ([.int .i64 M[k].u, .int .i64 M[k].d]) _ (fun w' hS => by have hh := rec_range lnc_len (own_only hrow (oR.trans hS) (fun _ _ => by simp)) hkl; exact fun j v hj => hh j v (by rcases j with _ | _ | j <;> simp_all [lnc])) Try.underlying26 (by rfl) (by rfl)) (by assumption) ?_
      try simp only [Act.put, List.setIfInBounds_toArray, List.set_cons_zero, List.set_cons_succ]
      refine wpAnyH_take (i := 5) (op_at rfl) (by kernel_rfl) (by kernel_rfl) (by kernel_rfl) (fun _ _ _ h => h) (yieldsIf_load_mid (by rfl) _ _ rfl X (0) rfl ([.int .i64 u, .int .i64 d]) _ (fun w' hS => block_range ((oR.trans hS).at hXr (by simp))) Try.underlying26 (by rfl) (by rfl)) (by assumption) ?_
      try simp only [Act.put, List.setIfInBounds_toArray, List.set_cons_zero, List.set_cons_succ]
      refine' wpAnyH_take (i := 6) (v := .bool (decide (M[k].u = u ∧ M[k].d = d))) (op_at rfl) (by kernel_rfl) (by kernel_rfl) (by kernel_rfl) (fun _ _ _ h => h) (Or.inl ⟨by rfl, ?hyE15⟩) (by assumption) ?restE15
      case hyE15 =>
        intro w' hS
        go_simp
        exact two_eq2 M[k].u M[k].d u d w'
      try simp only [Act.put, List.setIfInBounds_toArray, List.set_cons_zero, List.set_cons_succ]
      refine wpAnyH_done (by kernel_rfl) ?_ _
      by_cases hm : M[k].u = u ∧ M[k].d = d
      · have dm : decide (M[k].u = u ∧ M[k].d = d) = true := by simpa using hm
        have he : atL M u d (k + 1) = (k : Int) := by rw [Hst.out, if_pos hm]
        rw [dm]
        clear dm hm Hst
        go_wp2_with fail
        exact ⟨⟨k + 1, by rw [he], by simp, by omega, oR⟩, by simp [intOf]; omega⟩
      · have dm : decide (M[k].u = u ∧ M[k].d = d) = false := by simpa using hm
        have he : atL M u d (k + 1) = atL M u d k := by rw [Hst.out, if_neg hm]
        rw [dm]
        clear dm hm Hst
        go_wp2_with fail
        exact ⟨⟨k + 1, by rw [he], by simp, by omega, oR⟩, by simp [intOf]; omega⟩
    · obtain rfl : k = M.length := by omega
      have d1 : decide ((M.length : Int) < M.length) = false := by simp
      rw [ha]
      have s3 := s2.quiet oR0
      clear HM hXr hrow0 s2 oR0 hlen
      have z0 := cell_in (show wr.heap[Z]? = _ from (s3.sel 5 [4]).head) 0
      have z2 := cell_in (show wr.heap[Z]? = _ from (s3.sel 5 [4]).head) 2
      have z3 := cell_in (show wr.heap[Z]? = _ from (s3.sel 5 [4]).head) 3
      have z4 := cell_in (show wr.heap[Z]? = _ from (s3.sel 5 [4]).head) 4
      have x0 := cell_two0 (show wr.heap[X]? = _ from (s3.sel 6 [5]).head)
      have x1 := cell_two1 (show wr.heap[X]? = _ from (s3.sel 6 [5]).head)
      obtain ⟨hq3, hq4, hq5⟩ := hKn
      have d3 : decide (q = 3) = false := by simpa using hq3
      have d4 : decide (q = 4) = false := by simpa using hq4
      have d5 : decide (q = 5) = false := by simpa using hq5
      have hXk : wr.heap[X]? = some (.cells #[.int .i64 u, .int .i64 d] 26 (0, 0)) := (s3.sel 6 [5]).head
      have hZk : wr.heap[Z]? = some (.cells #[.int .u8 ka, .int .u8 A, .int .u8 I, .float .f64 T, .float .f64 D] 58 (0, 0)) := (s3.sel 5 [4]).head
      have hll : (L.map re).length ≤ 1000000 := by rw [List.length_map]; have := hV.len; omega
      have hrs := hV.asc.rise
      have sD := s3.quiet (Only.drew wr [])
      obtain ⟨k, hk, ek, ku, kd, hp, hf⟩ := hV.at hj hMj
      have hrx := hV.rx _ (List.getElem_mem hk)
      have HFP := Lib.hid (And.intro hf hp)
      have HXR : Hid ((L.map re)[k]'(by rw [List.length_map]; exact hk) = ⟨u, d, some ⟨L[k].A1, 0, none⟩, 1, 1, some ⟨L[k].A2, 0, none⟩, 1, 1, some ⟨L[k].Q, 0, none⟩, L[k].st, L[k].t⟩) := by
        show _ = _
        rw [List.getElem_map, ← ku, ← kd]
        rfl
      have HZ : Hid (¬ (L[k].x = I % 3)) := by
        have e : L[k].x = M[j].i % 3 := congrArg Ent.x ek
        show ¬ (L[k].x = I % 3)
        rw [e]
        exact hs
      have hmi := (hV.lx _ (List.getElem_mem hj)).1
      have t1 : M[j].i.tmod 3 = M[j].i % 3 := by rw [Int.tmod_eq_emod_of_nonneg hmi.1]
      have t2 : IntKind.u8.wrap (I % 3) = I % 3 := by rw [IntKind.wrap_u8]; omega
      have t3 : I.tmod 3 = I % 3 := Int.tmod_eq_emod_of_nonneg hI.1
      have t4 : IntKind.u8.wrap (M[j].i % 3) = M[j].i % 3 := by rw [IntKind.wrap_u8]; omega
      have t5 : decide (M[j].i % 3 = I % 3) = false := by simpa using hs
      have t6 : ¬ (M[j].i % 3 = I % 3) := hs
      have HV := Lib.hid hV
      have Ek := Lib.hid ek
      have Ku := Lib.hid ku
      have Kd := Lib.hid kd
      have Hs := Lib.hid hs
      obtain ⟨mg, rfl, _⟩ := own_some (show wr.ownsRow 0 86 6 (.slice mo M.length mc) M.length (fl lnc M) from (s3.sel 4 [3]).head) (by omega)
      clear hV ha s3 hD hT hi ek ku kd hp hf hMj hs
      go_upto_region 9 with fail
      clear z0 z2 z3 z4 x0 x1 hml
      refine wp_region_t (S := fun w' => Only wr.drew w' []) 5 (by kernel_rfl) (by kernel_rfl) (Only.refl _ _) (fun hZ hHeld => ?_)
      refine' wpAnyT_take (i := 0) (v := _) hZ (op_at' rfl) (by rfl) (by kernel_rfl) (by kernel_rfl) (by kernel_rfl) (by kernel_rfl) (fun _ _ _ h => h) (Or.inl ⟨by rfl, ?hy1⟩) (by assumption) ?rest1
      case hy1 =>
        intro w' hS
        go_simp
        try with_reducible rfl
      try simp only [Act.put, List.setIfInBounds_toArray, List.set_cons_zero, List.set_cons_succ]
      refine' wpAnyT_take (i := 1) (v := _) hZ (op_at' rfl) (by rfl) (by kernel_rfl) (by kernel_rfl) (by kernel_rfl) (by kernel_rfl) (fun _ _ _ h => h) (Or.inl ⟨by rfl, ?hy2⟩) (by assumption) ?rest2
      case hy2 =>
        intro w' hS
        have hx_ := ((Only.drew wr []).trans hS).at hXk (by simp)
        have x0 := cell_two0 hx_
        have x1 := cell_two1 hx_
        go_simp
        try with_reducible rfl
      try simp only [Act.put, List.setIfInBounds_toArray, List.set_cons_zero, List.set_cons_succ]
      refine' wpAnyT_take (i := 2) (v := _) hZ (op_at' rfl) (by rfl) (by kernel_rfl) (by kernel_rfl) (by kernel_rfl) (by kernel_rfl) (fun _ _ _ h => h) (Or.inl ⟨by rfl, ?hy3⟩) (by assumption) ?rest3
      case hy3 =>
        intro w' hS
        go_simp
        try with_reducible rfl
      try simp only [Act.put, List.setIfInBounds_toArray, List.set_cons_zero, List.set_cons_succ]
      refine' wpAnyT_take (i := 3) (v := _) hZ (op_at' rfl) (by rfl) (by kernel_rfl) (by kernel_rfl) (by kernel_rfl) (by kernel_rfl) (fun _ _ _ h => h) (Or.inl ⟨by rfl, ?hy4⟩) (by assumption) ?rest4
      case hy4 =>
        intro w' hS
        have hz_ := ((Only.drew wr []).trans hS).at hZk (by simp)
        have z2 := cell_in hz_ 2
        go_simp
        try with_reducible rfl
      try simp only [Act.put, List.setIfInBounds_toArray, List.set_cons_zero, List.set_cons_succ]
      refine wpAnyT_one (i := 4) (by kernel_rfl) (op_at' rfl) (fun K hK => ?_)
      go_simp
      refine (ident_any I hI.1 hI.2 _).mono fun e w4 hq => ?_
      obtain ⟨A1, A2, rfl, o4, l1, l2, hne, b1, b2⟩ := hq
      go_wp2_with fail
      refine hK.out _ _ o4 (fun hHeld => ?_)
      clear hK K
      try simp only [Act.put, List.setIfInBounds_toArray, List.set_cons_zero, List.set_cons_succ]
      refine wpAnyT_last (by kernel_rfl) (op_at' rfl) (by kernel_rfl) (fun K hK => ?_)
      have sN : Pw.Sep w0 w4 (two (cst A1 5 (0, 0) [.int .u8 (I % 3)]) (cst A2 5 (1, 2) [.int .u8 115]) :: row 36 7 (.slice ao (L.map re).length c) (L.map re).length (fl rc (L.map re)) :: blk B [.slice ao (L.map re).length c] 68 :: many (L.map recR) :: row 86 6 (.slice (some ⟨mg, 0, none⟩) M.length mc) M.length (fl lnc M) :: blk Z [.int .u8 ka, .int .u8 A, .int .u8 I, .float .f64 T, .float .f64 D] 58 :: blk X [.int .i64 u, .int .i64 d] 26 :: rs) := sD.add (b := two (cst A1 5 (0, 0) [.int .u8 (I % 3)]) (cst A2 5 (1, 2) [.int .u8 115])) o4 ⟨b1, b2, by simpa [cst] using hne⟩ (fun k hk => by rcases (show k = A1 ∨ k = A2 by simpa [two, cst] using hk) with e | e <;> omega)
      have sM : Pw.Sep w0 w4 (row 36 7 (.slice ao (L.map re).length c) (L.map re).length (fl rc (L.map re)) :: blk B [.slice ao (L.map re).length c] 68 :: cst A1 5 (0, 0) [.int .u8 (I % 3)] :: cst A2 5 (1, 2) [.int .u8 115] :: many (L.map recR) :: row 86 6 (.slice (some ⟨mg, 0, none⟩) M.length mc) M.length (fl lnc M) :: blk Z [.int .u8 ka, .int .u8 A, .int .u8 I, .float .f64 T, .float .f64 D] 58 :: blk X [.int .i64 u, .int .i64 d] 26 :: rs) := sN.split.sel 4 [2, 3, 0, 1]
      have hop := rec_open (show Pw.Sep w0 w4 (many (L.map recR) :: rs) from sM.sel 8 [4]) hk
      go_simp
      refine (put_other B (L.map re) _ u d L[k].A1 L[k].A2 A1 A2 (some ⟨L[k].Q, 0, none⟩) L[k].st L[k].t L[k].x (I % 3) w4 sM hll hrs HFP.out.1 k HFP.out.2 (by rw [List.length_map]; exact hk) HXR.out (cst_src (hop.sel 4 [3]).head) (cst_src (hop.sel 5 [4]).head) (cst_src (sM.sel 3 [2]).head) (cst_src (sM.sel 4 [3]).head) hrx.1 (by omega) (by simpa using HZ.out)).mono fun e w5 hq => ?_
      obtain ⟨rfl, X5, s5⟩ := hq
      go_simp
      go_wp2_with fail
      refine hK.out _ _ ?_
      clear hK K
      try simp only [Act.put, List.setIfInBounds_toArray, List.set_cons_zero, List.set_cons_succ]
      clear sN sM hop sD hHeld b1 b2 l1 l2 hne o4 hXk hZk hrs hll hZ HFP HXR
      have eL : (L.map re).set k ⟨u, d, some ⟨A1, 0, none⟩, 1, 1, some ⟨A2, 0, none⟩, 1, 1, some ⟨X5, 0, none⟩, false, 0⟩ = (L.set k (nwR u d A1 A2 (I % 3) X5)).map re := by
        rw [List.map_set]
        rfl
      rw [eL] at s5
      have s6a : Sep w0 w5 (cst A1 5 (0, 0) [.int .u8 (I % 3)] :: cst A2 5 (1, 2) [.int .u8 115] :: blk X5 [.slice none 0 0] 74 :: many (L.map recR) :: row 36 7 (.slice ao (L.map re).length c) (L.map re).length (fl rc ((L.set k (nwR u d A1 A2 (I % 3) X5)).map re)) :: blk B [.slice ao (L.map re).length c] 68 :: row 86 6 (.slice (some ⟨mg, 0, none⟩) M.length mc) M.length (fl lnc M) :: blk Z [.int .u8 ka, .int .u8 A, .int .u8 I, .float .f64 T, .float .f64 D] 58 :: blk X [.int .i64 u, .int .i64 d] 26 :: rs) := s5.sel 9 [3, 4, 2, 5, 0, 1, 6, 7, 8]
      have s6 : Sep w0 w5 (row 86 6 (.slice (some ⟨mg, 0, none⟩) M.length mc) M.length (fl lnc M) :: row 36 7 (.slice ao (L.map re).length c) (L.map re).length (fl rc ((L.set k (nwR u d A1 A2 (I % 3) X5)).map re)) :: blk B [.slice ao (L.map re).length c] 68 :: many ((L.set k (nwR u d A1 A2 (I % 3) X5)).map recR) :: blk Z [.int .u8 ka, .int .u8 A, .int .u8 I, .float .f64 T, .float .f64 D] 58 :: blk X [.int .i64 u, .int .i64 d] 26 :: rs) := (rec_other hk u d A1 A2 (I % 3) X5 s6a).sel 6 [3, 1, 2, 0, 4, 5]
      clear s5 eL s6a
      have hrow := (show w5.ownsRow 0 86 6 (.slice (some ⟨mg, 0, none⟩) M.length mc) M.length (fl lnc M) from s6.head)
      have hZ5 := (show w5.heap[Z]? = _ from (s6.sel 5 [4]).head)
      have hjM : decide (0 ≤ (j : Int)) = true := by simp
      have hjM2 : (0 ≤ (j : Int) ∧ (j : Int) < M.length) := by omega
      go_upto_region 12 with fail
      refine wp_region_held_drew (S := fun w' => Only w5.drew w' []) (by kernel_rfl) (Only.refl _ _) (fun hHeld => ?_)
      refine' wpAnyH_take (i := 0) (v := _) (op_at rfl) (by kernel_rfl) (by kernel_rfl) (by kernel_rfl) (fun _ _ _ h => h) (Or.inl ⟨by rfl, ?hy5⟩) (by assumption) ?rest5
      case hy5 =>
        intro w' hS
        go_simp
        try with_reducible rfl
      try simp only [Act.put, List.setIfInBounds_toArray, List.set_cons_zero, List.set_cons_succ]
      refine' wpAnyH_take (i := 1) (v := _) (op_at rfl) (by kernel_rfl) (by kernel_rfl) (by kernel_rfl) (fun _ _ _ h => h) (Or.inl ⟨by rfl, ?hy6⟩) (by assumption) ?rest6
      case hy6 =>
        intro w' hS
        go_simp
        try with_reducible rfl
      try simp only [Act.put, List.setIfInBounds_toArray, List.set_cons_zero, List.set_cons_succ]
      refine' wpAnyH_take (i := 2) (v := _) (op_at rfl) (by kernel_rfl) (by kernel_rfl) (by kernel_rfl) (fun _ _ _ h => h) (Or.inl ⟨by rfl, ?hy7⟩) (by assumption) ?rest7
      case hy7 =>
        intro w' hS
        go_simp
        try with_reducible rfl
      try simp only [Act.put, List.setIfInBounds_toArray, List.set_cons_zero, List.set_cons_succ]
      refine' wpAnyH_take (i := 3) (v := _) (op_at rfl) (by kernel_rfl) (by kernel_rfl) (by kernel_rfl) (fun _ _ _ h => h) (Or.inl ⟨by rfl, ?hy8⟩) (by assumption) ?rest8
      case hy8 =>
        intro w' hS
        go_simp
        try with_reducible rfl
      try simp only [Act.put, List.setIfInBounds_toArray, List.set_cons_zero, List.set_cons_succ]
      refine' wpAnyH_take (i := 4) (v := _) (op_at rfl) (by kernel_rfl) (by kernel_rfl) (by kernel_rfl) (fun _ _ _ h => h) (Or.inl ⟨by rfl, ?hy9⟩) (by assumption) ?rest9
      case hy9 =>
        intro w' hS
        have hr_ := own_only hrow ((Only.drew w5 []).trans hS) (fun _ _ => by simp)
        have e2 := rec_cell lnc_len hr_ hj 2 (v := .int .u8 M[j].i) rfl
        go_simp
        try with_reducible rfl
      try simp only [Act.put, List.setIfInBounds_toArray, List.set_cons_zero, List.set_cons_succ]
      refine' wpAnyH_take (i := 5) (v := _) (op_at rfl) (by kernel_rfl) (by kernel_rfl) (by kernel_rfl) (fun _ _ _ h => h) (Or.inl ⟨by rfl, ?hy10⟩) (by assumption) ?rest10
      case hy10 =>
        intro w' hS
        go_simp
        try with_reducible rfl
      try simp only [Act.put, List.setIfInBounds_toArray, List.set_cons_zero, List.set_cons_succ]
      refine' wpAnyH_take (i := 6) (v := _) (op_at rfl) (by kernel_rfl) (by kernel_rfl) (by kernel_rfl) (fun _ _ _ h => h) (Or.inl ⟨by rfl, ?hy11⟩) (by assumption) ?rest11
      case hy11 =>
        intro w' hS
        go_simp
        try with_reducible rfl
      try simp only [Act.put, List.setIfInBounds_toArray, List.set_cons_zero, List.set_cons_succ]
      refine' wpAnyH_take (i := 7) (v := _) (op_at rfl) (by kernel_rfl) (by kernel_rfl) (by kernel_rfl) (fun _ _ _ h => h) (Or.inl ⟨by rfl, ?hy12⟩) (by assumption) ?rest12
      case hy12 =>
        intro w' hS
        have hz_ := ((Only.drew w5 []).trans hS).at hZ5 (by simp)
        have z2 := cell_in hz_ 2
        go_simp
        try with_reducible rfl
      try simp only [Act.put, List.setIfInBounds_toArray, List.set_cons_zero, List.set_cons_succ]
      refine' wpAnyH_take (i := 8) (v := _) (op_at rfl) (by kernel_rfl) (by kernel_rfl) (by kernel_rfl) (fun _ _ _ h => h) (Or.inl ⟨by rfl, ?hy13⟩) (by assumption) ?rest13
      case hy13 =>
        intro w' hS
        go_simp
        try with_reducible rfl
      try simp only [Act.put, List.setIfInBounds_toArray, List.set_cons_zero, List.set_cons_succ]
      refine' wpAnyH_take (i := 9) (v := _) (op_at rfl) (by kernel_rfl) (by kernel_rfl) (by kernel_rfl) (fun _ _ _ h => h) (Or.inl ⟨by rfl, ?hy14⟩) (by assumption) ?rest14
      case hy14 =>
        intro w' hS
        go_simp
        try with_reducible rfl
      try simp only [Act.put, List.setIfInBounds_toArray, List.set_cons_zero, List.set_cons_succ]
      refine wpAnyH_done (by kernel_rfl) ?_ _
      have s7 := s6.quiet (Only.drew w5 [])
      clear s6 hrow hZ5 hHeld
      have z2 := cell_in (show w5.drew.heap[Z]? = _ from (s7.sel 5 [4]).head) 2
      have x0 := cell_two0 (show w5.drew.heap[X]? = _ from (s7.sel 6 [5]).head)
      have x1 := cell_two1 (show w5.drew.heap[X]? = _ from (s7.sel 6 [5]).head)
      have h1c : (lnc (nwL u d I)).toArray.all (·.oneCell') = true := all_oneCell_toArray (lnc_one _)
      try rw [t5]
      try simp only [Bool.not_false]
      go_upto_region 14 with (refine wpList_store_rec rfl 86 _ _ rfl mg (j * 6) 86 6 M.length mc (lnc (nwL u d I)) _ rfl rfl s7 (by rw [lnc_len]; omega) (by rw [lnc_len]; kernel_rfl) h1c ?_; intro w6 s8; rw [fl_set lnc_len hj] at s8)
      have hrow := (show World.ownsRow w6 0 86 6 (.slice (some ⟨mg, 0, none⟩) M.length mc) M.length (fl lnc (M.set j (nwL u d I))) from s8.head)
      have f3 := hrow.frozenAt (j * 6 + 3)
      have e3 := rec_cell lnc_len (l := M.set j (nwL u d I)) (by rw [List.length_set]; exact hrow) (m := j) (by rw [List.length_set]; exact hj) 3 (v := .bool false) (by simp [lnc, nwL])
      have s9 := s8.puts (j * 6 + 3) [.bool false]
      rw [fl_put lnc_len (l := M.set j (nwL u d I)) (by rw [List.length_set]; exact hj) (by omega : 3 < 6) (y := nwL u d I) (by simp [lnc, nwL]), List.set_set] at s9
      clear s7 s8 hrow z2 x0 x1
      go_wp2_with fail
      refine bodyPost_ret (v := .tuple #[(.slice (some ⟨mg, 0, none⟩) M.length mc), .bool true]) (by simp [results, Try.results23, go_sem]) rfl ?_
      refine ⟨.slice ao (L.map re).length c, L.set k (nwR u d A1 A2 (I % 3) X5), (.slice (some ⟨mg, 0, none⟩) M.length mc), M.set j (nwL u d I), rfl, ?_, ?_⟩
      · have s10 := s9.sel 6 [1, 2, 3, 0]
        simp only [List.length_map, List.length_set] at s10 ⊢
        exact s10
      · exact HV.out.turn hk hj Ek.out rfl Ku.out.symm Kd.out.symm ⟨by show 0 ≤ I % 3 ∧ I % 3 < 256; omega, by show 0 < 18446744073709551616; omega, by show 0 ≤ 4; omega, fun p hp => by simp [nwR] at hp⟩ ⟨hI, by show 0 < 18446744073709551616; omega⟩ (by simp [nwR])
end Go.Proofs.Ytdlbkdnpbcpjfaa
