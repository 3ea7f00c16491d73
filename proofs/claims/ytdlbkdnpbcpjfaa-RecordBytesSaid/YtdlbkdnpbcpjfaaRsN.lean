/- The law step: a device comes. Printed by gen_rs.py. -/
import Derived.Test.YtdlbkdnpbcpjfaaRs0
import Derived.Test.YtdlbkdnpbcpjfaaPk
set_option linter.unusedSimpArgs false
set_option linter.unusedVariables false
namespace Go.Proofs.Ytdlbkdnpbcpjfaa
open Go.RowKit Go.Pw Go.Pw.Fl
set_option linter.unusedVariables false

set_option maxRecDepth 100000 in
set_option maxHeartbeats 1600000 in
theorem step_new {w0 : World} {rs : List Res} (B : Nat) (L : List Rcd) (M : List Ln) (v mv : Value) (ka A I : Int) (T D i : Nat) (w : World) (h : Sep w0 w (row 36 7 v (L.map re).length (fl rc (L.map re)) :: blk B [v] 68 :: many (L.map recR) :: row 86 6 mv M.length (fl lnc M) :: rs)) (hV : Inv i L M) (hi : i < 60) (hA : 0 ≤ A ∧ A < 256) (hI : 0 ≤ I ∧ I < 256) (hT : T < 18446744073709551616) (hD : D < 18446744073709551616) (hK : 0 ≤ ka ∧ ka < 256) (hKn : ka % 6 ≠ 3 ∧ ka % 6 ≠ 4 ∧ ka % 6 ≠ 5) (ha : atL M (A % 3) (1 + A / 3 % 3) M.length = -1) :
    Calls Try.prog 23 #[.pointer (some ⟨B, 0, none⟩), mv, .agg #[.int .u8 ka, .int .u8 A, .int .u8 I, .float .f64 T, .float .f64 D], .int .i64 i] w (StepP w0 rs B i) := by
  obtain ⟨ao, c, rfl⟩ := own_slice (show w.ownsRow 0 _ 7 v (L.map re).length (fl rc (L.map re)) from h.head)
  obtain ⟨mo, mc, rfl⟩ := own_slice (show w.ownsRow 0 _ 6 mv M.length (fl lnc M) from (h.sel 4 [3]).head)
  have hlen := hV.len
  have hml : M.length ≤ 60 := by have := hV.mlen; omega
  have eK : ka.tmod 6 = ka % 6 := Int.tmod_eq_emod_of_nonneg hK.1
  have eK2 : IntKind.u8.wrap (ka % 6) = ka % 6 := by rw [IntKind.wrap_u8]; omega
  generalize hKq : ka % 6 = q at *
  have EKq := Lib.hid hKq
  clear hKq
  have Hwho := who_any A hA.1 hA.2
  obtain ⟨u, hu⟩ : ∃ u, u = A % 3 := ⟨_, rfl⟩
  obtain ⟨d, hd⟩ : ∃ d, d = 1 + A / 3 % 3 := ⟨_, rfl⟩
  have HUD : Hid ((0 ≤ u ∧ u < 65536) ∧ (0 ≤ d ∧ d < 65536)) := by
    show (0 ≤ u ∧ u < 65536) ∧ (0 ≤ d ∧ d < 65536)
    omega
  rw [← hu, ← hd] at Hwho ha
  clear hu hd hA
  go_enter Try.func23, Try.ntmps23
  go_wp2_with (refine wpList_box_new rfl 58 _ rfl (.agg #[.int .u8 ka, .int .u8 A, .int .u8 I, .float .f64 T, .float .f64 D]) rfl ?_; intro Z wZ oZ hZl hZ; have z1 := cell_in hZ 1)
  have sZ : Sep w0 wZ (row 36 7 (.slice ao (L.map re).length c) (L.map re).length (fl rc (L.map re)) :: blk B [.slice ao (L.map re).length c] 68 :: many (L.map recR) :: row 86 6 (.slice mo M.length mc) M.length (fl lnc M) :: blk Z [.int .u8 ka, .int .u8 A, .int .u8 I, .float .f64 T, .float .f64 D] 58 :: rs) := (h.add (b := blk Z [.int .u8 ka, .int .u8 A, .int .u8 I, .float .f64 T, .float .f64 D] 58) oZ hZ (fun k hk => by simp [blk] at hk; omega)).sel 5 [1, 2, 3, 4, 0]
  clear h z1 hZ hZl oZ
  refine (Hwho wZ).mono ?_
  rintro e w1 ⟨rfl, o1⟩
  have s1 := sZ.quiet o1
  have h1c : (#[.int .i64 u, .int .i64 d] : Array Value).all (·.oneCell') = true := by simp [Value.oneCell']
  clear sZ o1 Hwho
  go_wp2_with (first
    | (refine wpList_alloc_new rfl 26 rfl (.agg #[.int .i64 0, .int .i64 0]) (fun _ => by kernel_rfl) ?_; intro X wX oX hXl hX)
    | (refine wpList_store_blk rfl 26 _ _ rfl X [.int .i64 u, .int .i64 d] rfl rfl hX rfl (by kernel_rfl) h1c ?_; intro wY oY hY; have oXY := oX.new oY (fun i hi => by simp only [List.mem_singleton] at hi; omega); clear hX oX oY))
  have s2 : Sep w0 wY (row 36 7 (.slice ao (L.map re).length c) (L.map re).length (fl rc (L.map re)) :: blk B [.slice ao (L.map re).length c] 68 :: many (L.map recR) :: row 86 6 (.slice mo M.length mc) M.length (fl lnc M) :: blk Z [.int .u8 ka, .int .u8 A, .int .u8 I, .float .f64 T, .float .f64 D] 58 :: blk X [.int .i64 u, .int .i64 d] 26 :: rs) := (s1.add (b := blk X [.int .i64 u, .int .i64 d] 26) oXY hY (fun k hk => by simp [blk] at hk; omega)).sel 6 [1, 2, 3, 4, 5, 0]
  clear s1 oXY hY hXl h1c
  have hXr : wY.heap[X]? = some (.cells #[.int .i64 u, .int .i64 d] 26 (0, 0)) := (s2.sel 6 [5]).head
  have hrow0 : wY.ownsRow 0 86 6 (.slice mo M.length mc) M.length (fl lnc M) := (s2.sel 4 [3]).head
  have HM := fun (hp : 0 < M.length) => own_some hrow0 hp
  go_loopw [11, 12] (fun a b wr => ∃ k : Nat, a = .int .i64 (atL M u d k) ∧ b = .int .i64 k ∧ k ≤ M.length ∧ Only wY wr []) (fun _ b _ => M.length - (intOf b).toNat)
  case atStart => exact ⟨0, rfl, rfl, Nat.zero_le _, Only.refl _ _⟩
  case round =>
    obtain ⟨k, rfl, rfl, hk, oR0⟩ := hrel
    by_cases hkl : k < M.length
    · have d1 : decide ((k : Int) < M.length) = true := by simpa using hkl
      obtain ⟨mg, rfl, _⟩ := HM (by omega)
      have hrow := hrow0
      have Hst := Lib.hid (atL_step u d hkl)
      have oR := oR0.trans (Only.drew wr [])
      clear HM hrow0
      go_upto_region 6 with fail
      refine wp_region_held_drew (S := fun w' => Only wr.drew w' []) (by kernel_rfl) (Only.refl _ _) (fun hHeld => ?_)
      refine' wpAnyH_take (i := 0) (v := _) (op_at rfl) (by kernel_rfl) (by kernel_rfl) (by kernel_rfl) (fun _ _ _ h => h) (Or.inl ⟨by rfl, ?hy2⟩) (by assumption) ?rest2
      case hy2 =>
        intro w' hS
        go_simp
        try with_reducible rfl
      try simp only [Act.put, List.setIfInBounds_toArray, List.set_cons_zero, List.set_cons_succ]
      refine' wpAnyH_take (i := 1) (v := _) (op_at rfl) (by kernel_rfl) (by kernel_rfl) (by kernel_rfl) (fun _ _ _ h => h) (Or.inl ⟨by rfl, ?hy3⟩) (by assumption) ?rest3
      case hy3 =>
        intro w' hS
        go_simp
        try with_reducible rfl
      try simp only [Act.put, List.setIfInBounds_toArray, List.set_cons_zero, List.set_cons_succ]
      refine' wpAnyH_take (i := 2) (v := _) (op_at rfl) (by kernel_rfl) (by kernel_rfl) (by kernel_rfl) (fun _ _ _ h => h) (Or.inl ⟨by rfl, ?hy4⟩) (by assumption) ?rest4
      case hy4 =>
        intro w' hS
        go_simp
        try with_reducible rfl
      try simp only [Act.put, List.setIfInBounds_toArray, List.set_cons_zero, List.set_cons_succ]
      refine' wpAnyH_take (i := 3) (v := _) (op_at rfl) (by kernel_rfl) (by kernel_rfl) (by kernel_rfl) (fun _ _ _ h => h) (Or.inl ⟨by rfl, ?hy5⟩) (by assumption) ?rest5
      case hy5 =>
        intro w' hS
        go_simp
        try with_reducible rfl
      try simp only [Act.put, List.setIfInBounds_toArray, List.set_cons_zero, List.set_cons_succ]
      refine wpAnyH_take (i := 4) (op_at rfl) (by kernel_rfl) (by kernel_rfl) (by kernel_rfl) (fun _ _ _ h => h) (yieldsIf_load_mid (by rfl) _ _ rfl mg (k * 6) rfl ([.int .i64 M[k].u, .int .i64 M[k].d]) _ (fun w' hS => by have hh := rec_range lnc_len (own_only hrow (oR.trans hS) (fun _ _ => by simp)) hkl; exact fun j v hj => hh j v (by rcases j with _ | _ | j <;> simp_all [lnc])) Try.underlying26 (by rfl) (by rfl)) (by assumption) ?_
      try simp only [Act.put, List.setIfInBounds_toArray, List.set_cons_zero, List.set_cons_succ]
      refine wpAnyH_take (i := 5) (op_at rfl) (by kernel_rfl) (by kernel_rfl) (by kernel_rfl) (fun _ _ _ h => h) (yieldsIf_load_mid (by rfl) _ _ rfl X (0) rfl ([.int .i64 u, .int .i64 d]) _ (fun w' hS => block_range ((oR.trans hS).at hXr (by simp))) Try.underlying26 (by rfl) (by rfl)) (by assumption) ?_
      try simp only [Act.put, List.setIfInBounds_toArray, List.set_cons_zero, List.set_cons_succ]
      refine' wpAnyH_take (i := 6) (v := .bool (decide (M[k].u = u ∧ M[k].d = d))) (op_at rfl) (by kernel_rfl) (by kernel_rfl) (by kernel_rfl) (fun _ _ _ h => h) (Or.inl ⟨by rfl, ?hyE1⟩) (by assumption) ?restE1
      case hyE1 =>
        intro w' hS
        go_simp
        exact two_eq2 M[k].u M[k].d u d w'
      try simp only [Act.put, List.setIfInBounds_toArray, List.set_cons_zero, List.set_cons_succ]
      refine wpAnyH_done (by kernel_rfl) ?_ _
      by_cases hm : M[k].u = u ∧ M[k].d = d
      · have dm : decide (M[k].u = u ∧ M[k].d = d) = true := by simpa using hm
        have he : atL M u d (k + 1) = (k : Int) := by rw [Hst.out, if_pos hm]
        rw [dm]
        clear dm hm Hst
        go_wp2_with fail
        exact ⟨⟨k + 1, by rw [he], by simp, by omega, oR⟩, by simp [intOf]; omega⟩
      · have dm : decide (M[k].u = u ∧ M[k].d = d) = false := by simpa using hm
        have he : atL M u d (k + 1) = atL M u d k := by rw [Hst.out, if_neg hm]
        rw [dm]
        clear dm hm Hst
        go_wp2_with fail
        exact ⟨⟨k + 1, by rw [he], by simp, by omega, oR⟩, by simp [intOf]; omega⟩
    · obtain rfl : k = M.length := by omega
      have d1 : decide ((M.length : Int) < M.length) = false := by simp
      rw [ha]
      have s3 := s2.quiet oR0
      clear HM hXr hrow0 s2 oR0 hlen
      have z0 := cell_in (show wr.heap[Z]? = _ from (s3.sel 5 [4]).head) 0
      have z2 := cell_in (show wr.heap[Z]? = _ from (s3.sel 5 [4]).head) 2
      have z3 := cell_in (show wr.heap[Z]? = _ from (s3.sel 5 [4]).head) 3
      have z4 := cell_in (show wr.heap[Z]? = _ from (s3.sel 5 [4]).head) 4
      have x0 := cell_two0 (show wr.heap[X]? = _ from (s3.sel 6 [5]).head)
      have x1 := cell_two1 (show wr.heap[X]? = _ from (s3.sel 6 [5]).head)
      obtain ⟨hq3, hq4, hq5⟩ := hKn
      have d3 : decide (q = 3) = false := by simpa using hq3
      have d4 : decide (q = 4) = false := by simpa using hq4
      have d5 : decide (q = 5) = false := by simpa using hq5
      have hXk : wr.heap[X]? = some (.cells #[.int .i64 u, .int .i64 d] 26 (0, 0)) := (s3.sel 6 [5]).head
      have hZk : wr.heap[Z]? = some (.cells #[.int .u8 ka, .int .u8 A, .int .u8 I, .float .f64 T, .float .f64 D] 58 (0, 0)) := (s3.sel 5 [4]).head
      have hll : (L.map re).length ≤ 1000000 := by rw [List.length_map]; have := hV.len; omega
      have hrs := hV.asc.rise
      have sD := s3.quiet (Only.drew wr [])
      have hnf := not_found (hV.none ha)
      have hnn := hV.none ha
      have HV := Lib.hid hV
      have HN := Lib.hid hnn
      obtain ⟨i1, ji, jz0, jz1, jz2⟩ := info_parts line_info
      clear hV ha hnn s3 hD hT hi
      go_upto_region 9 with fail
      clear z0 z2 z3 z4 x0 x1
      refine wp_region_t (S := fun w' => Only wr.drew w' []) 5 (by kernel_rfl) (by kernel_rfl) (Only.refl _ _) (fun hZ hHeld => ?_)
      refine' wpAnyT_take (i := 0) (v := _) hZ (op_at' rfl) (by rfl) (by kernel_rfl) (by kernel_rfl) (by kernel_rfl) (by kernel_rfl) (fun _ _ _ h => h) (Or.inl ⟨by rfl, ?hy9⟩) (by assumption) ?rest9
      case hy9 =>
        intro w' hS
        go_simp
        try with_reducible rfl
      try simp only [Act.put, List.setIfInBounds_toArray, List.set_cons_zero, List.set_cons_succ]
      refine' wpAnyT_take (i := 1) (v := _) hZ (op_at' rfl) (by rfl) (by kernel_rfl) (by kernel_rfl) (by kernel_rfl) (by kernel_rfl) (fun _ _ _ h => h) (Or.inl ⟨by rfl, ?hy10⟩) (by assumption) ?rest10
      case hy10 =>
        intro w' hS
        have hx_ := ((Only.drew wr []).trans hS).at hXk (by simp)
        have x0 := cell_two0 hx_
        have x1 := cell_two1 hx_
        go_simp
        try with_reducible rfl
      try simp only [Act.put, List.setIfInBounds_toArray, List.set_cons_zero, List.set_cons_succ]
      refine' wpAnyT_take (i := 2) (v := _) hZ (op_at' rfl) (by rfl) (by kernel_rfl) (by kernel_rfl) (by kernel_rfl) (by kernel_rfl) (fun _ _ _ h => h) (Or.inl ⟨by rfl, ?hy11⟩) (by assumption) ?rest11
      case hy11 =>
        intro w' hS
        go_simp
        try with_reducible rfl
      try simp only [Act.put, List.setIfInBounds_toArray, List.set_cons_zero, List.set_cons_succ]
      refine' wpAnyT_take (i := 3) (v := _) hZ (op_at' rfl) (by rfl) (by kernel_rfl) (by kernel_rfl) (by kernel_rfl) (by kernel_rfl) (fun _ _ _ h => h) (Or.inl ⟨by rfl, ?hy12⟩) (by assumption) ?rest12
      case hy12 =>
        intro w' hS
        have hz_ := ((Only.drew wr []).trans hS).at hZk (by simp)
        have z2 := cell_in hz_ 2
        go_simp
        try with_reducible rfl
      try simp only [Act.put, List.setIfInBounds_toArray, List.set_cons_zero, List.set_cons_succ]
      refine wpAnyT_one (i := 4) (by kernel_rfl) (op_at' rfl) (fun K hK => ?_)
      go_simp
      refine (ident_any I hI.1 hI.2 _).mono fun e w4 hq => ?_
      obtain ⟨A1, A2, rfl, o4, l1, l2, hne, b1, b2⟩ := hq
      go_wp2_with fail
      refine hK.out _ _ o4 (fun hHeld => ?_)
      clear hK K
      try simp only [Act.put, List.setIfInBounds_toArray, List.set_cons_zero, List.set_cons_succ]
      refine wpAnyT_last (by kernel_rfl) (op_at' rfl) (by kernel_rfl) (fun K hK => ?_)
      have sN : Pw.Sep w0 w4 (two (cst A1 5 (0, 0) [.int .u8 (I % 3)]) (cst A2 5 (1, 2) [.int .u8 115]) :: row 36 7 (.slice ao (L.map re).length c) (L.map re).length (fl rc (L.map re)) :: blk B [.slice ao (L.map re).length c] 68 :: many (L.map recR) :: row 86 6 (.slice mo M.length mc) M.length (fl lnc M) :: blk Z [.int .u8 ka, .int .u8 A, .int .u8 I, .float .f64 T, .float .f64 D] 58 :: blk X [.int .i64 u, .int .i64 d] 26 :: rs) := sD.add (b := two (cst A1 5 (0, 0) [.int .u8 (I % 3)]) (cst A2 5 (1, 2) [.int .u8 115])) o4 ⟨b1, b2, by simpa [cst] using hne⟩ (fun k hk => by rcases (show k = A1 ∨ k = A2 by simpa [two, cst] using hk) with e | e <;> omega)
      have sM : Pw.Sep w0 w4 (row 36 7 (.slice ao (L.map re).length c) (L.map re).length (fl rc (L.map re)) :: blk B [.slice ao (L.map re).length c] 68 :: cst A1 5 (0, 0) [.int .u8 (I % 3)] :: cst A2 5 (1, 2) [.int .u8 115] :: many (L.map recR) :: row 86 6 (.slice mo M.length mc) M.length (fl lnc M) :: blk Z [.int .u8 ka, .int .u8 A, .int .u8 I, .float .f64 T, .float .f64 D] 58 :: blk X [.int .i64 u, .int .i64 d] 26 :: rs) := sN.split.sel 4 [2, 3, 0, 1]
      go_simp
      refine (put_new B (L.map re) _ u d (some ⟨A1, 0, none⟩) 1 1 (some ⟨A2, 0, none⟩) 1 1 w4 sM hll hrs hnf).mono fun e w5 hq => ?_
      obtain ⟨v5, X5, rfl, s5⟩ := hq
      go_simp
      go_wp2_with fail
      refine hK.out _ _ ?_
      clear hK K
      try simp only [Act.put, List.setIfInBounds_toArray, List.set_cons_zero, List.set_cons_succ]
      clear sN sD hHeld b1 b2 l1 l2 hne o4 hXk hZk hrs hll hZ
      obtain ⟨p, hp⟩ : ∃ p, p = placeL (L.map re) u d := ⟨_, rfl⟩
      rw [← hp] at s5
      have eL : (L.map re).take p ++ ⟨u, d, some ⟨A1, 0, none⟩, 1, 1, some ⟨A2, 0, none⟩, 1, 1, some ⟨X5, 0, none⟩, false, 0⟩ :: (L.map re).drop p = (L.take p ++ nwR u d A1 A2 (I % 3) X5 :: L.drop p).map re := by
        rw [List.map_append, List.map_cons, List.map_take, List.map_drop]
        rfl
      have eN : (L.map re).length + 1 = ((L.take p ++ nwR u d A1 A2 (I % 3) X5 :: L.drop p).map re).length := by
        rw [← eL, List.length_append, List.length_cons, List.length_take, List.length_drop]
        have : p ≤ (L.map re).length := by rw [hp]; exact place_le _ _ _
        omega
      rw [eL, eN] at s5
      have s6 : Sep w0 w5 (cst A1 5 (0, 0) [.int .u8 (I % 3)] :: cst A2 5 (1, 2) [.int .u8 115] :: blk X5 [.slice none 0 0] 74 :: many (L.map recR) :: row 36 7 v5 ((L.take p ++ nwR u d A1 A2 (I % 3) X5 :: L.drop p).map re).length (fl rc ((L.take p ++ nwR u d A1 A2 (I % 3) X5 :: L.drop p).map re)) :: blk B [v5] 68 :: row 86 6 (.slice mo M.length mc) M.length (fl lnc M) :: blk Z [.int .u8 ka, .int .u8 A, .int .u8 I, .float .f64 T, .float .f64 D] 58 :: blk X [.int .i64 u, .int .i64 d] 26 :: rs) := s5.sel 9 [3, 4, 2, 5, 0, 1, 6, 7, 8]
      have s7 := rec_new p u d A1 A2 (I % 3) X5 s6
      have z2 := cell_in (show w5.heap[Z]? = _ from (s7.sel 5 [4]).head) 2
      have x0 := cell_two0 (show w5.heap[X]? = _ from (s7.sel 6 [5]).head)
      have x1 := cell_two1 (show w5.heap[X]? = _ from (s7.sel 6 [5]).head)
      have s8 : Sep w0 w5 (row 86 6 (.slice mo M.length mc) M.length (fl lnc M) :: row 36 7 v5 ((L.take p ++ nwR u d A1 A2 (I % 3) X5 :: L.drop p).map re).length (fl rc ((L.take p ++ nwR u d A1 A2 (I % 3) X5 :: L.drop p).map re)) :: blk B [v5] 68 :: many ((L.take p ++ nwR u d A1 A2 (I % 3) X5 :: L.drop p).map recR) :: rs) := s7.sel 6 [3, 1, 2, 0]
      have Hp := Lib.hid hp
      clear s5 s6 s7 eL eN hp
      go_wp2_with (first
        | (refine wpList_buildSlice_one rfl 54 _ rfl 86 i1 _ (lnc (nwL u d I)) rfl Try.underlying54 ji jz0 (by rw [jz1, lnc_len]) (by rw [lnc_len]; rfl) (by rw [lnc_len]; decide) (by rw [lnc_len]; decide) ?_; intro Y w6 o6 hYl hY; have s9 := s8.quiet o6; clear s8 o6)
        | (at_builtin; refine wpList_append_sep rfl _ _ 54 rfl 86 i1 _ 6 40 Try.underlying54 ji jz0 jz1 jz2 rfl (by decide) (.slice mo M.length mc) M.length _ rfl s9 _ 1 (lnc (nwL u d I)) rfl (src_blk hY (by rw [lnc_len])) (lnc_one _) (by unfold maxLen; omega) (by omega) ?_; intro a7 c7 w7 o7 s10; rw [← fl_snoc] at s10))
      refine bodyPost_ret (v := .tuple #[.slice a7 (M.length + 1) c7, .bool true]) (by simp [results, Try.results23, go_sem]) rfl ?_
      refine ⟨v5, L.take p ++ nwR u d A1 A2 (I % 3) X5 :: L.drop p, .slice a7 (M.length + 1) c7, M ++ [nwL u d I], rfl, ?_, ?_⟩
      · rw [show (M ++ [nwL u d I]).length = M.length + 1 by simp]
        exact s10.sel 4 [1, 2, 3, 0]
      · rw [Hp.out]
        exact HV.out.ins (r := nwR u d A1 A2 (I % 3) X5) (y := nwL u d I) HN.out rfl ⟨by show 0 ≤ I % 3 ∧ I % 3 < 256; omega, by show 0 < 18446744073709551616; omega, rfl⟩ ⟨hI, by show 0 < 18446744073709551616; omega⟩ HUD.out
end Go.Proofs.Ytdlbkdnpbcpjfaa
