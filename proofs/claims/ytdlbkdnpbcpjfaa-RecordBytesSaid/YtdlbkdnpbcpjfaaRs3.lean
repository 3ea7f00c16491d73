/- The law step: Mark. Printed by gen_rs.py. -/
import Derived.Test.YtdlbkdnpbcpjfaaRs0
set_option linter.unusedSimpArgs false
set_option linter.unusedVariables false
namespace Go.Proofs.Ytdlbkdnpbcpjfaa
open Go.RowKit Go.Pw Go.Pw.Fl
set_option linter.unusedVariables false

set_option maxRecDepth 100000 in
set_option maxHeartbeats 1600000 in
theorem step_mark0 {w0 : World} {rs : List Res} (B : Nat) (L : List Rcd) (M : List Ln) (v mv : Value) (ka A I : Int) (T D i : Nat) (w : World) (h : Sep w0 w (row 36 7 v (L.map re).length (fl rc (L.map re)) :: blk B [v] 68 :: many (L.map recR) :: row 86 6 mv M.length (fl lnc M) :: rs)) (hV : Inv i L M) (hi : i < 60) (hA : 0 ≤ A ∧ A < 256) (hI : 0 ≤ I ∧ I < 256) (hT : T < 18446744073709551616) (hD : D < 18446744073709551616) (hK : 0 ≤ ka ∧ ka < 256) (hK3 : ka % 6 = 3) (ha : atL M (A % 3) (1 + A / 3 % 3) M.length = -1) :
    Calls Try.prog 23 #[.pointer (some ⟨B, 0, none⟩), mv, .agg #[.int .u8 ka, .int .u8 A, .int .u8 I, .float .f64 T, .float .f64 D], .int .i64 i] w (StepP w0 rs B i) := by
  obtain ⟨ao, c, rfl⟩ := own_slice (show w.ownsRow 0 _ 7 v (L.map re).length (fl rc (L.map re)) from h.head)
  obtain ⟨mo, mc, rfl⟩ := own_slice (show w.ownsRow 0 _ 6 mv M.length (fl lnc M) from (h.sel 4 [3]).head)
  have hlen := hV.len
  have hml : M.length ≤ 60 := by have := hV.mlen; omega
  have eK : ka.tmod 6 = ka % 6 := Int.tmod_eq_emod_of_nonneg hK.1
  have eK2 : IntKind.u8.wrap (ka % 6) = ka % 6 := by rw [IntKind.wrap_u8]; omega
  generalize hKq : ka % 6 = q at *
  have EKq := Lib.hid hKq
  clear hKq
  have Hwho := who_any A hA.1 hA.2
  obtain ⟨u, hu⟩ : ∃ u, u = A % 3 := ⟨_, rfl⟩
  obtain ⟨d, hd⟩ : ∃ d, d = 1 + A / 3 % 3 := ⟨_, rfl⟩
  rw [← hu, ← hd] at Hwho ha
  clear hu hd hA
  go_enter Try.func23, Try.ntmps23
  go_wp2_with (refine wpList_box_new rfl 58 _ rfl (.agg #[.int .u8 ka, .int .u8 A, .int .u8 I, .float .f64 T, .float .f64 D]) rfl ?_; intro Z wZ oZ hZl hZ; have z1 := cell_in hZ 1)
  have sZ : Sep w0 wZ (row 36 7 (.slice ao (L.map re).length c) (L.map re).length (fl rc (L.map re)) :: blk B [.slice ao (L.map re).length c] 68 :: many (L.map recR) :: row 86 6 (.slice mo M.length mc) M.length (fl lnc M) :: blk Z [.int .u8 ka, .int .u8 A, .int .u8 I, .float .f64 T, .float .f64 D] 58 :: rs) := (h.add (b := blk Z [.int .u8 ka, .int .u8 A, .int .u8 I, .float .f64 T, .float .f64 D] 58) oZ hZ (fun k hk => by simp [blk] at hk; omega)).sel 5 [1, 2, 3, 4, 0]
  clear h z1 hZ hZl oZ
  refine (Hwho wZ).mono ?_
  rintro e w1 ⟨rfl, o1⟩
  have s1 := sZ.quiet o1
  have h1c : (#[.int .i64 u, .int .i64 d] : Array Value).all (·.oneCell') = true := by simp [Value.oneCell']
  clear sZ o1 Hwho
  go_wp2_with (first
    | (refine wpList_alloc_new rfl 26 rfl (.agg #[.int .i64 0, .int .i64 0]) (fun _ => by kernel_rfl) ?_; intro X wX oX hXl hX)
    | (refine wpList_store_blk rfl 26 _ _ rfl X [.int .i64 u, .int .i64 d] rfl rfl hX rfl (by kernel_rfl) h1c ?_; intro wY oY hY; have oXY := oX.new oY (fun i hi => by simp only [List.mem_singleton] at hi; omega); clear hX oX oY))
  have s2 : Sep w0 wY (row 36 7 (.slice ao (L.map re).length c) (L.map re).length (fl rc (L.map re)) :: blk B [.slice ao (L.map re).length c] 68 :: many (L.map recR) :: row 86 6 (.slice mo M.length mc) M.length (fl lnc M) :: blk Z [.int .u8 ka, .int .u8 A, .int .u8 I, .float .f64 T, .float .f64 D] 58 :: blk X [.int .i64 u, .int .i64 d] 26 :: rs) := (s1.add (b := blk X [.int .i64 u, .int .i64 d] 26) oXY hY (fun k hk => by simp [blk] at hk; omega)).sel 6 [1, 2, 3, 4, 5, 0]
  clear s1 oXY hY hXl h1c
  have hXr : wY.heap[X]? = some (.cells #[.int .i64 u, .int .i64 d] 26 (0, 0)) := (s2.sel 6 [5]).head
  have hrow0 : wY.ownsRow 0 86 6 (.slice mo M.length mc) M.length (fl lnc M) := (s2.sel 4 [3]).head
  have HM := fun (hp : 0 < M.length) => own_some hrow0 hp
  go_loopw [11, 12] (fun a b wr => ∃ k : Nat, a = .int .i64 (atL M u d k) ∧ b = .int .i64 k ∧ k ≤ M.length ∧ Only wY wr []) (fun _ b _ => M.length - (intOf b).toNat)
  case atStart => exact ⟨0, rfl, rfl, Nat.zero_le _, Only.refl _ _⟩
  case round =>
    obtain ⟨k, rfl, rfl, hk, oR0⟩ := hrel
    by_cases hkl : k < M.length
    · have d1 : decide ((k : Int) < M.length) = true := by simpa using hkl
      obtain ⟨mg, rfl, _⟩ := HM (by omega)
      have hrow := hrow0
      have Hst := Lib.hid (atL_step u d hkl)
      have oR := oR0.trans (Only.drew wr [])
      clear HM hrow0
      go_upto_region 6 with fail
      refine wp_region_held_drew (S := fun w' => Only wr.drew w' []) (by kernel_rfl) (Only.refl _ _) (fun hHeld => ?_)
      refine' wpAnyH_take (i := 0) (v := _) (op_at rfl) (by kernel_rfl) (by kernel_rfl) (by kernel_rfl) (fun _ _ _ h => h) (Or.inl ⟨by rfl, ?hy2⟩) (by assumption) ?rest2
      case hy2 =>
        intro w' hS
        go_simp
        try with_reducible rfl
      try simp only [Act.put, List.setIfInBounds_toArray, List.set_cons_zero, List.set_cons_succ]
      refine' wpAnyH_take (i := 1) (v := _) (op_at rfl) (by kernel_rfl) (by kernel_rfl) (by kernel_rfl) (fun _ _ _ h => h) (Or.inl ⟨by rfl, ?hy3⟩) (by assumption) ?rest3
      case hy3 =>
        intro w' hS
        go_simp
        try with_reducible rfl
      try simp only [Act.put, List.setIfInBounds_toArray, List.set_cons_zero, List.set_cons_succ]
      refine' wpAnyH_take (i := 2) (v := _) (op_at rfl) (by kernel_rfl) (by kernel_rfl) (by kernel_rfl) (fun _ _ _ h => h) (Or.inl ⟨by rfl, ?hy4⟩) (by assumption) ?rest4
      case hy4 =>
        intro w' hS
        go_simp
        try with_reducible rfl
      try simp only [Act.put, List.setIfInBounds_toArray, List.set_cons_zero, List.set_cons_succ]
      refine' wpAnyH_take (i := 3) (v := _) (op_at rfl) (by kernel_rfl) (by kernel_rfl) (by kernel_rfl) (fun _ _ _ h => h) (Or.inl ⟨by rfl, ?hy5⟩) (by assumption) ?rest5
      case hy5 =>
        intro w' hS
        go_simp
        try with_reducible rfl
      try simp only [Act.put, List.setIfInBounds_toArray, List.set_cons_zero, List.set_cons_succ]
      refine wpAnyH_take (i := 4) (op_at rfl) (by kernel_rfl) (by kernel_rfl) (by kernel_rfl) (fun _ _ _ h => h) (yieldsIf_load_mid (by rfl) _ _ rfl mg (k * 6) rfl ([.int .i64 M[k].u, .int .i64 M[k].d]) _ (fun w' hS => by have hh := rec_range lnc_len (own_only hrow (oR.trans hS) (fun _ _ => by simp)) hkl; exact fun j v hj => hh j v (by rcases j with _ | _ | j <;> simp_all [lnc])) Try.underlying26 (by rfl) (by rfl)) (by assumption) ?_
      try simp only [Act.put, List.setIfInBounds_toArray, List.set_cons_zero, List.set_cons_succ]
      refine wpAnyH_take (i := 5) (op_at rfl) (by kernel_rfl) (by kernel_rfl) (by kernel_rfl) (fun _ _ _ h => h) (yieldsIf_load_mid (by rfl) _ _ rfl X (0) rfl ([.int .i64 u, .int .i64 d]) _ (fun w' hS => block_range ((oR.trans hS).at hXr (by simp))) Try.underlying26 (by rfl) (by rfl)) (by assumption) ?_
      try simp only [Act.put, List.setIfInBounds_toArray, List.set_cons_zero, List.set_cons_succ]
      refine' wpAnyH_take (i := 6) (v := .bool (decide (M[k].u = u ∧ M[k].d = d))) (op_at rfl) (by kernel_rfl) (by kernel_rfl) (by kernel_rfl) (fun _ _ _ h => h) (Or.inl ⟨by rfl, ?hyE1⟩) (by assumption) ?restE1
      case hyE1 =>
        intro w' hS
        go_simp
        exact two_eq2 M[k].u M[k].d u d w'
      try simp only [Act.put, List.setIfInBounds_toArray, List.set_cons_zero, List.set_cons_succ]
      refine wpAnyH_done (by kernel_rfl) ?_ _
      by_cases hm : M[k].u = u ∧ M[k].d = d
      · have dm : decide (M[k].u = u ∧ M[k].d = d) = true := by simpa using hm
        have he : atL M u d (k + 1) = (k : Int) := by rw [Hst.out, if_pos hm]
        rw [dm]
        clear dm hm Hst
        go_wp2_with fail
        exact ⟨⟨k + 1, by rw [he], by simp, by omega, oR⟩, by simp [intOf]; omega⟩
      · have dm : decide (M[k].u = u ∧ M[k].d = d) = false := by simpa using hm
        have he : atL M u d (k + 1) = atL M u d k := by rw [Hst.out, if_neg hm]
        rw [dm]
        clear dm hm Hst
        go_wp2_with fail
        exact ⟨⟨k + 1, by rw [he], by simp, by omega, oR⟩, by simp [intOf]; omega⟩
    · obtain rfl : k = M.length := by omega
      have d1 : decide ((M.length : Int) < M.length) = false := by simp
      rw [ha]
      have s3 := s2.quiet oR0
      clear HM hXr hrow0 s2 oR0 hlen
      have z0 := cell_in (show wr.heap[Z]? = _ from (s3.sel 5 [4]).head) 0
      have z2 := cell_in (show wr.heap[Z]? = _ from (s3.sel 5 [4]).head) 2
      have z3 := cell_in (show wr.heap[Z]? = _ from (s3.sel 5 [4]).head) 3
      have z4 := cell_in (show wr.heap[Z]? = _ from (s3.sel 5 [4]).head) 4
      have x0 := cell_two0 (show wr.heap[X]? = _ from (s3.sel 6 [5]).head)
      have x1 := cell_two1 (show wr.heap[X]? = _ from (s3.sel 6 [5]).head)
      subst hK3
      have hnf := not_found (hV.none ha)
      have hmk := mark_any B (L.map re) _ u d T wr (s3.sel 2 [0, 1]) (by rw [List.length_map]; have := hV.len; omega) hV.asc.rise
      rw [hnf, show markL (L.map re) u d T = L.map re by unfold markL; rw [hnf]; rfl] at hmk
      have HV := Lib.hid hV
      clear hV hnf ha hml
      go_wp2_with fail
      refine hmk.mono ?_
      rintro e w4 ⟨rfl, s4⟩
      clear hmk s3 z0 z2 z3 z4 x0 x1
      go_wp2_with fail
      refine bodyPost_ret (v := .tuple #[.slice mo M.length mc, .bool true]) (by simp [results, Try.results23, go_sem]) rfl ?_
      exact ⟨_, L, _, M, rfl, s4.sel 6 [0, 1, 2, 3], HV.out.next⟩

set_option maxRecDepth 100000 in
set_option maxHeartbeats 1600000 in
theorem step_mark1 {w0 : World} {rs : List Res} (B : Nat) (L : List Rcd) (M : List Ln) (v mv : Value) (ka A I : Int) (T D i : Nat) (w : World) (h : Sep w0 w (row 36 7 v (L.map re).length (fl rc (L.map re)) :: blk B [v] 68 :: many (L.map recR) :: row 86 6 mv M.length (fl lnc M) :: rs)) (hV : Inv i L M) (hi : i < 60) (hA : 0 ≤ A ∧ A < 256) (hI : 0 ≤ I ∧ I < 256) (hT : T < 18446744073709551616) (hD : D < 18446744073709551616) (hK : 0 ≤ ka ∧ ka < 256) (hK3 : ka % 6 = 3) (j : Nat) (hj : j < M.length) (ha : atL M (A % 3) (1 + A / 3 % 3) M.length = j) (hMj : M[j].u = A % 3 ∧ M[j].d = 1 + A / 3 % 3) (hs : M[j].st = true) :
    Calls Try.prog 23 #[.pointer (some ⟨B, 0, none⟩), mv, .agg #[.int .u8 ka, .int .u8 A, .int .u8 I, .float .f64 T, .float .f64 D], .int .i64 i] w (StepP w0 rs B i) := by
  obtain ⟨ao, c, rfl⟩ := own_slice (show w.ownsRow 0 _ 7 v (L.map re).length (fl rc (L.map re)) from h.head)
  obtain ⟨mo, mc, rfl⟩ := own_slice (show w.ownsRow 0 _ 6 mv M.length (fl lnc M) from (h.sel 4 [3]).head)
  have hlen := hV.len
  have hml : M.length ≤ 60 := by have := hV.mlen; omega
  have eK : ka.tmod 6 = ka % 6 := Int.tmod_eq_emod_of_nonneg hK.1
  have eK2 : IntKind.u8.wrap (ka % 6) = ka % 6 := by rw [IntKind.wrap_u8]; omega
  generalize hKq : ka % 6 = q at *
  have EKq := Lib.hid hKq
  clear hKq
  have Hwho := who_any A hA.1 hA.2
  obtain ⟨u, hu⟩ : ∃ u, u = A % 3 := ⟨_, rfl⟩
  obtain ⟨d, hd⟩ : ∃ d, d = 1 + A / 3 % 3 := ⟨_, rfl⟩
  rw [← hu, ← hd] at Hwho ha hMj
  clear hu hd hA
  go_enter Try.func23, Try.ntmps23
  go_wp2_with (refine wpList_box_new rfl 58 _ rfl (.agg #[.int .u8 ka, .int .u8 A, .int .u8 I, .float .f64 T, .float .f64 D]) rfl ?_; intro Z wZ oZ hZl hZ; have z1 := cell_in hZ 1)
  have sZ : Sep w0 wZ (row 36 7 (.slice ao (L.map re).length c) (L.map re).length (fl rc (L.map re)) :: blk B [.slice ao (L.map re).length c] 68 :: many (L.map recR) :: row 86 6 (.slice mo M.length mc) M.length (fl lnc M) :: blk Z [.int .u8 ka, .int .u8 A, .int .u8 I, .float .f64 T, .float .f64 D] 58 :: rs) := (h.add (b := blk Z [.int .u8 ka, .int .u8 A, .int .u8 I, .float .f64 T, .float .f64 D] 58) oZ hZ (fun k hk => by simp [blk] at hk; omega)).sel 5 [1, 2, 3, 4, 0]
  clear h z1 hZ hZl oZ
  refine (Hwho wZ).mono ?_
  rintro e w1 ⟨rfl, o1⟩
  have s1 := sZ.quiet o1
  have h1c : (#[.int .i64 u, .int .i64 d] : Array Value).all (·.oneCell') = true := by simp [Value.oneCell']
  clear sZ o1 Hwho
  go_wp2_with (first
    | (refine wpList_alloc_new rfl 26 rfl (.agg #[.int .i64 0, .int .i64 0]) (fun _ => by kernel_rfl) ?_; intro X wX oX hXl hX)
    | (refine wpList_store_blk rfl 26 _ _ rfl X [.int .i64 u, .int .i64 d] rfl rfl hX rfl (by kernel_rfl) h1c ?_; intro wY oY hY; have oXY := oX.new oY (fun i hi => by simp only [List.mem_singleton] at hi; omega); clear hX oX oY))
  have s2 : Sep w0 wY (row 36 7 (.slice ao (L.map re).length c) (L.map re).length (fl rc (L.map re)) :: blk B [.slice ao (L.map re).length c] 68 :: many (L.map recR) :: row 86 6 (.slice mo M.length mc) M.length (fl lnc M) :: blk Z [.int .u8 ka, .int .u8 A, .int .u8 I, .float .f64 T, .float .f64 D] 58 :: blk X [.int .i64 u, .int .i64 d] 26 :: rs) := (s1.add (b := blk X [.int .i64 u, .int .i64 d] 26) oXY hY (fun k hk => by simp [blk] at hk; omega)).sel 6 [1, 2, 3, 4, 5, 0]
  clear s1 oXY hY hXl h1c
  have hXr : wY.heap[X]? = some (.cells #[.int .i64 u, .int .i64 d] 26 (0, 0)) := (s2.sel 6 [5]).head
  have hrow0 : wY.ownsRow 0 86 6 (.slice mo M.length mc) M.length (fl lnc M) := (s2.sel 4 [3]).head
  have HM := fun (hp : 0 < M.length) => own_some hrow0 hp
  go_loopw [11, 12] (fun a b wr => ∃ k : Nat, a = .int .i64 (atL M u d k) ∧ b = .int .i64 k ∧ k ≤ M.length ∧ Only wY wr []) (fun _ b _ => M.length - (intOf b).toNat)
  case atStart => exact ⟨0, rfl, rfl, Nat.zero_le _, Only.refl _ _⟩
  case round =>
    obtain ⟨k, rfl, rfl, hk, oR0⟩ := hrel
    by_cases hkl : k < M.length
    · have d1 : decide ((k : Int) < M.length) = true := by simpa using hkl
      obtain ⟨mg, rfl, _⟩ := HM (by omega)
      have hrow := hrow0
      have Hst := Lib.hid (atL_step u d hkl)
      have oR := oR0.trans (Only.drew wr [])
      clear HM hrow0
      go_upto_region 6 with fail
      refine wp_region_held_drew (S := fun w' => Only wr.drew w' []) (by kernel_rfl) (Only.refl _ _) (fun hHeld => ?_)
      refine' wpAnyH_take (i := 0) (v := _) (op_at rfl) (by kernel_rfl) (by kernel_rfl) (by kernel_rfl) (fun _ _ _ h => h) (Or.inl ⟨by rfl, ?hy10⟩) (by assumption) ?rest10
      case hy10 =>
        intro w' hS
        go_simp
        try with_reducible rfl
      try simp only [Act.put, List.setIfInBounds_toArray, List.set_cons_zero, List.set_cons_succ]
      refine' wpAnyH_take (i := 1) (v := _) (op_at rfl) (by kernel_rfl) (by kernel_rfl) (by kernel_rfl) (fun _ _ _ h => h) (Or.inl ⟨by rfl, ?hy11⟩) (by assumption) ?rest11
      case hy11 =>
        intro w' hS
        go_simp
        try with_reducible rfl
      try simp only [Act.put, List.setIfInBounds_toArray, List.set_cons_zero, List.set_cons_succ]
      refine' wpAnyH_take (i := 2) (v := _) (op_at rfl) (by kernel_rfl) (by kernel_rfl) (by kernel_rfl) (fun _ _ _ h => h) (Or.inl ⟨by rfl, ?hy12⟩) (by assumption) ?rest12
      case hy12 =>
        intro w' hS
        go_simp
        try with_reducible rfl
      try simp only [Act.put, List.setIfInBounds_toArray, List.set_cons_zero, List.set_cons_succ]
      refine' wpAnyH_take (i := 3) (v := _) (op_at rfl) (by kernel_rfl) (by kernel_rfl) (by kernel_rfl) (fun _ _ _ h => h) (Or.inl ⟨by rfl, ?hy13⟩) (by assumption) ?rest13
      case hy13 =>
        intro w' hS
        go_simp
        try with_reducible rfl
      try simp only [Act.put, List.setIfInBounds_toArray, List.set_cons_zero, List.set_cons_succ]
      refine wpAnyH_take (i := 4) (op_at rfl) (by kernel_rfl) (by kernel_rfl) (by kernel_rfl) (fun _ _ _ h => h) (yieldsIf_load_mid (by rfl) _ _ rfl mg (k * 6) rfl ([.int .i64 M[k].u, .int .i64 M[k].d]) _ (fun w' hS => by have hh := rec_range lnc_len (own_only hrow (oR.trans hS) (fun _ _ => by simp)) hkl; exact fun j v hj => hh j v (by rcases j with _ | _ | j <;> simp_all [lnc])) Try.underlying26 (by rfl) (by rfl)) (by assumption) ?_
      try simp only [Act.put, List.setIfInBounds_toArray, List.set_cons_zero, List.set_cons_succ]
      refine wpAnyH_take (i := 5) (op_at rfl) (by kernel_rfl) (by kernel_rfl) (by kernel_rfl) (fun _ _ _ h => h) (yieldsIf_load_mid (by rfl) _ _ rfl X (0) rfl ([.int .i64 u, .int .i64 d]) _ (fun w' hS => block_range ((oR.trans hS).at hXr (by simp))) Try.underlying26 (by rfl) (by rfl)) (by assumption) ?_
      try simp only [Act.put, List.setIfInBounds_toArray, List.set_cons_zero, List.set_cons_succ]
      refine' wpAnyH_take (i := 6) (v := .bool (decide (M[k].u = u ∧ M[k].d = d))) (op_at rfl) (by kernel_rfl) (by kernel_rfl) (by kernel_rfl) (fun _ _ _ h => h) (Or.inl ⟨by rfl, ?hyE9⟩) (by assumption) ?restE9
      case hyE9 =>
        intro w' hS
        go_simp
        exact two_eq2 M[k].u M[k].d u d w'
      try simp only [Act.put, List.setIfInBounds_toArray, List.set_cons_zero, List.set_cons_succ]
      refine wpAnyH_done (by kernel_rfl) ?_ _
      by_cases hm : M[k].u = u ∧ M[k].d = d
      · have dm : decide (M[k].u = u ∧ M[k].d = d) = true := by simpa using hm
        have he : atL M u d (k + 1) = (k : Int) := by rw [Hst.out, if_pos hm]
        rw [dm]
        clear dm hm Hst
        go_wp2_with fail
        exact ⟨⟨k + 1, by rw [he], by simp, by omega, oR⟩, by simp [intOf]; omega⟩
      · have dm : decide (M[k].u = u ∧ M[k].d = d) = false := by simpa using hm
        have he : atL M u d (k + 1) = atL M u d k := by rw [Hst.out, if_neg hm]
        rw [dm]
        clear dm hm Hst
        go_wp2_with fail
        exact ⟨⟨k + 1, by rw [he], by simp, by omega, oR⟩, by simp [intOf]; omega⟩
    · obtain rfl : k = M.length := by omega
      have d1 : decide ((M.length : Int) < M.length) = false := by simp
      rw [ha]
      have s3 := s2.quiet oR0
      clear HM hXr hrow0 s2 oR0 hlen
      have z0 := cell_in (show wr.heap[Z]? = _ from (s3.sel 5 [4]).head) 0
      have z2 := cell_in (show wr.heap[Z]? = _ from (s3.sel 5 [4]).head) 2
      have z3 := cell_in (show wr.heap[Z]? = _ from (s3.sel 5 [4]).head) 3
      have z4 := cell_in (show wr.heap[Z]? = _ from (s3.sel 5 [4]).head) 4
      have x0 := cell_two0 (show wr.heap[X]? = _ from (s3.sel 6 [5]).head)
      have x1 := cell_two1 (show wr.heap[X]? = _ from (s3.sel 6 [5]).head)
      subst hK3
      obtain ⟨k, hk, ek, ku, kd, hp, hf⟩ := hV.at hj hMj
      have hst : L[k].st = M[j].st := congrArg Ent.st ek
      have hmk := mark_any B (L.map re) _ u d T wr (s3.sel 2 [0, 1]) (by rw [List.length_map]; have := hV.len; omega) hV.asc.rise
      rw [hf, mark_on hk hp hf (hst.trans hs)] at hmk
      have HV := Lib.hid hV
      have Ek := Lib.hid ek
      have Ku := Lib.hid ku
      have Kd := Lib.hid kd
      clear hV ha hml ek ku kd hp hf hMj
      obtain ⟨mg, rfl, _⟩ := own_some (show wr.ownsRow 0 86 6 (.slice mo M.length mc) M.length (fl lnc M) from (s3.sel 4 [3]).head) (by omega)
      go_wp2_with fail
      refine hmk.mono ?_
      rintro e w4 ⟨rfl, s4⟩
      clear hmk s3 z0 z2 z3 z4 x0 x1
      have e3 := rec_cell lnc_len (show w4.ownsRow 0 86 6 (.slice (some ⟨mg, 0, none⟩) M.length mc) M.length (fl lnc M) from (s4.sel 4 [3]).head) hj 3 (v := .bool M[j].st) rfl
      have hjM : decide (0 ≤ (j : Int)) = true := by simp
      have hjM2 : (0 ≤ (j : Int) ∧ (j : Int) < M.length) := by omega
      rw [hs] at e3
      go_wp2_with fail
      refine bodyPost_ret (v := .tuple #[.slice (some ⟨mg, 0, none⟩) M.length mc, .bool true]) (by simp [results, Try.results23, go_sem]) rfl ?_
      exact ⟨_, L, _, M, rfl, s4.sel 6 [0, 1, 2, 3], HV.out.next⟩

set_option maxRecDepth 100000 in
set_option maxHeartbeats 1600000 in
theorem step_mark2 {w0 : World} {rs : List Res} (B : Nat) (L : List Rcd) (M : List Ln) (v mv : Value) (ka A I : Int) (T D i : Nat) (w : World) (h : Sep w0 w (row 36 7 v (L.map re).length (fl rc (L.map re)) :: blk B [v] 68 :: many (L.map recR) :: row 86 6 mv M.length (fl lnc M) :: rs)) (hV : Inv i L M) (hi : i < 60) (hA : 0 ≤ A ∧ A < 256) (hI : 0 ≤ I ∧ I < 256) (hT : T < 18446744073709551616) (hD : D < 18446744073709551616) (hK : 0 ≤ ka ∧ ka < 256) (hK3 : ka % 6 = 3) (j : Nat) (hj : j < M.length) (ha : atL M (A % 3) (1 + A / 3 % 3) M.length = j) (hMj : M[j].u = A % 3 ∧ M[j].d = 1 + A / 3 % 3) (hs : M[j].st = false) :
    Calls Try.prog 23 #[.pointer (some ⟨B, 0, none⟩), mv, .agg #[.int .u8 ka, .int .u8 A, .int .u8 I, .float .f64 T, .float .f64 D], .int .i64 i] w (StepP w0 rs B i) := by
  obtain ⟨ao, c, rfl⟩ := own_slice (show w.ownsRow 0 _ 7 v (L.map re).length (fl rc (L.map re)) from h.head)
  obtain ⟨mo, mc, rfl⟩ := own_slice (show w.ownsRow 0 _ 6 mv M.length (fl lnc M) from (h.sel 4 [3]).head)
  have hlen := hV.len
  have hml : M.length ≤ 60 := by have := hV.mlen; omega
  have eK : ka.tmod 6 = ka % 6 := Int.tmod_eq_emod_of_nonneg hK.1
  have eK2 : IntKind.u8.wrap (ka % 6) = ka % 6 := by rw [IntKind.wrap_u8]; omega
  generalize hKq : ka % 6 = q at *
  have EKq := Lib.hid hKq
  clear hKq
  have Hwho := who_any A hA.1 hA.2
  obtain ⟨u, hu⟩ : ∃ u, u = A % 3 := ⟨_, rfl⟩
  obtain ⟨d, hd⟩ : ∃ d, d = 1 + A / 3 % 3 := ⟨_, rfl⟩
  rw [← hu, ← hd] at Hwho ha hMj
  clear hu hd hA
  go_enter Try.func23, Try.ntmps23
  go_wp2_with (refine wpList_box_new rfl 58 _ rfl (.agg #[.int .u8 ka, .int .u8 A, .int .u8 I, .float .f64 T, .float .f64 D]) rfl ?_; intro Z wZ oZ hZl hZ; have z1 := cell_in hZ 1)
  have sZ : Sep w0 wZ (row 36 7 (.slice ao (L.map re).length c) (L.map re).length (fl rc (L.map re)) :: blk B [.slice ao (L.map re).length c] 68 :: many (L.map recR) :: row 86 6 (.slice mo M.length mc) M.length (fl lnc M) :: blk Z [.int .u8 ka, .int .u8 A, .int .u8 I, .float .f64 T, .float .f64 D] 58 :: rs) := (h.add (b := blk Z [.int .u8 ka, .int .u8 A, .int .u8 I, .float .f64 T, .float .f64 D] 58) oZ hZ (fun k hk => by simp [blk] at hk; omega)).sel 5 [1, 2, 3, 4, 0]
  clear h z1 hZ hZl oZ
  refine (Hwho wZ).mono ?_
  rintro e w1 ⟨rfl, o1⟩
  have s1 := sZ.quiet o1
  have h1c : (#[.int .i64 u, .int .i64 d] : Array Value).all (·.oneCell') = true := by simp [Value.oneCell']
  clear sZ o1 Hwho
  go_wp2_with (first
    | (refine wpList_alloc_new rfl 26 rfl (.agg #[.int .i64 0, .int .i64 0]) (fun _ => by kernel_rfl) ?_; intro X wX oX hXl hX)
    | (refine wpList_store_blk rfl 26 _ _ rfl X [.int .i64 u, .int .i64 d] rfl rfl hX rfl (by kernel_rfl) h1c ?_; intro wY oY hY; have oXY := oX.new oY (fun i hi => by simp only [List.mem_singleton] at hi; omega); clear hX oX oY))
  have s2 : Sep w0 wY (row 36 7 (.slice ao (L.map re).length c) (L.map re).length (fl rc (L.map re)) :: blk B [.slice ao (L.map re).length c] 68 :: many (L.map recR) :: row 86 6 (.slice mo M.length mc) M.length (fl lnc M) :: blk Z [.int .u8 ka, .int .u8 A, .int .u8 I, .float .f64 T, .float .f64 D] 58 :: blk X [.int .i64 u, .int .i64 d] 26 :: rs) := (s1.add (b := blk X [.int .i64 u, .int .i64 d] 26) oXY hY (fun k hk => by simp [blk] at hk; omega)).sel 6 [1, 2, 3, 4, 5, 0]
  clear s1 oXY hY hXl h1c
  have hXr : wY.heap[X]? = some (.cells #[.int .i64 u, .int .i64 d] 26 (0, 0)) := (s2.sel 6 [5]).head
  have hrow0 : wY.ownsRow 0 86 6 (.slice mo M.length mc) M.length (fl lnc M) := (s2.sel 4 [3]).head
  have HM := fun (hp : 0 < M.length) => own_some hrow0 hp
  go_loopw [11, 12] (fun a b wr => ∃ k : Nat, a = .int .i64 (atL M u d k) ∧ b = .int .i64 k ∧ k ≤ M.length ∧ Only wY wr []) (fun _ b _ => M.length - (intOf b).toNat)
  case atStart => exact ⟨0, rfl, rfl, Nat.zero_le _, Only.refl _ _⟩
  case round =>
    obtain ⟨k, rfl, rfl, hk, oR0⟩ := hrel
    by_cases hkl : k < M.length
    · have d1 : decide ((k : Int) < M.length) = true := by simpa using hkl
      obtain ⟨mg, rfl, _⟩ := HM (by omega)
      have hrow := hrow0
      have Hst := Lib.hid (atL_step u d hkl)
      have oR := oR0.trans (Only.drew wr [])
      clear HM hrow0
      go_upto_region 6 with fail
      refine wp_region_held_drew (S := fun w' => Only wr.drew w' []) (by kernel_rfl) (Only.refl _ _) (fun hHeld => ?_)
      refine' wpAnyH_take (i := 0) (v := _) (op_at rfl) (by kernel_rfl) (by kernel_rfl) (by kernel_rfl) (fun _ _ _ h => h) (Or.inl ⟨by rfl, ?hy18⟩) (by assumption) ?rest18
      case hy18 =>
        intro w' hS
        go_simp
        try with_reducible rfl
      try simp only [Act.put, List.setIfInBounds_toArray, List.set_cons_zero, List.set_cons_succ]
      refine' wpAnyH_take (i := 1) (v := _) (op_at rfl) (by kernel_rfl) (by kernel_rfl) (by kernel_rfl) (fun _ _ _ h => h) (Or.inl ⟨by rfl, ?hy19⟩) (by assumption) ?rest19
      case hy19 =>
        intro w' hS
        go_simp
        try with_reducible rfl
      try simp only [Act.put, List.setIfInBounds_toArray, List.set_cons_zero, List.set_cons_succ]
      refine' wpAnyH_take (i := 2) (v := _) (op_at rfl) (by kernel_rfl) (by kernel_rfl) (by kernel_rfl) (fun _ _ _ h => h) (Or.inl ⟨by rfl, ?hy20⟩) (by assumption) ?rest20
      case hy20 =>
        intro w' hS
        go_simp
        try with_reducible rfl
      try simp only [Act.put, List.setIfInBounds_toArray, List.set_cons_zero, List.set_cons_succ]
      refine' wpAnyH_take (i := 3) (v := _) (op_at rfl) (by kernel_rfl) (by kernel_rfl) (by kernel_rfl) (fun _ _ _ h => h) (Or.inl ⟨by rfl, ?hy21⟩) (by assumption) ?rest21
      case hy21 =>
        intro w' hS
        go_simp
        try with_reducible rfl
      try simp only [Act.put, List.setIfInBounds_toArray, List.set_cons_zero, List.set_cons_succ]
      refine wpAnyH_take (i := 4) (op_at rfl) (by kernel_rfl) (by kernel_rfl) (by kernel_rfl) (fun _ _ _ h => h) (yieldsIf_load_mid (by rfl) _ _ rfl mg (k * 6) rfl ([.int .i64 M[k].u, .int .i64 M[k].d]) _ (fun w' hS => by have hh := rec_range lnc_len (own_only hrow (oR.trans hS) (fun _ _ => by simp)) hkl; exact fun j v hj => hh j v (by rcases j with _ | _ | j <;> simp_all [lnc])) Try.underlying26 (by rfl) (by rfl)) (by assumption) ?_
      try simp only [Act.put, List.setIfInBounds_toArray, List.set_cons_zero, List.set_cons_succ]
      refine wpAnyH_take (i := 5) (op_at rfl) (by kernel_rfl) (by kernel_rfl) (by kernel_rfl) (fun _ _ _ h => h) (yieldsIf_load_mid (by rfl) _ _ rfl X (0) rfl ([.int .i64 u, .int .i64 d]) _ (fun w' hS => block_range ((oR.trans hS).at hXr (by simp))) Try.underlying26 (by rfl) (by rfl)) (by assumption) ?_
      try simp only [Act.put, List.setIfInBounds_toArray, List.set_cons_zero, List.set_cons_succ]
      refine' wpAnyH_take (i := 6) (v := .bool (decide (M[k].u = u ∧ M[k].d = d))) (op_at rfl) (by kernel_rfl) (by kernel_rfl) (by kernel_rfl) (fun _ _ _ h => h) (Or.inl ⟨by rfl, ?hyE17⟩) (by assumption) ?restE17
      case hyE17 =>
        intro w' hS
        go_simp
        exact two_eq2 M[k].u M[k].d u d w'
      try simp only [Act.put, List.setIfInBounds_toArray, List.set_cons_zero, List.set_cons_succ]
      refine wpAnyH_done (by kernel_rfl) ?_ _
      by_cases hm : M[k].u = u ∧ M[k].d = d
      · have dm : decide (M[k].u = u ∧ M[k].d = d) = true := by simpa using hm
        have he : atL M u d (k + 1) = (k : Int) := by rw [Hst.out, if_pos hm]
        rw [dm]
        clear dm hm Hst
        go_wp2_with fail
        exact ⟨⟨k + 1, by rw [he], by simp, by omega, oR⟩, by simp [intOf]; omega⟩
      · have dm : decide (M[k].u = u ∧ M[k].d = d) = false := by simpa using hm
        have he : atL M u d (k + 1) = atL M u d k := by rw [Hst.out, if_neg hm]
        rw [dm]
        clear dm hm Hst
        go_wp2_with fail
        exact ⟨⟨k + 1, by rw [he], by simp, by omega, oR⟩, by simp [intOf]; omega⟩
    · obtain rfl : k = M.length := by omega
      have d1 : decide ((M.length : Int) < M.length) = false := by simp
      rw [ha]
      have s3 := s2.quiet oR0
      clear HM hXr hrow0 s2 oR0 hlen
      have z0 := cell_in (show wr.heap[Z]? = _ from (s3.sel 5 [4]).head) 0
      have z2 := cell_in (show wr.heap[Z]? = _ from (s3.sel 5 [4]).head) 2
      have z3 := cell_in (show wr.heap[Z]? = _ from (s3.sel 5 [4]).head) 3
      have z4 := cell_in (show wr.heap[Z]? = _ from (s3.sel 5 [4]).head) 4
      have x0 := cell_two0 (show wr.heap[X]? = _ from (s3.sel 6 [5]).head)
      have x1 := cell_two1 (show wr.heap[X]? = _ from (s3.sel 6 [5]).head)
      subst hK3
      obtain ⟨k, hk, ek, ku, kd, hp, hf⟩ := hV.at hj hMj
      have hst : L[k].st = M[j].st := congrArg Ent.st ek
      have hmk := mark_any B (L.map re) _ u d T wr (s3.sel 2 [0, 1]) (by rw [List.length_map]; have := hV.len; omega) hV.asc.rise
      rw [hf, mark_off hk hp hf (hst.trans hs)] at hmk
      have HV := Lib.hid hV
      have Ek := Lib.hid ek
      have Ku := Lib.hid ku
      have Kd := Lib.hid kd
      clear hV ha hml ek ku kd hp hf hMj
      obtain ⟨mg, rfl, _⟩ := own_some (show wr.ownsRow 0 86 6 (.slice mo M.length mc) M.length (fl lnc M) from (s3.sel 4 [3]).head) (by omega)
      go_wp2_with fail
      refine hmk.mono ?_
      rintro e w4 ⟨rfl, s4⟩
      clear hmk s3 z0 z2 z3 z4 x0 x1
      have e3 := rec_cell lnc_len (show w4.ownsRow 0 86 6 (.slice (some ⟨mg, 0, none⟩) M.length mc) M.length (fl lnc M) from (s4.sel 4 [3]).head) hj 3 (v := .bool M[j].st) rfl
      have hjM : decide (0 ≤ (j : Int)) = true := by simp
      have hjM2 : (0 ≤ (j : Int) ∧ (j : Int) < M.length) := by omega
      rw [hs] at e3
      have f3 := (show w4.ownsRow 0 86 6 (.slice (some ⟨mg, 0, none⟩) M.length mc) M.length (fl lnc M) from (s4.sel 4 [3]).head).frozenAt (j * 6 + 3)
      have s5 := Sep.puts (show Sep w0 w4 (row 86 6 (.slice (some ⟨mg, 0, none⟩) M.length mc) M.length (fl lnc M) :: row 36 7 (.slice ao (L.map re).length c) (L.map re).length (fl rc ((L.set k (mkR L[k] T)).map re)) :: blk B [.slice ao (L.map re).length c] 68 :: many (L.map recR) :: blk Z [.int .u8 ka, .int .u8 A, .int .u8 I, .float .f64 T, .float .f64 D] 58 :: rs) from s4.sel 6 [3, 0, 1, 2, 4]) (j * 6 + 3) [.bool true]
      rw [fl_put lnc_len hj (by omega : 3 < 6) (y := (mkL1 M[j])) (by simp [lnc, mkL1])] at s5
      clear s4
      go_upto_region 20 with fail
      obtain ⟨w5, hw5⟩ : ∃ w5, w5 = w4.setCell ⟨mg, j * 6 + 3, none⟩ (.bool true) := ⟨_, rfl⟩
      rw [← hw5]
      rw [show w4.setCells mg (j * 6 + 3) [.bool true] = w5 from hw5.symm] at s5
      have hown := (show w5.ownsRow 0 86 6 (.slice (some ⟨mg, 0, none⟩) M.length mc) M.length (fl lnc (M.set j (mkL1 M[j]))) from s5.head)
      have f4 := hown.frozenAt (j * 6 + 4)
      have e4 := rec_cell lnc_len (l := M.set j (mkL1 M[j])) (by rw [List.length_set]; exact hown) (m := j) (by rw [List.length_set]; exact hj) 4 (v := .float .f64 M[j].t) (by simp [lnc, mkL1])
      have z3 := cell_in (show w5.heap[Z]? = _ from (s5.sel 5 [4]).head) 3
      have s6 := s5.puts (j * 6 + 4) [.float .f64 T]
      rw [fl_put lnc_len (l := M.set j (mkL1 M[j])) (by rw [List.length_set]; exact hj) (by omega : 4 < 6) (y := (mkL M[j] T)) (by simp [lnc, mkL, mkL1]), List.set_set] at s6
      have hsf : (store (⟨mg, j * 6 + 4, none⟩ : Addr) (.float .f64 T)).run Try.prog w5 = .ok () (w5.setCell ⟨mg, j * 6 + 4, none⟩ (.float .f64 T)) := by
        rw [run_store _ _ _ _ _ rfl]
        simp [stored, e4, f4]
      clear hw5 s5 hown
      go_wp2_with fail
      refine bodyPost_ret (v := .tuple #[.slice (some ⟨mg, 0, none⟩) M.length mc, .bool true]) (by simp [results, Try.results23, go_sem]) rfl ?_
      refine ⟨.slice ao (L.map re).length c, L.set k (mkR L[k] T), .slice (some ⟨mg, 0, none⟩) M.length mc, M.set j (mkL M[j] T), rfl, ?_, ?_⟩
      · rw [map_set_same (f := recR) hk (r := mkR L[k] T) rfl]
        have s7 := s6.sel 5 [1, 2, 3, 0]
        simp only [List.length_map, List.length_set] at s7 ⊢
        exact s7
      · have e := Ek.out
        have hx := HV.out.rx _ (List.getElem_mem hk)
        refine HV.out.turn hk hj Ek.out ?_ rfl rfl ⟨hx.1, hT, hx.2.2.1, fun p hp => by have := hx.2.2.2 p hp; omega⟩ ⟨(HV.out.lx _ (List.getElem_mem hj)).1, hT⟩ (HV.out.nx _ (List.getElem_mem hk)).1
        simp only [entR, entL, mkR, mkL, Ent.mk.injEq] at e ⊢
        exact ⟨e.1, e.2.1, e.2.2.1, trivial, trivial, e.2.2.2.2.2⟩
end Go.Proofs.Ytdlbkdnpbcpjfaa
