/- The law step: Drop. Printed by gen_rs.py. -/
import Derived.Test.YtdlbkdnpbcpjfaaRs0
import Derived.Test.YtdlbkdnpbcpjfaaPk
set_option linter.unusedSimpArgs false
set_option linter.unusedVariables false
namespace Go.Proofs.Ytdlbkdnpbcpjfaa
open Go.RowKit Go.Pw Go.Pw.Fl
set_option linter.unusedVariables false

set_option maxRecDepth 100000 in
set_option maxHeartbeats 1600000 in
theorem step_drop {w0 : World} {rs : List Res} (B : Nat) (L : List Rcd) (M : List Ln) (v mv : Value) (ka A I : Int) (T D i : Nat) (w : World) (h : Sep w0 w (row 36 7 v (L.map re).length (fl rc (L.map re)) :: blk B [v] 68 :: many (L.map recR) :: row 86 6 mv M.length (fl lnc M) :: rs)) (hV : Inv i L M) (hi : i < 60) (hA : 0 ≤ A ∧ A < 256) (hI : 0 ≤ I ∧ I < 256) (hT : T < 18446744073709551616) (hD : D < 18446744073709551616) (hK : 0 ≤ ka ∧ ka < 256) (hK4 : ka % 6 = 4) (a : Int) (ha : atL M (A % 3) (1 + A / 3 % 3) M.length = a) :
    Calls Try.prog 23 #[.pointer (some ⟨B, 0, none⟩), mv, .agg #[.int .u8 ka, .int .u8 A, .int .u8 I, .float .f64 T, .float .f64 D], .int .i64 i] w (StepP w0 rs B i) := by
  obtain ⟨ao, c, rfl⟩ := own_slice (show w.ownsRow 0 _ 7 v (L.map re).length (fl rc (L.map re)) from h.head)
  obtain ⟨mo, mc, rfl⟩ := own_slice (show w.ownsRow 0 _ 6 mv M.length (fl lnc M) from (h.sel 4 [3]).head)
  have hlen := hV.len
  have hml : M.length ≤ 60 := by have := hV.mlen; omega
  have eK : ka.tmod 6 = ka % 6 := Int.tmod_eq_emod_of_nonneg hK.1
  have eK2 : IntKind.u8.wrap (ka % 6) = ka % 6 := by rw [IntKind.wrap_u8]; omega
  generalize hKq : ka % 6 = q at *
  have EKq := Lib.hid hKq
  clear hKq
  have Hwho := who_any A hA.1 hA.2
  obtain ⟨u, hu⟩ : ∃ u, u = A % 3 := ⟨_, rfl⟩
  obtain ⟨d, hd⟩ : ∃ d, d = 1 + A / 3 % 3 := ⟨_, rfl⟩
  rw [← hu, ← hd] at Hwho ha
  clear hu hd hA
  go_enter Try.func23, Try.ntmps23
  go_wp2_with (refine wpList_box_new rfl 58 _ rfl (.agg #[.int .u8 ka, .int .u8 A, .int .u8 I, .float .f64 T, .float .f64 D]) rfl ?_; intro Z wZ oZ hZl hZ; have z1 := cell_in hZ 1)
  have sZ : Sep w0 wZ (row 36 7 (.slice ao (L.map re).length c) (L.map re).length (fl rc (L.map re)) :: blk B [.slice ao (L.map re).length c] 68 :: many (L.map recR) :: row 86 6 (.slice mo M.length mc) M.length (fl lnc M) :: blk Z [.int .u8 ka, .int .u8 A, .int .u8 I, .float .f64 T, .float .f64 D] 58 :: rs) := (h.add (b := blk Z [.int .u8 ka, .int .u8 A, .int .u8 I, .float .f64 T, .float .f64 D] 58) oZ hZ (fun k hk => by simp [blk] at hk; omega)).sel 5 [1, 2, 3, 4, 0]
  clear h z1 hZ hZl oZ
  refine (Hwho wZ).mono ?_
  rintro e w1 ⟨rfl, o1⟩
  have s1 := sZ.quiet o1
  have h1c : (#[.int .i64 u, .int .i64 d] : Array Value).all (·.oneCell') = true := by simp [Value.oneCell']
  clear sZ o1 Hwho
  go_wp2_with (first
    | (refine wpList_alloc_new rfl 26 rfl (.agg #[.int .i64 0, .int .i64 0]) (fun _ => by kernel_rfl) ?_; intro X wX oX hXl hX)
    | (refine wpList_store_blk rfl 26 _ _ rfl X [.int .i64 u, .int .i64 d] rfl rfl hX rfl (by kernel_rfl) h1c ?_; intro wY oY hY; have oXY := oX.new oY (fun i hi => by simp only [List.mem_singleton] at hi; omega); clear hX oX oY))
  have s2 : Sep w0 wY (row 36 7 (.slice ao (L.map re).length c) (L.map re).length (fl rc (L.map re)) :: blk B [.slice ao (L.map re).length c] 68 :: many (L.map recR) :: row 86 6 (.slice mo M.length mc) M.length (fl lnc M) :: blk Z [.int .u8 ka, .int .u8 A, .int .u8 I, .float .f64 T, .float .f64 D] 58 :: blk X [.int .i64 u, .int .i64 d] 26 :: rs) := (s1.add (b := blk X [.int .i64 u, .int .i64 d] 26) oXY hY (fun k hk => by simp [blk] at hk; omega)).sel 6 [1, 2, 3, 4, 5, 0]
  clear s1 oXY hY hXl h1c
  have hXr : wY.heap[X]? = some (.cells #[.int .i64 u, .int .i64 d] 26 (0, 0)) := (s2.sel 6 [5]).head
  have hrow0 : wY.ownsRow 0 86 6 (.slice mo M.length mc) M.length (fl lnc M) := (s2.sel 4 [3]).head
  have HM := fun (hp : 0 < M.length) => own_some hrow0 hp
  go_loopw [11, 12] (fun a b wr => ∃ k : Nat, a = .int .i64 (atL M u d k) ∧ b = .int .i64 k ∧ k ≤ M.length ∧ Only wY wr []) (fun _ b _ => M.length - (intOf b).toNat)
  case atStart => exact ⟨0, rfl, rfl, Nat.zero_le _, Only.refl _ _⟩
  case round =>
    obtain ⟨k, rfl, rfl, hk, oR0⟩ := hrel
    by_cases hkl : k < M.length
    · have d1 : decide ((k : Int) < M.length) = true := by simpa using hkl
      obtain ⟨mg, rfl, _⟩ := HM (by omega)
      have hrow := hrow0
      have Hst := Lib.hid (atL_step u d hkl)
      have oR := oR0.trans (Only.drew wr [])
      clear HM hrow0
      go_upto_region 6 with fail
      refine wp_region_held_drew (S := fun w' => Only wr.drew w' []) (by kernel_rfl) (Only.refl _ _) (fun hHeld => ?_)
      refine' wpAnyH_take (i := 0) (v := _) (op_at rfl) (by kernel_rfl) (by kernel_rfl) (by kernel_rfl) (fun _ _ _ h => h) (Or.inl ⟨by rfl, ?hy2⟩) (by assumption) ?rest2
      case hy2 =>
        intro w' hS
        go_simp
        try with_reducible rfl
      try simp only [Act.put, List.setIfInBounds_toArray, List.set_cons_zero, List.set_cons_succ]
      refine' wpAnyH_take (i := 1) (v := _) (op_at rfl) (by kernel_rfl) (by kernel_rfl) (by kernel_rfl) (fun _ _ _ h => h) (Or.inl ⟨by rfl, ?hy3⟩) (by assumption) ?rest3
      case hy3 =>
        intro w' hS
        go_simp
        try with_reducible rfl
      try simp only [Act.put, List.setIfInBounds_toArray, List.set_cons_zero, List.set_cons_succ]
      refine' wpAnyH_take (i := 2) (v := _) (op_at rfl) (by kernel_rfl) (by kernel_rfl) (by kernel_rfl) (fun _ _ _ h => h) (Or.inl ⟨by rfl, ?hy4⟩) (by assumption) ?rest4
      case hy4 =>
        intro w' hS
        go_simp
        try with_reducible rfl
      try simp only [Act.put, List.setIfInBounds_toArray, List.set_cons_zero, List.set_cons_succ]
      refine' wpAnyH_take (i := 3) (v := _) (op_at rfl) (by kernel_rfl) (by kernel_rfl) (by kernel_rfl) (fun _ _ _ h => h) (Or.inl ⟨by rfl, ?hy5⟩) (by assumption) ?rest5
      case hy5 =>
        intro w' hS
        go_simp
        try with_reducible rfl
      try simp only [Act.put, List.setIfInBounds_toArray, List.set_cons_zero, List.set_cons_succ]
      refine wpAnyH_take (i := 4) (op_at rfl) (by kernel_rfl) (by kernel_rfl) (by kernel_rfl) (fun _ _ _ h => h) (yieldsIf_load_mid (by rfl) _ _ rfl mg (k * 6) rfl ([.int .i64 M[k].u, .int .i64 M[k].d]) _ (fun w' hS => by have hh := rec_range lnc_len (own_only hrow (oR.trans hS) (fun _ _ => by simp)) hkl; exact fun j v hj => hh j v (by rcases j with _ | _ | j <;> simp_all [lnc])) Try.underlying26 (by rfl) (by rfl)) (by assumption) ?_
      try simp only [Act.put, List.setIfInBounds_toArray, List.set_cons_zero, List.set_cons_succ]
      refine wpAnyH_take (i := 5) (op_at rfl) (by kernel_rfl) (by kernel_rfl) (by kernel_rfl) (fun _ _ _ h => h) (yieldsIf_load_mid (by rfl) _ _ rfl X (0) rfl ([.int .i64 u, .int .i64 d]) _ (fun w' hS => block_range ((oR.trans hS).at hXr (by simp))) Try.underlying26 (by rfl) (by rfl)) (by assumption) ?_
      try simp only [Act.put, List.setIfInBounds_toArray, List.set_cons_zero, List.set_cons_succ]
      refine' wpAnyH_take (i := 6) (v := .bool (decide (M[k].u = u ∧ M[k].d = d))) (op_at rfl) (by kernel_rfl) (by kernel_rfl) (by kernel_rfl) (fun _ _ _ h => h) (Or.inl ⟨by rfl, ?hyE1⟩) (by assumption) ?restE1
      case hyE1 =>
        intro w' hS
        go_simp
        exact two_eq2 M[k].u M[k].d u d w'
      try simp only [Act.put, List.setIfInBounds_toArray, List.set_cons_zero, List.set_cons_succ]
      refine wpAnyH_done (by kernel_rfl) ?_ _
      by_cases hm : M[k].u = u ∧ M[k].d = d
      · have dm : decide (M[k].u = u ∧ M[k].d = d) = true := by simpa using hm
        have he : atL M u d (k + 1) = (k : Int) := by rw [Hst.out, if_pos hm]
        rw [dm]
        clear dm hm Hst
        go_wp2_with fail
        exact ⟨⟨k + 1, by rw [he], by simp, by omega, oR⟩, by simp [intOf]; omega⟩
      · have dm : decide (M[k].u = u ∧ M[k].d = d) = false := by simpa using hm
        have he : atL M u d (k + 1) = atL M u d k := by rw [Hst.out, if_neg hm]
        rw [dm]
        clear dm hm Hst
        go_wp2_with fail
        exact ⟨⟨k + 1, by rw [he], by simp, by omega, oR⟩, by simp [intOf]; omega⟩
    · obtain rfl : k = M.length := by omega
      have d1 : decide ((M.length : Int) < M.length) = false := by simp
      rw [ha]
      have s3 := s2.quiet oR0
      clear HM hXr hrow0 s2 oR0 hlen
      have z0 := cell_in (show wr.heap[Z]? = _ from (s3.sel 5 [4]).head) 0
      have z2 := cell_in (show wr.heap[Z]? = _ from (s3.sel 5 [4]).head) 2
      have z3 := cell_in (show wr.heap[Z]? = _ from (s3.sel 5 [4]).head) 3
      have z4 := cell_in (show wr.heap[Z]? = _ from (s3.sel 5 [4]).head) 4
      have x0 := cell_two0 (show wr.heap[X]? = _ from (s3.sel 6 [5]).head)
      have x1 := cell_two1 (show wr.heap[X]? = _ from (s3.sel 6 [5]).head)
      subst hK4
      obtain ⟨i1, ji, jz0, jz1, jz2⟩ := info_parts line_info
      have HV := Lib.hid hV
      clear hV ha hD hT hI hi
      have s4 : Sep w0 wr (row 86 6 (.slice none 0 0) 0 [] :: row 36 7 (.slice ao (L.map re).length c) (L.map re).length (fl rc (L.map re)) :: blk B [.slice ao (L.map re).length c] 68 :: many (L.map recR) :: row 86 6 (.slice mo M.length mc) M.length (fl lnc M) :: blk Z [.int .u8 ka, .int .u8 A, .int .u8 I, .float .f64 T, .float .f64 D] 58 :: blk X [.int .i64 u, .int .i64 d] 26 :: rs) := s3.rown _ _
      clear x0 x1 z2 z3 z4 s3
      go_wp2_with fail
      clear z0
      go_loopw [13, 14] (fun x y wk => ∃ (k : Nat) (a1 : Option Addr) (c1 : Nat), x = .slice a1 (kpM T D (M.take k)).length c1 ∧ y = .int .i64 k ∧ k ≤ M.length ∧ Pw.Sep w0 wk (row 86 6 (.slice a1 (kpM T D (M.take k)).length c1) (kpM T D (M.take k)).length (fl lnc (kpM T D (M.take k))) :: row 36 7 (.slice ao (L.map re).length c) (L.map re).length (fl rc (L.map re)) :: blk B [.slice ao (L.map re).length c] 68 :: many (L.map recR) :: row 86 6 (.slice mo M.length mc) M.length (fl lnc M) :: blk Z [.int .u8 ka, .int .u8 A, .int .u8 I, .float .f64 T, .float .f64 D] 58 :: blk X [.int .i64 u, .int .i64 d] 26 :: rs)) (fun _ y _ => M.length - (intOf y).toNat)
      case atStart => exact ⟨0, none, 0, rfl, rfl, Nat.zero_le _, s4⟩
      case round =>
        clear s4
        obtain ⟨k, a1, c1, rfl, rfl, hk, s4⟩ := hrel
        by_cases hkl : k < M.length
        · have d1 : decide ((k : Int) < M.length) = true := by simpa using hkl
          obtain ⟨mg, rfl, _⟩ := own_some (show World.ownsRow _ 0 86 6 (.slice mo M.length mc) M.length (fl lnc M) from (s4.sel 5 [4]).head) (by omega)
          have hrow := (show World.ownsRow _ 0 86 6 (.slice (some ⟨mg, 0, none⟩) M.length mc) M.length (fl lnc M) from (s4.sel 5 [4]).head)
          have hZk : wr.heap[Z]? = some (.cells #[.int .u8 ka, .int .u8 A, .int .u8 I, .float .f64 T, .float .f64 D] 58 (0, 0)) := (s4.sel 6 [5]).head
          have htk : kpM T D (M.take (k + 1)) = kpM T D (M.take k) ++ (if keepE T D (entL M[k]) = true then [M[k]] else []) := by
            rw [List.take_succ_eq_append_getElem hkl, kpM_snoc]
          have hql : (kpM T D (M.take k)).length ≤ 60 := by have := kpM_len T D (M.take k); rw [List.length_take] at this; omega
          cases hst : M[k].st with
          | false =>
            go_upto_region 26 with fail
            refine wp_region_held_drew (S := fun w' => Only wr.drew w' []) (by kernel_rfl) (Only.refl _ _) (fun hHeld => ?_)
            refine' wpAnyH_take (i := 0) (v := _) (op_at rfl) (by kernel_rfl) (by kernel_rfl) (by kernel_rfl) (fun _ _ _ h => h) (Or.inl ⟨by rfl, ?hy9⟩) (by assumption) ?rest9
            case hy9 =>
              intro w' hS
              go_simp
              try with_reducible rfl
            try simp only [Act.put, List.setIfInBounds_toArray, List.set_cons_zero, List.set_cons_succ]
            refine' wpAnyH_take (i := 1) (v := _) (op_at rfl) (by kernel_rfl) (by kernel_rfl) (by kernel_rfl) (fun _ _ _ h => h) (Or.inl ⟨by rfl, ?hy10⟩) (by assumption) ?rest10
            case hy10 =>
              intro w' hS
              go_simp
              try with_reducible rfl
            try simp only [Act.put, List.setIfInBounds_toArray, List.set_cons_zero, List.set_cons_succ]
            refine' wpAnyH_take (i := 2) (v := _) (op_at rfl) (by kernel_rfl) (by kernel_rfl) (by kernel_rfl) (fun _ _ _ h => h) (Or.inl ⟨by rfl, ?hy11⟩) (by assumption) ?rest11
            case hy11 =>
              intro w' hS
              go_simp
              try with_reducible rfl
            try simp only [Act.put, List.setIfInBounds_toArray, List.set_cons_zero, List.set_cons_succ]
            refine' wpAnyH_take (i := 3) (v := _) (op_at rfl) (by kernel_rfl) (by kernel_rfl) (by kernel_rfl) (fun _ _ _ h => h) (Or.inl ⟨by rfl, ?hy12⟩) (by assumption) ?rest12
            case hy12 =>
              intro w' hS
              go_simp
              try with_reducible rfl
            try simp only [Act.put, List.setIfInBounds_toArray, List.set_cons_zero, List.set_cons_succ]
            refine' wpAnyH_take (i := 4) (v := _) (op_at rfl) (by kernel_rfl) (by kernel_rfl) (by kernel_rfl) (fun _ _ _ h => h) (Or.inl ⟨by rfl, ?hy13⟩) (by assumption) ?rest13
            case hy13 =>
              intro w' hS
              have hr_ := own_only hrow ((Only.drew wr []).trans hS) (fun _ _ => by simp)
              have e3 := rec_cell lnc_len hr_ hkl 3 (v := .bool M[k].st) rfl
              rw [hst] at e3
              go_simp
              try with_reducible rfl
            try simp only [Act.put, List.setIfInBounds_toArray, List.set_cons_zero, List.set_cons_succ]
            refine' wpAnyH_take (i := 5) (v := _) (op_at rfl) (by kernel_rfl) (by kernel_rfl) (by kernel_rfl) (fun _ _ _ h => h) (Or.inl ⟨by rfl, ?hy14⟩) (by assumption) ?rest14
            case hy14 =>
              intro w' hS
              go_simp
              try with_reducible rfl
            try simp only [Act.put, List.setIfInBounds_toArray, List.set_cons_zero, List.set_cons_succ]
            refine' wpAnyH_take (i := 6) (v := _) (op_at rfl) (by kernel_rfl) (by kernel_rfl) (by kernel_rfl) (fun _ _ _ h => h) (Or.inl ⟨by rfl, ?hy15⟩) (by assumption) ?rest15
            case hy15 =>
              intro w' hS
              go_simp
              try with_reducible rfl
            try simp only [Act.put, List.setIfInBounds_toArray, List.set_cons_zero, List.set_cons_succ]
            refine wpAnyH_take (i := 7) (v := undef) (op_at rfl) (by kernel_rfl) (by kernel_rfl) (by kernel_rfl) (fun _ _ _ h => h) (Or.inr ⟨by rfl, rfl⟩) (by assumption) ?_
            try simp only [Act.put, List.setIfInBounds_toArray, List.set_cons_zero, List.set_cons_succ]
            refine wpAnyH_take (i := 8) (v := undef) (op_at rfl) (by kernel_rfl) (by kernel_rfl) (by kernel_rfl) (fun _ _ _ h => h) (Or.inr ⟨by rfl, rfl⟩) (by assumption) ?_
            try simp only [Act.put, List.setIfInBounds_toArray, List.set_cons_zero, List.set_cons_succ]
            refine wpAnyH_take (i := 9) (v := undef) (op_at rfl) (by kernel_rfl) (by kernel_rfl) (by kernel_rfl) (fun _ _ _ h => h) (Or.inr ⟨by rfl, rfl⟩) (by assumption) ?_
            try simp only [Act.put, List.setIfInBounds_toArray, List.set_cons_zero, List.set_cons_succ]
            refine wpAnyH_take (i := 10) (v := undef) (op_at rfl) (by kernel_rfl) (by kernel_rfl) (by kernel_rfl) (fun _ _ _ h => h) (Or.inr ⟨by rfl, rfl⟩) (by assumption) ?_
            try simp only [Act.put, List.setIfInBounds_toArray, List.set_cons_zero, List.set_cons_succ]
            refine wpAnyH_take (i := 11) (v := undef) (op_at rfl) (by kernel_rfl) (by kernel_rfl) (by kernel_rfl) (fun _ _ _ h => h) (Or.inr ⟨by rfl, rfl⟩) (by assumption) ?_
            try simp only [Act.put, List.setIfInBounds_toArray, List.set_cons_zero, List.set_cons_succ]
            refine wpAnyH_take (i := 12) (v := undef) (op_at rfl) (by kernel_rfl) (by kernel_rfl) (by kernel_rfl) (fun _ _ _ h => h) (Or.inr ⟨by rfl, rfl⟩) (by assumption) ?_
            try simp only [Act.put, List.setIfInBounds_toArray, List.set_cons_zero, List.set_cons_succ]
            refine wpAnyH_take (i := 13) (v := undef) (op_at rfl) (by kernel_rfl) (by kernel_rfl) (by kernel_rfl) (fun _ _ _ h => h) (Or.inr ⟨by rfl, rfl⟩) (by assumption) ?_
            try simp only [Act.put, List.setIfInBounds_toArray, List.set_cons_zero, List.set_cons_succ]
            refine wpAnyH_take (i := 14) (v := undef) (op_at rfl) (by kernel_rfl) (by kernel_rfl) (by kernel_rfl) (fun _ _ _ h => h) (Or.inr ⟨by rfl, rfl⟩) (by assumption) ?_
            try simp only [Act.put, List.setIfInBounds_toArray, List.set_cons_zero, List.set_cons_succ]
            refine wpAnyH_take (i := 15) (v := undef) (op_at rfl) (by kernel_rfl) (by kernel_rfl) (by kernel_rfl) (fun _ _ _ h => h) (Or.inr ⟨by rfl, rfl⟩) (by assumption) ?_
            try simp only [Act.put, List.setIfInBounds_toArray, List.set_cons_zero, List.set_cons_succ]
            refine wpAnyH_take (i := 16) (v := undef) (op_at rfl) (by kernel_rfl) (by kernel_rfl) (by kernel_rfl) (fun _ _ _ h => h) (Or.inr ⟨by rfl, rfl⟩) (by assumption) ?_
            try simp only [Act.put, List.setIfInBounds_toArray, List.set_cons_zero, List.set_cons_succ]
            refine wpAnyH_take (i := 17) (v := undef) (op_at rfl) (by kernel_rfl) (by kernel_rfl) (by kernel_rfl) (fun _ _ _ h => h) (Or.inr ⟨by rfl, rfl⟩) (by assumption) ?_
            try simp only [Act.put, List.setIfInBounds_toArray, List.set_cons_zero, List.set_cons_succ]
            refine' wpAnyH_take (i := 18) (v := _) (op_at rfl) (by kernel_rfl) (by kernel_rfl) (by kernel_rfl) (fun _ _ _ h => h) (Or.inl ⟨by rfl, ?hy27⟩) (by assumption) ?rest27
            case hy27 =>
              intro w' hS
              go_simp
              try with_reducible rfl
            try simp only [Act.put, List.setIfInBounds_toArray, List.set_cons_zero, List.set_cons_succ]
            refine wpAnyH_done (by kernel_rfl) ?_ _
            have s5 := (s4.quiet (Only.drew wr []))
            have hkp : keepE T D (entL M[k]) = true := by show (!M[k].st || !overV T M[k].t D) = true; rw [hst]; rfl
            replace htk : Hid (fl lnc (kpM T D (M.take k)) ++ lnc M[k] = fl lnc (kpM T D (M.take (k + 1))) ∧ (kpM T D (M.take (k + 1))).length = (kpM T D (M.take k)).length + 1) := by
              show _ ∧ _
              rw [htk, if_pos hkp, fl_app, fl_cons, fl_nil, List.append_nil]
              exact ⟨rfl, by simp⟩
            have hrng := rec_range lnc_len (show World.ownsRow _ 0 86 6 (.slice (some ⟨mg, 0, none⟩) M.length mc) M.length (fl lnc M) from (s5.sel 5 [4]).head) hkl
            have hcl := lnc_len M[k]
            have hco := lnc_one M[k]
            clear hst hkp s4 hrow hZk hHeld 
            generalize lnc M[k] = cs at *
            generalize hq : kpM T D (M.take k) = qs at *
            clear hq
            go_wp2_with (first
              | (refine wpList_load_mid rfl 86 _ rfl mg (k * 6) rfl cs _ hrng Try.underlying86 (by rfl) (by rw [hcl]; kernel_rfl) ?_)
              | (refine wpList_buildSlice_one rfl 54 _ rfl 86 i1 _ cs rfl Try.underlying54 ji jz0 (by rw [jz1, hcl]) (by rw [hcl]; rfl) (by rw [hcl]; decide) (by rw [hcl]; decide) ?_; intro Y w6 o6 hYl hY; have s6 := s5.quiet o6; clear s5 o6)
              | (at_builtin; refine wpList_append_sep rfl _ _ 54 rfl 86 i1 _ 6 40 Try.underlying54 ji jz0 jz1 jz2 rfl (by decide) (.slice a1 qs.length c1) qs.length _ rfl s6 _ 1 cs rfl (src_blk hY (by rw [hcl])) hco (by unfold maxLen; omega) (by omega) ?_; intro a7 c7 w7 o7 s7; rw [htk.out.1] at s7))
            refine ⟨⟨k + 1, a7, c7, by rw [htk.out.2], by simp, by omega, by rw [htk.out.2]; exact s7⟩, by simp [intOf]; omega⟩

          | true =>
            cases hov : overV T M[k].t D with
            | false =>
              go_upto_region 26 with fail
              refine wp_region_held_drew (S := fun w' => Only wr.drew w' []) (by kernel_rfl) (Only.refl _ _) (fun hHeld => ?_)
              refine' wpAnyH_take (i := 0) (v := _) (op_at rfl) (by kernel_rfl) (by kernel_rfl) (by kernel_rfl) (fun _ _ _ h => h) (Or.inl ⟨by rfl, ?hy28⟩) (by assumption) ?rest28
              case hy28 =>
                intro w' hS
                go_simp
                try with_reducible rfl
              try simp only [Act.put, List.setIfInBounds_toArray, List.set_cons_zero, List.set_cons_succ]
              refine' wpAnyH_take (i := 1) (v := _) (op_at rfl) (by kernel_rfl) (by kernel_rfl) (by kernel_rfl) (fun _ _ _ h => h) (Or.inl ⟨by rfl, ?hy29⟩) (by assumption) ?rest29
              case hy29 =>
                intro w' hS
                go_simp
                try with_reducible rfl
              try simp only [Act.put, List.setIfInBounds_toArray, List.set_cons_zero, List.set_cons_succ]
              refine' wpAnyH_take (i := 2) (v := _) (op_at rfl) (by kernel_rfl) (by kernel_rfl) (by kernel_rfl) (fun _ _ _ h => h) (Or.inl ⟨by rfl, ?hy30⟩) (by assumption) ?rest30
              case hy30 =>
                intro w' hS
                go_simp
                try with_reducible rfl
              try simp only [Act.put, List.setIfInBounds_toArray, List.set_cons_zero, List.set_cons_succ]
              refine' wpAnyH_take (i := 3) (v := _) (op_at rfl) (by kernel_rfl) (by kernel_rfl) (by kernel_rfl) (fun _ _ _ h => h) (Or.inl ⟨by rfl, ?hy31⟩) (by assumption) ?rest31
              case hy31 =>
                intro w' hS
                go_simp
                try with_reducible rfl
              try simp only [Act.put, List.setIfInBounds_toArray, List.set_cons_zero, List.set_cons_succ]
              refine' wpAnyH_take (i := 4) (v := _) (op_at rfl) (by kernel_rfl) (by kernel_rfl) (by kernel_rfl) (fun _ _ _ h => h) (Or.inl ⟨by rfl, ?hy32⟩) (by assumption) ?rest32
              case hy32 =>
                intro w' hS
                have hr_ := own_only hrow ((Only.drew wr []).trans hS) (fun _ _ => by simp)
                have e3 := rec_cell lnc_len hr_ hkl 3 (v := .bool M[k].st) rfl
                rw [hst] at e3
                go_simp
                try with_reducible rfl
              try simp only [Act.put, List.setIfInBounds_toArray, List.set_cons_zero, List.set_cons_succ]
              refine' wpAnyH_take (i := 5) (v := _) (op_at rfl) (by kernel_rfl) (by kernel_rfl) (by kernel_rfl) (fun _ _ _ h => h) (Or.inl ⟨by rfl, ?hy33⟩) (by assumption) ?rest33
              case hy33 =>
                intro w' hS
                go_simp
                try with_reducible rfl
              try simp only [Act.put, List.setIfInBounds_toArray, List.set_cons_zero, List.set_cons_succ]
              refine' wpAnyH_take (i := 6) (v := _) (op_at rfl) (by kernel_rfl) (by kernel_rfl) (by kernel_rfl) (fun _ _ _ h => h) (Or.inl ⟨by rfl, ?hy34⟩) (by assumption) ?rest34
              case hy34 =>
                intro w' hS
                go_simp
                try with_reducible rfl
              try simp only [Act.put, List.setIfInBounds_toArray, List.set_cons_zero, List.set_cons_succ]
              refine' wpAnyH_take (i := 7) (v := _) (op_at rfl) (by kernel_rfl) (by kernel_rfl) (by kernel_rfl) (fun _ _ _ h => h) (Or.inl ⟨by rfl, ?hy35⟩) (by assumption) ?rest35
              case hy35 =>
                intro w' hS
                go_simp
                try with_reducible rfl
              try simp only [Act.put, List.setIfInBounds_toArray, List.set_cons_zero, List.set_cons_succ]
              refine' wpAnyH_take (i := 8) (v := _) (op_at rfl) (by kernel_rfl) (by kernel_rfl) (by kernel_rfl) (fun _ _ _ h => h) (Or.inl ⟨by rfl, ?hy36⟩) (by assumption) ?rest36
              case hy36 =>
                intro w' hS
                have hz_ := ((Only.drew wr []).trans hS).at hZk (by simp)
                have z3 := cell_in hz_ 3
                go_simp
                try with_reducible rfl
              try simp only [Act.put, List.setIfInBounds_toArray, List.set_cons_zero, List.set_cons_succ]
              refine' wpAnyH_take (i := 9) (v := _) (op_at rfl) (by kernel_rfl) (by kernel_rfl) (by kernel_rfl) (fun _ _ _ h => h) (Or.inl ⟨by rfl, ?hy37⟩) (by assumption) ?rest37
              case hy37 =>
                intro w' hS
                go_simp
                try with_reducible rfl
              try simp only [Act.put, List.setIfInBounds_toArray, List.set_cons_zero, List.set_cons_succ]
              refine' wpAnyH_take (i := 10) (v := _) (op_at rfl) (by kernel_rfl) (by kernel_rfl) (by kernel_rfl) (fun _ _ _ h => h) (Or.inl ⟨by rfl, ?hy38⟩) (by assumption) ?rest38
              case hy38 =>
                intro w' hS
                go_simp
                try with_reducible rfl
              try simp only [Act.put, List.setIfInBounds_toArray, List.set_cons_zero, List.set_cons_succ]
              refine' wpAnyH_take (i := 11) (v := _) (op_at rfl) (by kernel_rfl) (by kernel_rfl) (by kernel_rfl) (fun _ _ _ h => h) (Or.inl ⟨by rfl, ?hy39⟩) (by assumption) ?rest39
              case hy39 =>
                intro w' hS
                go_simp
                try with_reducible rfl
              try simp only [Act.put, List.setIfInBounds_toArray, List.set_cons_zero, List.set_cons_succ]
              refine' wpAnyH_take (i := 12) (v := _) (op_at rfl) (by kernel_rfl) (by kernel_rfl) (by kernel_rfl) (fun _ _ _ h => h) (Or.inl ⟨by rfl, ?hy40⟩) (by assumption) ?rest40
              case hy40 =>
                intro w' hS
                go_simp
                try with_reducible rfl
              try simp only [Act.put, List.setIfInBounds_toArray, List.set_cons_zero, List.set_cons_succ]
              refine' wpAnyH_take (i := 13) (v := _) (op_at rfl) (by kernel_rfl) (by kernel_rfl) (by kernel_rfl) (fun _ _ _ h => h) (Or.inl ⟨by rfl, ?hy41⟩) (by assumption) ?rest41
              case hy41 =>
                intro w' hS
                have hr_ := own_only hrow ((Only.drew wr []).trans hS) (fun _ _ => by simp)
                have e4 := rec_cell lnc_len hr_ hkl 4 (v := .float .f64 M[k].t) rfl
                go_simp
                try with_reducible rfl
              try simp only [Act.put, List.setIfInBounds_toArray, List.set_cons_zero, List.set_cons_succ]
              refine' wpAnyH_take (i := 14) (v := _) (op_at rfl) (by kernel_rfl) (by kernel_rfl) (by kernel_rfl) (fun _ _ _ h => h) (Or.inl ⟨by rfl, ?hy42⟩) (by assumption) ?rest42
              case hy42 =>
                intro w' hS
                go_simp
                try with_reducible rfl
              try simp only [Act.put, List.setIfInBounds_toArray, List.set_cons_zero, List.set_cons_succ]
              refine' wpAnyH_take (i := 15) (v := _) (op_at rfl) (by kernel_rfl) (by kernel_rfl) (by kernel_rfl) (fun _ _ _ h => h) (Or.inl ⟨by rfl, ?hy43⟩) (by assumption) ?rest43
              case hy43 =>
                intro w' hS
                have hz_ := ((Only.drew wr []).trans hS).at hZk (by simp)
                have z4 := cell_in hz_ 4
                go_simp
                try with_reducible rfl
              try simp only [Act.put, List.setIfInBounds_toArray, List.set_cons_zero, List.set_cons_succ]
              refine wpAnyH_ready (rs := [16]) (by kernel_rfl) (by simp) (AllReadyH.cons (op_at rfl) (fun K hK => ?_) AllReadyH.nil)
              go_simp
              refine (rover_any T M[k].t D _).mono fun e w16 hq => ?_
              obtain ⟨rfl, o16⟩ := hq
              rw [hov]
              go_wp2_with fail
              refine hK.out _ _ o16 (fun hHeld => ?_)
              clear hK K
              try simp only [Act.put, List.setIfInBounds_toArray, List.set_cons_zero, List.set_cons_succ]
              refine' wpAnyH_take (i := 17) (v := _) (op_at rfl) (by kernel_rfl) (by kernel_rfl) (by kernel_rfl) (fun _ _ _ h => h) (Or.inl ⟨by rfl, ?hy44⟩) (by assumption) ?rest44
              case hy44 =>
                intro w' hS
                go_simp
                try with_reducible rfl
              try simp only [Act.put, List.setIfInBounds_toArray, List.set_cons_zero, List.set_cons_succ]
              refine' wpAnyH_take (i := 18) (v := _) (op_at rfl) (by kernel_rfl) (by kernel_rfl) (by kernel_rfl) (fun _ _ _ h => h) (Or.inl ⟨by rfl, ?hy45⟩) (by assumption) ?rest45
              case hy45 =>
                intro w' hS
                go_simp
                try with_reducible rfl
              try simp only [Act.put, List.setIfInBounds_toArray, List.set_cons_zero, List.set_cons_succ]
              refine wpAnyH_done (by kernel_rfl) ?_ _
              have s5 := (s4.quiet (Only.drew wr [])).quiet o16
              have hkp : keepE T D (entL M[k]) = true := by show (!M[k].st || !overV T M[k].t D) = true; rw [hov]; simp
              replace htk : Hid (fl lnc (kpM T D (M.take k)) ++ lnc M[k] = fl lnc (kpM T D (M.take (k + 1))) ∧ (kpM T D (M.take (k + 1))).length = (kpM T D (M.take k)).length + 1) := by
                show _ ∧ _
                rw [htk, if_pos hkp, fl_app, fl_cons, fl_nil, List.append_nil]
                exact ⟨rfl, by simp⟩
              have hrng := rec_range lnc_len (show World.ownsRow _ 0 86 6 (.slice (some ⟨mg, 0, none⟩) M.length mc) M.length (fl lnc M) from (s5.sel 5 [4]).head) hkl
              have hcl := lnc_len M[k]
              have hco := lnc_one M[k]
              clear hst hkp s4 hrow hZk hHeld hov o16
              generalize lnc M[k] = cs at *
              generalize hq : kpM T D (M.take k) = qs at *
              clear hq
              go_wp2_with (first
                | (refine wpList_load_mid rfl 86 _ rfl mg (k * 6) rfl cs _ hrng Try.underlying86 (by rfl) (by rw [hcl]; kernel_rfl) ?_)
                | (refine wpList_buildSlice_one rfl 54 _ rfl 86 i1 _ cs rfl Try.underlying54 ji jz0 (by rw [jz1, hcl]) (by rw [hcl]; rfl) (by rw [hcl]; decide) (by rw [hcl]; decide) ?_; intro Y w6 o6 hYl hY; have s6 := s5.quiet o6; clear s5 o6)
                | (at_builtin; refine wpList_append_sep rfl _ _ 54 rfl 86 i1 _ 6 40 Try.underlying54 ji jz0 jz1 jz2 rfl (by decide) (.slice a1 qs.length c1) qs.length _ rfl s6 _ 1 cs rfl (src_blk hY (by rw [hcl])) hco (by unfold maxLen; omega) (by omega) ?_; intro a7 c7 w7 o7 s7; rw [htk.out.1] at s7))
              refine ⟨⟨k + 1, a7, c7, by rw [htk.out.2], by simp, by omega, by rw [htk.out.2]; exact s7⟩, by simp [intOf]; omega⟩

            | true =>
              have hkp : keepE T D (entL M[k]) = false := by show (!M[k].st || !overV T M[k].t D) = false; rw [hov, hst]; rfl
              replace htk : Hid (kpM T D (M.take (k + 1)) = kpM T D (M.take k)) := by
                show _ = _
                rw [htk, if_neg (by rw [hkp]; simp), List.append_nil]
              clear hkp
              go_upto_region 26 with fail
              refine wp_region_held_drew (S := fun w' => Only wr.drew w' []) (by kernel_rfl) (Only.refl _ _) (fun hHeld => ?_)
              refine' wpAnyH_take (i := 0) (v := _) (op_at rfl) (by kernel_rfl) (by kernel_rfl) (by kernel_rfl) (fun _ _ _ h => h) (Or.inl ⟨by rfl, ?hy46⟩) (by assumption) ?rest46
              case hy46 =>
                intro w' hS
                go_simp
                try with_reducible rfl
              try simp only [Act.put, List.setIfInBounds_toArray, List.set_cons_zero, List.set_cons_succ]
              refine' wpAnyH_take (i := 1) (v := _) (op_at rfl) (by kernel_rfl) (by kernel_rfl) (by kernel_rfl) (fun _ _ _ h => h) (Or.inl ⟨by rfl, ?hy47⟩) (by assumption) ?rest47
              case hy47 =>
                intro w' hS
                go_simp
                try with_reducible rfl
              try simp only [Act.put, List.setIfInBounds_toArray, List.set_cons_zero, List.set_cons_succ]
              refine' wpAnyH_take (i := 2) (v := _) (op_at rfl) (by kernel_rfl) (by kernel_rfl) (by kernel_rfl) (fun _ _ _ h => h) (Or.inl ⟨by rfl, ?hy48⟩) (by assumption) ?rest48
              case hy48 =>
                intro w' hS
                go_simp
                try with_reducible rfl
              try simp only [Act.put, List.setIfInBounds_toArray, List.set_cons_zero, List.set_cons_succ]
              refine' wpAnyH_take (i := 3) (v := _) (op_at rfl) (by kernel_rfl) (by kernel_rfl) (by kernel_rfl) (fun _ _ _ h => h) (Or.inl ⟨by rfl, ?hy49⟩) (by assumption) ?rest49
              case hy49 =>
                intro w' hS
                go_simp
                try with_reducible rfl
              try simp only [Act.put, List.setIfInBounds_toArray, List.set_cons_zero, List.set_cons_succ]
              refine' wpAnyH_take (i := 4) (v := _) (op_at rfl) (by kernel_rfl) (by kernel_rfl) (by kernel_rfl) (fun _ _ _ h => h) (Or.inl ⟨by rfl, ?hy50⟩) (by assumption) ?rest50
              case hy50 =>
                intro w' hS
                have hr_ := own_only hrow ((Only.drew wr []).trans hS) (fun _ _ => by simp)
                have e3 := rec_cell lnc_len hr_ hkl 3 (v := .bool M[k].st) rfl
                rw [hst] at e3
                go_simp
                try with_reducible rfl
              try simp only [Act.put, List.setIfInBounds_toArray, List.set_cons_zero, List.set_cons_succ]
              refine' wpAnyH_take (i := 5) (v := _) (op_at rfl) (by kernel_rfl) (by kernel_rfl) (by kernel_rfl) (fun _ _ _ h => h) (Or.inl ⟨by rfl, ?hy51⟩) (by assumption) ?rest51
              case hy51 =>
                intro w' hS
                go_simp
                try with_reducible rfl
              try simp only [Act.put, List.setIfInBounds_toArray, List.set_cons_zero, List.set_cons_succ]
              refine' wpAnyH_take (i := 6) (v := _) (op_at rfl) (by kernel_rfl) (by kernel_rfl) (by kernel_rfl) (fun _ _ _ h => h) (Or.inl ⟨by rfl, ?hy52⟩) (by assumption) ?rest52
              case hy52 =>
                intro w' hS
                go_simp
                try with_reducible rfl
              try simp only [Act.put, List.setIfInBounds_toArray, List.set_cons_zero, List.set_cons_succ]
              refine' wpAnyH_take (i := 7) (v := _) (op_at rfl) (by kernel_rfl) (by kernel_rfl) (by kernel_rfl) (fun _ _ _ h => h) (Or.inl ⟨by rfl, ?hy53⟩) (by assumption) ?rest53
              case hy53 =>
                intro w' hS
                go_simp
                try with_reducible rfl
              try simp only [Act.put, List.setIfInBounds_toArray, List.set_cons_zero, List.set_cons_succ]
              refine' wpAnyH_take (i := 8) (v := _) (op_at rfl) (by kernel_rfl) (by kernel_rfl) (by kernel_rfl) (fun _ _ _ h => h) (Or.inl ⟨by rfl, ?hy54⟩) (by assumption) ?rest54
              case hy54 =>
                intro w' hS
                have hz_ := ((Only.drew wr []).trans hS).at hZk (by simp)
                have z3 := cell_in hz_ 3
                go_simp
                try with_reducible rfl
              try simp only [Act.put, List.setIfInBounds_toArray, List.set_cons_zero, List.set_cons_succ]
              refine' wpAnyH_take (i := 9) (v := _) (op_at rfl) (by kernel_rfl) (by kernel_rfl) (by kernel_rfl) (fun _ _ _ h => h) (Or.inl ⟨by rfl, ?hy55⟩) (by assumption) ?rest55
              case hy55 =>
                intro w' hS
                go_simp
                try with_reducible rfl
              try simp only [Act.put, List.setIfInBounds_toArray, List.set_cons_zero, List.set_cons_succ]
              refine' wpAnyH_take (i := 10) (v := _) (op_at rfl) (by kernel_rfl) (by kernel_rfl) (by kernel_rfl) (fun _ _ _ h => h) (Or.inl ⟨by rfl, ?hy56⟩) (by assumption) ?rest56
              case hy56 =>
                intro w' hS
                go_simp
                try with_reducible rfl
              try simp only [Act.put, List.setIfInBounds_toArray, List.set_cons_zero, List.set_cons_succ]
              refine' wpAnyH_take (i := 11) (v := _) (op_at rfl) (by kernel_rfl) (by kernel_rfl) (by kernel_rfl) (fun _ _ _ h => h) (Or.inl ⟨by rfl, ?hy57⟩) (by assumption) ?rest57
              case hy57 =>
                intro w' hS
                go_simp
                try with_reducible rfl
              try simp only [Act.put, List.setIfInBounds_toArray, List.set_cons_zero, List.set_cons_succ]
              refine' wpAnyH_take (i := 12) (v := _) (op_at rfl) (by kernel_rfl) (by kernel_rfl) (by kernel_rfl) (fun _ _ _ h => h) (Or.inl ⟨by rfl, ?hy58⟩) (by assumption) ?rest58
              case hy58 =>
                intro w' hS
                go_simp
                try with_reducible rfl
              try simp only [Act.put, List.setIfInBounds_toArray, List.set_cons_zero, List.set_cons_succ]
              refine' wpAnyH_take (i := 13) (v := _) (op_at rfl) (by kernel_rfl) (by kernel_rfl) (by kernel_rfl) (fun _ _ _ h => h) (Or.inl ⟨by rfl, ?hy59⟩) (by assumption) ?rest59
              case hy59 =>
                intro w' hS
                have hr_ := own_only hrow ((Only.drew wr []).trans hS) (fun _ _ => by simp)
                have e4 := rec_cell lnc_len hr_ hkl 4 (v := .float .f64 M[k].t) rfl
                go_simp
                try with_reducible rfl
              try simp only [Act.put, List.setIfInBounds_toArray, List.set_cons_zero, List.set_cons_succ]
              refine' wpAnyH_take (i := 14) (v := _) (op_at rfl) (by kernel_rfl) (by kernel_rfl) (by kernel_rfl) (fun _ _ _ h => h) (Or.inl ⟨by rfl, ?hy60⟩) (by assumption) ?rest60
              case hy60 =>
                intro w' hS
                go_simp
                try with_reducible rfl
              try simp only [Act.put, List.setIfInBounds_toArray, List.set_cons_zero, List.set_cons_succ]
              refine' wpAnyH_take (i := 15) (v := _) (op_at rfl) (by kernel_rfl) (by kernel_rfl) (by kernel_rfl) (fun _ _ _ h => h) (Or.inl ⟨by rfl, ?hy61⟩) (by assumption) ?rest61
              case hy61 =>
                intro w' hS
                have hz_ := ((Only.drew wr []).trans hS).at hZk (by simp)
                have z4 := cell_in hz_ 4
                go_simp
                try with_reducible rfl
              try simp only [Act.put, List.setIfInBounds_toArray, List.set_cons_zero, List.set_cons_succ]
              refine wpAnyH_ready (rs := [16]) (by kernel_rfl) (by simp) (AllReadyH.cons (op_at rfl) (fun K hK => ?_) AllReadyH.nil)
              go_simp
              refine (rover_any T M[k].t D _).mono fun e w16 hq => ?_
              obtain ⟨rfl, o16⟩ := hq
              rw [hov]
              go_wp2_with fail
              refine hK.out _ _ o16 (fun hHeld => ?_)
              clear hK K
              try simp only [Act.put, List.setIfInBounds_toArray, List.set_cons_zero, List.set_cons_succ]
              refine' wpAnyH_take (i := 17) (v := _) (op_at rfl) (by kernel_rfl) (by kernel_rfl) (by kernel_rfl) (fun _ _ _ h => h) (Or.inl ⟨by rfl, ?hy62⟩) (by assumption) ?rest62
              case hy62 =>
                intro w' hS
                go_simp
                try with_reducible rfl
              try simp only [Act.put, List.setIfInBounds_toArray, List.set_cons_zero, List.set_cons_succ]
              refine' wpAnyH_take (i := 18) (v := _) (op_at rfl) (by kernel_rfl) (by kernel_rfl) (by kernel_rfl) (fun _ _ _ h => h) (Or.inl ⟨by rfl, ?hy63⟩) (by assumption) ?rest63
              case hy63 =>
                intro w' hS
                go_simp
                try with_reducible rfl
              try simp only [Act.put, List.setIfInBounds_toArray, List.set_cons_zero, List.set_cons_succ]
              refine wpAnyH_done (by kernel_rfl) ?_ _
              have s5 := (s4.quiet (Only.drew wr [])).quiet o16
              clear s4 hrow hZk hHeld hst hov o16
              go_wp2_with fail
              refine ⟨⟨k + 1, a1, c1, by rw [htk.out], by simp, by omega, by rw [htk.out]; exact s5⟩, by simp [intOf]; omega⟩
        · obtain rfl : k = M.length := by omega
          have d1 : decide ((M.length : Int) < M.length) = false := by simp
          rw [List.take_length] at s4
          rw [List.take_length]
          have s5 : Sep w0 wr (row 36 7 (.slice ao (L.map re).length c) (L.map re).length (fl rc (L.map re)) :: blk B [.slice ao (L.map re).length c] 68 :: row 86 6 (.slice a1 (kpM T D M).length c1) (kpM T D M).length (fl lnc (kpM T D M)) :: many (L.map recR) :: rs) := s4.sel 7 [1, 2, 0, 3]
          have z3 := cell_in (show wr.heap[Z]? = _ from (s4.sel 6 [5]).head) 3
          have z4 := cell_in (show wr.heap[Z]? = _ from (s4.sel 6 [5]).head) 4
          clear s4
          have Hd := drop_any B (L.map re) _ T D wr s5 (by rw [List.length_map]; have := HV.out.mlen; omega)
          unfold Dropped at Hd
          rw [rkp_map] at Hd
          have hI2 := Lib.hid (HV.out.drop T D)
          have hl1 : ((L.map re).length : Int) = (M.length : Int) := by rw [List.length_map, HV.out.mlen]
          have hl2 : ((((L.filter fun r => keepE T D (entR r)).map re).length : Nat) : Int) = ((kpM T D M).length : Int) := by
            have := hI2.out.mlen
            rw [List.length_map]
            unfold kpM
            omega
          rw [hl1, hl2] at Hd
          clear hl1 hl2 s5
          have hw : IntKind.i64.wrap ((M.length : Int) - ((kpM T D M).length : Int)) = (M.length : Int) - ((kpM T D M).length : Int) := by
            have := kpM_len T D M
            rw [IntKind.wrap_i64]; omega
          go_wp2_with fail
          refine Hd.mono ?_
          rintro e w5 ⟨rfl, v5, s6⟩
          clear Hd z3 z4
          go_wp2_with fail
          refine bodyPost_ret (v := .tuple #[.slice a1 (kpM T D M).length c1, .bool true]) (by simp [results, Try.results23, go_sem]) rfl ?_
          refine ⟨v5, L.filter fun r => keepE T D (entR r), _, kpM T D M, rfl, ?_, hI2.out⟩
          have hsub : ((L.filter fun r => keepE T D (entR r)).map recR).Sublist (L.map recR) := List.filter_sublist.map _
          have s7 : Sep w0 w5 (many (L.map recR) :: row 36 7 v5 ((L.filter fun r => keepE T D (entR r)).map re).length (fl rc ((L.filter fun r => keepE T D (entR r)).map re)) :: blk B [v5] 68 :: row 86 6 (.slice a1 (kpM T D M).length c1) (kpM T D M).length (fl lnc (kpM T D M)) :: rs) := s6.sel 4 [3, 0, 1, 2]
          have s8 : Sep w0 w5 (many ((L.filter fun r => keepE T D (entR r)).map recR) :: _) := s7.step (L := []) (Only.refl _ _) (by simp) (many_sub s7.head hsub) (fun k hk => .inl (many_fp_sub hsub k hk))
          exact s8.sel 4 [1, 2, 0, 3]
end Go.Proofs.Ytdlbkdnpbcpjfaa
