/- EnvelopeBundles returns true for every Bundle: its bytes are the document's and are read back. No condition. -/
import Derived.Test.YtemlpjfngaemdaaEnvB
import Derived.Test.YtemlpjfngaemdaaEnvS
import Derived.Test.YtemlpjfngaemdaaOpenE
import Derived.Test.YtemlpjfngaemdaaBy
import Derived.Test.YtemlpjfngaemdaaSEnvelopeBundles
import Derived.Laws.StructEq
namespace Go.Proofs.Ytemlpjfngaemdaa
open Go.RowKit Go.Pw
set_option linter.unusedVariables false

theorem info_bundle : (Try.prog.info? 76).map (·.size) = some 10 := by kernel_rfl
theorem eq_who (a b c d : Int) (w : World) : (binOp .eql 34 (.agg #[.int .i64 a, .int .i64 b]) (.agg #[.int .i64 c, .int .i64 d])).run Try.prog w = .ok (.bool (a == c && b == d)) w := by
  have h : (Op.equalIn 10000 34 (.agg #[.int .i64 a, .int .i64 b]) (.agg #[.int .i64 c, .int .i64 d])).run Try.prog w = .ok (a == c && b == d) w := by
    have u3 := Try.underlying3
    rw [show (10000 : Nat) = 9999 + 1 from rfl, run_equalIn_agg w 9999 34 _ _ (by kernel_rfl) (by kernel_rfl)]
    simp only [Program.fieldsOf, Try.underlying34]
    go_simp
    by_cases h1 : a = c <;> by_cases h2 : b = d <;> simp [h1, h2]
  rw [run_eql_struct, h]
  rfl

theorem wrap_u32_i64 (u : Int) : u % 4294967296 = IntKind.u32.wrap u := by simp [IntKind.wrap, IntKind.bits, IntKind.signed]
set_option maxHeartbeats 800000 in
theorem small_any (u d : Int) (w : World) :
    Calls Try.prog 42 #[.agg #[.int .i64 u, .int .i64 d]] w fun e w' => e = .returned (.agg #[.int .i64 (IntKind.u32.wrap u), .int .i64 (IntKind.u32.wrap d)]) ∧ Only w w' [] := by
  rw [← wrap_u32_i64 u, ← wrap_u32_i64 d]
  go_enter Try.func42, Try.ntmps42
  go_wp2_with fail
  refine bodyPost_ret (v := .agg #[.int .i64 (u % 4294967296), .int .i64 (d % 4294967296)]) (by simp [results, Try.results42, go_sem]) rfl ⟨rfl, ?_⟩
  exact (Only.alloc _ _ []).trans (Only.alloc _ _ [])

theorem small_at (u d u2 d2 : Int) (hu : u2 = IntKind.u32.wrap u) (hd : d2 = IntKind.u32.wrap d) (w : World) :
    Calls Try.prog 42 #[.agg #[.int .i64 u, .int .i64 d]] w fun e w' => e = .returned (.agg #[.int .i64 u2, .int .i64 d2]) ∧ Only w w' [] := by
  subst hu hd
  exact small_any u d w

theorem wrap_wrap (u : Int) : IntKind.u32.wrap (IntKind.u32.wrap u) = IntKind.u32.wrap u := by simp [IntKind.wrap, IntKind.bits, IntKind.signed]
theorem byt_bundle {ags sgs ks qs os : List Int} (u d sg : Int) (has : Bool) (on : Int) (ba : Byt ags) (bs : Byt sgs) (bk : Byt ks) (bq : Byt qs) (bo : Byt os) : Byt (bundleB u d ags sgs sg ks qs has on os) :=
  ((((((((((be_byt _ _).app (be_byt _ _)).app (byt_ident ba bs)).app (be_byt _ _)).app (be_byt _ _)).app bk).app (be_byt _ _)).app bq).app (byt_flag _)).app (byt_if (((be_byt _ _).app (be_byt _ _)).app bo)))
theorem bundleB_len (u d : Int) (a s : List Int) (sg : Int) (k q : List Int) (has : Bool) (on : Int) (os : List Int) : (bundleB u d a s sg k q has on os).length ≤ a.length + s.length + k.length + q.length + os.length + 50 := by
  cases has <;> simp [bundleB, whoB_len, identB_len, be_len] <;> omega
theorem bundleB_again (u d : Int) (a s : List Int) (sg : Int) (k q : List Int) (has : Bool) (on : Int) (os : List Int) : bundleB (IntKind.u32.wrap u) (IntKind.u32.wrap d) a s sg k q has (if has then on else 0) (if has then os else []) = bundleB u d a s sg k q has on os := by
  cases has <;> simp [bundleB, whoB, wrap_wrap]

set_option maxRecDepth 100000 in
set_option maxHeartbeats 12800000 in
theorem bundles_walk (u d sg on : Int) (has : Bool) (ags sgs ks qs os : List Int) (aa az ak aq ao : Option Addr) (ca cz ck cq co : Nat) (w : World) (ha : Rd w (.slice aa ags.length ca) ags) (hs : Rd w (.slice az sgs.length cz) sgs) (hk : Rd w (.slice ak ks.length ck) ks) (hq : Rd w (.slice aq qs.length cq) qs) (ho : Rd w (.slice ao os.length co) os) (ba : Byt ags) (bs : Byt sgs) (bk : Byt ks) (bq : Byt qs) (bo : Byt os) (usg : U32 sg) (uon : U32 on) (la : ags.length ≤ 140737488351232) (ls : sgs.length ≤ 140737488351232) (lk : ks.length ≤ 140737488351232) (lq : qs.length ≤ 140737488351232) (lo : os.length ≤ 140737488351232) :
    Calls Try.prog 10 #[.agg #[.int .i64 u, .int .i64 d, .slice aa ags.length ca, .slice az sgs.length cz, .int .u32 sg, .slice ak ks.length ck, .slice aq qs.length cq, .bool has, .int .u32 on, .slice ao os.length co]] w fun e w' => e = .returned (.bool true) ∧ Below w.heap.size w w' := by
  have k0 := wrap_le (ks.length) qs.length (by omega) (by omega)
  have k1 := wrap_le (ks.length + qs.length) os.length (by omega) (by omega)
  have k2 := wrap_le (ks.length + qs.length + os.length) ags.length (by omega) (by omega)
  have k3 := wrap_le (ks.length + qs.length + os.length + ags.length) sgs.length (by omega) (by omega)
  by_cases hl : 2000 < ks.length + qs.length + os.length + ags.length + sgs.length
  · have d0 : decide ((2000 : Int) < ((ks.length + qs.length + os.length + ags.length + sgs.length : Nat) : Int)) = true := by simp; omega
    have d0' : decide ((2000 : Int) < (ks.length : Int) + (qs.length : Int) + (os.length : Int) + (ags.length : Int) + (sgs.length : Int)) = true := by simp; omega
    go_enter Try.func10, Try.ntmps10
    go_wp2_with fail
    obtain ⟨W, X, hW, hX, hbX, hoW, hX1, hX2⟩ := new_block w (.cells #[.int .i64 u, .int .i64 d, .slice aa ags.length ca, .slice az sgs.length cz, .int .u32 sg, .slice ak ks.length ck, .slice aq qs.length cq, .bool has, .int .u32 on, .slice ao os.length co] 76)
    rw [← hW, ← hX]
    clear hW hX
    refine (awake14 _).mono ?_
    rintro e w1 ⟨rfl, h1⟩
    have hX1' := h1.at hbX (by simp)
    have c2 := cell_in hX1' 2
    have c3 := cell_in hX1' 3
    have c5 := cell_in hX1' 5
    have c6 := cell_in hX1' 6
    have c9 := cell_in hX1' 9
    go_wp2_with fail
    refine (awake14 _).mono ?_
    rintro e w2 ⟨rfl, h2⟩
    go_wp2_with fail
    go_ret
    exact ⟨rfl, ((hoW.trans h1).trans h2).below (Nat.le_refl _) (by simp)⟩
  · have d0 : decide ((2000 : Int) < ((ks.length + qs.length + os.length + ags.length + sgs.length : Nat) : Int)) = false := by simp; omega
    have d0' : decide ((2000 : Int) < (ks.length : Int) + (qs.length : Int) + (os.length : Int) + (ags.length : Int) + (sgs.length : Int)) = false := by simp; omega
    go_enter Try.func10, Try.ntmps10
    go_wp2_with fail
    obtain ⟨W, X, hW, hX, hbX, hoW, hX1, hX2⟩ := new_block w (.cells #[.int .i64 u, .int .i64 d, .slice aa ags.length ca, .slice az sgs.length cz, .int .u32 sg, .slice ak ks.length ck, .slice aq qs.length cq, .bool has, .int .u32 on, .slice ao os.length co] 76)
    rw [← hW, ← hX]
    clear hW hX
    refine (awake14 _).mono ?_
    rintro e w1 ⟨rfl, h1⟩
    have hX1' := h1.at hbX (by simp)
    have c0 := cell_in hX1' 0
    have c1 := cell_in hX1' 1
    have c2 := cell_in hX1' 2
    have c3 := cell_in hX1' 3
    have c4 := cell_in hX1' 4
    have c5 := cell_in hX1' 5
    have c6 := cell_in hX1' 6
    have c7 := cell_in hX1' 7
    have c8 := cell_in hX1' 8
    have c9 := cell_in hX1' 9
    go_wp2_with fail
    have o1 := hoW.trans h1
    refine (encbundle_any u d sg on has _ _ _ _ _ ags sgs ks qs os _ (ha.new o1) (hs.new o1) (hk.new o1) (hq.new o1) (ho.new o1) usg uon (by omega)).mono fun e w2 hqq => ?_
    obtain ⟨ys, a1, q1, Hys, rfl, g1, g2, g3⟩ := hqq.name
    clear hqq c0 c1 c2 c3 c4 c5 c6 c7 c8 c9 k0 k1 k2 k3 d0 d0' hbX
    have hyb : Byt ys := by rw [Hys.out]; exact byt_bundle _ _ _ _ _ ba bs bk bq bo
    have hyl : ys.length ≤ 2100 := by rw [Hys.out]; have := bundleB_len u d ags sgs sg ks qs has on os; omega
    have hpy : pBd (ys, false) = (⟨IntKind.u32.wrap u, IntKind.u32.wrap d, ags, sgs, sg, ks, qs, has, if has then on else 0, if has then os else []⟩, [], false) := by
      rw [Hys.out]
      exact pBd_be u d ags sgs sg ks qs has on os (by omega) (by omega) (by omega) (by omega) (by omega) usg uon
    obtain ⟨on2, hon2⟩ : ∃ z, z = (if has then on else 0) := ⟨_, rfl⟩
    obtain ⟨os2, hos2⟩ : ∃ z, z = (if has then os else []) := ⟨_, rfl⟩
    rw [← hon2, ← hos2] at hpy
    have uon2 : U32 on2 := by rw [hon2]; cases has; exact ⟨by simp, by simp⟩; exact uon
    have los2 : os2.length ≤ os.length := by rw [hos2]; cases has <;> simp
    have Hag := Lib.hid (bundleB_again u d ags sgs sg ks qs has on os)
    obtain ⟨u2, hu2⟩ : ∃ z, z = IntKind.u32.wrap u := ⟨_, rfl⟩
    obtain ⟨d2, hd2⟩ : ∃ z, z = IntKind.u32.wrap d := ⟨_, rfl⟩
    rw [← hon2, ← hos2, ← hu2, ← hd2] at Hag
    rw [← hu2, ← hd2] at hpy
    have Hu2 := Lib.hid hu2
    have Hd2 := Lib.hid hd2
    clear hon2 hos2 hu2 hd2
    go_wp2_with fail
    refine (decbundle_any _ ys w2 (own_rd g1) hyb (by omega)).mono ?_
    rintro e w3 ⟨a, s, hd, ho3, hcase⟩
    rw [hpy] at hd
    simp only [Prod.mk.injEq] at hd
    obtain ⟨rfl, rfl⟩ := hd
    clear hpy
    rcases hcase with ⟨_, va, vs, vk, vq, vo, rfl, hg⟩ | ⟨h0, _⟩
    case inr => simp [Ends] at h0
    obtain ⟨⟨aa', ca', rfl⟩, _⟩ := id hg.ga
    obtain ⟨⟨az', cz', rfl⟩, _⟩ := id hg.gs
    obtain ⟨⟨ak', ck', rfl⟩, _⟩ := id hg.gk
    obtain ⟨⟨aq', cq', rfl⟩, _⟩ := id hg.gq
    obtain ⟨⟨ao', co', rfl⟩, _⟩ := id hg.go
    unfold bdV
    simp only at hg ⊢
    go_wp2_with fail
    obtain ⟨V, Y, hW, hY, hbYV, hoY, hY1, hY2⟩ := new_block w3 (.cells #[.int .i64 u2, .int .i64 d2, .slice aa' ags.length ca', .slice az' sgs.length cz', .int .u32 sg, .slice ak' ks.length ck', .slice aq' qs.length cq', .bool has, .int .u32 on2, .slice ao' os2.length co'] 76)
    rw [← hW, ← hY]
    clear hW hY
    have oVV := o1.trans (g3.trans (ho3.trans hoY))
    have hbXV := (g3.trans (ho3.trans hoY)).at hX1' (by simp)
    have kys := (own_rd g1).new (ho3.trans hoY)
    have hgV := hg.next hoY (by simp)
    have ka := ha.new oVV
    have kS := hs.new oVV
    have kk := hk.new oVV
    have kq := hq.new oVV
    have ko := ho.new oVV
    clear hX1' g1 g2 hg hyb
    have hod := Only.drew V []
    refine wp_region_held_drew (S := fun w' => Only V.drew w' []) (by kernel_rfl) (Only.refl _ _) (fun hHeld => ?_)
    refine' wpAnyH_take (i := 0) (v := _) (op_at rfl) (by kernel_rfl) (by kernel_rfl) (by kernel_rfl) (fun _ _ _ h => h) (Or.inl ⟨by rfl, ?hy1⟩) (by assumption) ?rest1
    case hy1 =>
      intro w' hS
      go_simp
      try with_reducible rfl
    try simp only [Act.put, List.setIfInBounds_toArray, List.set_cons_zero, List.set_cons_succ]
    refine' wpAnyH_take (i := 1) (v := _) (op_at rfl) (by kernel_rfl) (by kernel_rfl) (by kernel_rfl) (fun _ _ _ h => h) (Or.inl ⟨by rfl, ?hy2⟩) (by assumption) ?rest2
    case hy2 =>
      intro w' hS
      have hs := run_str (P := Try.prog) (w := w') (S := 22) (T := 9) Try.underlying22 Try.underlying5 Try.underlying9 (Rd.new kys (hod.trans hS)) rfl
      go_simp
      try with_reducible rfl
    try simp only [Act.put, List.setIfInBounds_toArray, List.set_cons_zero, List.set_cons_succ]
    refine wpAnyH_take (i := 2) (op_at rfl) (by kernel_rfl) (by kernel_rfl) (by kernel_rfl) (fun _ _ _ h => h) (yieldsIf_load_mid (by rfl) _ _ rfl X 0 rfl [.int .i64 u, .int .i64 d, .slice aa ags.length ca, .slice az sgs.length cz, .int .u32 sg, .slice ak ks.length ck, .slice aq qs.length cq, .bool has, .int .u32 on, .slice ao os.length co] _ (fun w' hS => range_of ((hod.trans hS).at hbXV (by simp))) Try.underlying76 (by rfl) info_bundle) (by assumption) ?_
    try simp only [Act.put, List.setIfInBounds_toArray, List.set_cons_zero, List.set_cons_succ]
    refine wpAnyH_ready (rs := [3]) (by kernel_rfl) (by simp) (AllReadyH.cons (op_at rfl) (fun K hK => ?_) AllReadyH.nil)
    go_simp
    refine (rfbundle_any u d sg on has _ _ _ _ _ ags sgs ks qs os _ (ka.new hod) (kS.new hod) (kk.new hod) (kq.new hod) (ko.new hod) usg uon (by omega)).mono fun e w6 hqq => ?_
    obtain ⟨zs, a6, k6, Hzs, rfl, p1, p2, p3⟩ := hqq.name
    clear hqq
    go_wp2_with fail
    refine hK.out _ _ p3 (fun hHeld1 => ?_)
    clear hK K
    try simp only [Act.put, List.setIfInBounds_toArray, List.set_cons_zero, List.set_cons_succ]
    refine wpAnyH_more (S' := fun w' => Only w6 w' []) (fun w' h => Only.trans p3 h) _ _ _ _ ?_
    clear hHeld hHeld1
    have hHeld : Only w6 w6 [] := Only.refl _ _
    have p4 := hod.trans p3
    have hzy : zs = ys := by rw [Hzs.out, Hys.out]
    subst hzy
    refine' wpAnyH_take (i := 4) (v := _) (op_at rfl) (by kernel_rfl) (by kernel_rfl) (by kernel_rfl) (fun _ _ _ h => h) (Or.inl ⟨by rfl, ?hy3⟩) (by assumption) ?rest3
    case hy3 =>
      intro w' hS
      have hs := run_str (P := Try.prog) (w := w') (S := 22) (T := 9) Try.underlying22 Try.underlying5 Try.underlying9 ((own_rd p1).new hS) rfl
      go_simp
      try with_reducible rfl
    try simp only [Act.put, List.setIfInBounds_toArray, List.set_cons_zero, List.set_cons_succ]
    refine' wpAnyH_take (i := 5) (v := _) (op_at rfl) (by kernel_rfl) (by kernel_rfl) (by kernel_rfl) (fun _ _ _ h => h) (Or.inl ⟨by rfl, ?hy4⟩) (by assumption) ?rest4
    case hy4 =>
      intro w' hS
      go_simp
      try with_reducible rfl
    try simp only [Act.put, List.setIfInBounds_toArray, List.set_cons_zero, List.set_cons_succ]
    refine' wpAnyH_take (i := 6) (v := _) (op_at rfl) (by kernel_rfl) (by kernel_rfl) (by kernel_rfl) (fun _ _ _ h => h) (Or.inl ⟨by rfl, ?hy5⟩) (by assumption) ?rest5
    case hy5 =>
      intro w' hS
      go_simp
      try with_reducible rfl
    try simp only [Act.put, List.setIfInBounds_toArray, List.set_cons_zero, List.set_cons_succ]
    refine' wpAnyH_take (i := 7) (v := _) (op_at rfl) (by kernel_rfl) (by kernel_rfl) (by kernel_rfl) (fun _ _ _ h => h) (Or.inl ⟨by rfl, ?hy6⟩) (by assumption) ?rest6
    case hy6 =>
      intro w' hS
      go_simp
      try with_reducible rfl
    try simp only [Act.put, List.setIfInBounds_toArray, List.set_cons_zero, List.set_cons_succ]
    refine' wpAnyH_take (i := 8) (v := _) (op_at rfl) (by kernel_rfl) (by kernel_rfl) (by kernel_rfl) (fun _ _ _ h => h) (Or.inl ⟨by rfl, ?hy7⟩) (by assumption) ?rest7
    case hy7 =>
      intro w' hS
      go_simp
      try with_reducible rfl
    try simp only [Act.put, List.setIfInBounds_toArray, List.set_cons_zero, List.set_cons_succ]
    refine' wpAnyH_take (i := 9) (v := _) (op_at rfl) (by kernel_rfl) (by kernel_rfl) (by kernel_rfl) (fun _ _ _ h => h) (Or.inl ⟨by rfl, ?hy8⟩) (by assumption) ?rest8
    case hy8 =>
      intro w' hS
      go_simp
      try with_reducible rfl
    try simp only [Act.put, List.setIfInBounds_toArray, List.set_cons_zero, List.set_cons_succ]
    refine' wpAnyH_take (i := 10) (v := _) (op_at rfl) (by kernel_rfl) (by kernel_rfl) (by kernel_rfl) (fun _ _ _ h => h) (Or.inl ⟨by rfl, ?hy9⟩) (by assumption) ?rest9
    case hy9 =>
      intro w' hS
      go_simp
      try with_reducible rfl
    try simp only [Act.put, List.setIfInBounds_toArray, List.set_cons_zero, List.set_cons_succ]
    refine wpAnyH_take (i := 11) (op_at rfl) (by kernel_rfl) (by kernel_rfl) (by kernel_rfl) (fun _ _ _ h => h) (yieldsIf_load_mid (by rfl) _ _ rfl Y 0 rfl [.int .i64 u2, .int .i64 d2, .slice aa' ags.length ca', .slice az' sgs.length cz', .int .u32 sg, .slice ak' ks.length ck', .slice aq' qs.length cq', .bool has, .int .u32 on2, .slice ao' os2.length co'] _ (fun w' hS => range_of ((p4.trans hS).at hbYV (by simp))) Try.underlying76 (by rfl) info_bundle) (by assumption) ?_
    try simp only [Act.put, List.setIfInBounds_toArray, List.set_cons_zero, List.set_cons_succ]
    refine' wpAnyH_take (i := 14) (v := _) (op_at rfl) (by kernel_rfl) (by kernel_rfl) (by kernel_rfl) (fun _ _ _ h => h) (Or.inl ⟨by rfl, ?hy10⟩) (by assumption) ?rest10
    case hy10 =>
      intro w' hS
      go_simp
      try with_reducible rfl
    try simp only [Act.put, List.setIfInBounds_toArray, List.set_cons_zero, List.set_cons_succ]
    refine' wpAnyH_take (i := 15) (v := _) (op_at rfl) (by kernel_rfl) (by kernel_rfl) (by kernel_rfl) (fun _ _ _ h => h) (Or.inl ⟨by rfl, ?hy11⟩) (by assumption) ?rest11
    case hy11 =>
      intro w' hS
      have hs := run_str (P := Try.prog) (w := w') (S := 22) (T := 9) Try.underlying22 Try.underlying5 Try.underlying9 (Rd.new kys (p4.trans hS)) rfl
      go_simp
      try with_reducible rfl
    try simp only [Act.put, List.setIfInBounds_toArray, List.set_cons_zero, List.set_cons_succ]
    refine wpAnyH_ready (rs := [12]) (by kernel_rfl) (by simp) (AllReadyH.cons (op_at rfl) (fun K hK => ?_) AllReadyH.nil)
    go_simp
    refine (encbundle_any u2 d2 sg on2 has _ _ _ _ _ ags sgs ks qs os2 _ (Rd.new hgV.ga.2.1 p4) (Rd.new hgV.gs.2.1 p4) (Rd.new hgV.gk.2.1 p4) (Rd.new hgV.gq.2.1 p4) (Rd.new hgV.go.2.1 p4) usg uon2 (by omega)).mono fun e w7 hqq => ?_
    obtain ⟨us, a7, k7, Hus, rfl, r1, r2, r3⟩ := hqq.name
    clear hqq
    go_wp2_with fail
    refine hK.out _ _ r3 (fun hHeld1 => ?_)
    clear hK K
    try simp only [Act.put, List.setIfInBounds_toArray, List.set_cons_zero, List.set_cons_succ]
    refine wpAnyH_more (S' := fun w' => Only w7 w' []) (fun w' h => Only.trans r3 h) _ _ _ _ ?_
    clear hHeld hHeld1
    have hHeld : Only w7 w7 [] := Only.refl _ _
    have p6 := p4.trans r3
    have huz : us = zs := by rw [Hus.out, Hzs.out, Hag.out]
    subst huz
    refine' wpAnyH_take (i := 13) (v := _) (op_at rfl) (by kernel_rfl) (by kernel_rfl) (by kernel_rfl) (fun _ _ _ h => h) (Or.inl ⟨by rfl, ?hy12⟩) (by assumption) ?rest12
    case hy12 =>
      intro w' hS
      have hs := run_str (P := Try.prog) (w := w') (S := 22) (T := 9) Try.underlying22 Try.underlying5 Try.underlying9 ((own_rd r1).new hS) rfl
      go_simp
      try with_reducible rfl
    try simp only [Act.put, List.setIfInBounds_toArray, List.set_cons_zero, List.set_cons_succ]
    refine' wpAnyH_take (i := 16) (v := _) (op_at rfl) (by kernel_rfl) (by kernel_rfl) (by kernel_rfl) (fun _ _ _ h => h) (Or.inl ⟨by rfl, ?hy13⟩) (by assumption) ?rest13
    case hy13 =>
      intro w' hS
      go_simp
      try with_reducible rfl
    try simp only [Act.put, List.setIfInBounds_toArray, List.set_cons_zero, List.set_cons_succ]
    refine' wpAnyH_take (i := 17) (v := _) (op_at rfl) (by kernel_rfl) (by kernel_rfl) (by kernel_rfl) (fun _ _ _ h => h) (Or.inl ⟨by rfl, ?hy14⟩) (by assumption) ?rest14
    case hy14 =>
      intro w' hS
      go_simp
      try with_reducible rfl
    try simp only [Act.put, List.setIfInBounds_toArray, List.set_cons_zero, List.set_cons_succ]
    refine' wpAnyH_take (i := 18) (v := _) (op_at rfl) (by kernel_rfl) (by kernel_rfl) (by kernel_rfl) (fun _ _ _ h => h) (Or.inl ⟨by rfl, ?hy15⟩) (by assumption) ?rest15
    case hy15 =>
      intro w' hS
      go_simp
      try with_reducible rfl
    try simp only [Act.put, List.setIfInBounds_toArray, List.set_cons_zero, List.set_cons_succ]
    refine' wpAnyH_take (i := 19) (v := _) (op_at rfl) (by kernel_rfl) (by kernel_rfl) (by kernel_rfl) (fun _ _ _ h => h) (Or.inl ⟨by rfl, ?hy16⟩) (by assumption) ?rest16
    case hy16 =>
      intro w' hS
      go_simp
      try with_reducible rfl
    try simp only [Act.put, List.setIfInBounds_toArray, List.set_cons_zero, List.set_cons_succ]
    refine' wpAnyH_take (i := 20) (v := _) (op_at rfl) (by kernel_rfl) (by kernel_rfl) (by kernel_rfl) (fun _ _ _ h => h) (Or.inl ⟨by rfl, ?hy17⟩) (by assumption) ?rest17
    case hy17 =>
      intro w' hS
      have q0 := cell_in ((p6.trans hS).at hbYV (by simp)) 0
      have q1 := cell_in ((p6.trans hS).at hbYV (by simp)) 1
      go_simp
      try with_reducible rfl
    try simp only [Act.put, List.setIfInBounds_toArray, List.set_cons_zero, List.set_cons_succ]
    refine' wpAnyH_take (i := 21) (v := _) (op_at rfl) (by kernel_rfl) (by kernel_rfl) (by kernel_rfl) (fun _ _ _ h => h) (Or.inl ⟨by rfl, ?hy18⟩) (by assumption) ?rest18
    case hy18 =>
      intro w' hS
      go_simp
      try with_reducible rfl
    try simp only [Act.put, List.setIfInBounds_toArray, List.set_cons_zero, List.set_cons_succ]
    refine' wpAnyH_take (i := 22) (v := _) (op_at rfl) (by kernel_rfl) (by kernel_rfl) (by kernel_rfl) (fun _ _ _ h => h) (Or.inl ⟨by rfl, ?hy19⟩) (by assumption) ?rest19
    case hy19 =>
      intro w' hS
      have q0 := cell_in ((p6.trans hS).at hbXV (by simp)) 0
      have q1 := cell_in ((p6.trans hS).at hbXV (by simp)) 1
      go_simp
      try with_reducible rfl
    try simp only [Act.put, List.setIfInBounds_toArray, List.set_cons_zero, List.set_cons_succ]
    refine wpAnyH_ready (rs := [23]) (by kernel_rfl) (by simp) (AllReadyH.cons (op_at rfl) (fun K hK => ?_) AllReadyH.nil)
    go_simp
    refine (small_at u d u2 d2 Hu2.out Hd2.out _).mono ?_
    rintro e w8 ⟨rfl, t3⟩
    go_wp2_with fail
    refine hK.out _ _ t3 (fun hHeld1 => ?_)
    clear hK K
    try simp only [Act.put, List.setIfInBounds_toArray, List.set_cons_zero, List.set_cons_succ]
    refine wpAnyH_more (S' := fun w' => Only w8 w' []) (fun w' h => Only.trans t3 h) _ _ _ _ ?_
    clear hHeld hHeld1
    have hHeld : Only w8 w8 [] := Only.refl _ _
    have p8 := p6.trans t3
    refine' wpAnyH_take (i := 24) (v := _) (op_at rfl) (by kernel_rfl) (by kernel_rfl) (by kernel_rfl) (fun _ _ _ h => h) (Or.inl ⟨by rfl, ?hy20⟩) (by assumption) ?rest20
    case hy20 =>
      intro w' hS
      have q := eq_who u2 d2 u2 d2 w'
      go_simp
      try with_reducible rfl
    try simp only [Act.put, List.setIfInBounds_toArray, List.set_cons_zero, List.set_cons_succ]
    refine' wpAnyH_take (i := 25) (v := _) (op_at rfl) (by kernel_rfl) (by kernel_rfl) (by kernel_rfl) (fun _ _ _ h => h) (Or.inl ⟨by rfl, ?hy21⟩) (by assumption) ?rest21
    case hy21 =>
      intro w' hS
      go_simp
      try with_reducible rfl
    try simp only [Act.put, List.setIfInBounds_toArray, List.set_cons_zero, List.set_cons_succ]
    refine' wpAnyH_take (i := 26) (v := _) (op_at rfl) (by kernel_rfl) (by kernel_rfl) (by kernel_rfl) (fun _ _ _ h => h) (Or.inl ⟨by rfl, ?hy22⟩) (by assumption) ?rest22
    case hy22 =>
      intro w' hS
      go_simp
      try with_reducible rfl
    try simp only [Act.put, List.setIfInBounds_toArray, List.set_cons_zero, List.set_cons_succ]
    refine' wpAnyH_take (i := 27) (v := _) (op_at rfl) (by kernel_rfl) (by kernel_rfl) (by kernel_rfl) (fun _ _ _ h => h) (Or.inl ⟨by rfl, ?hy23⟩) (by assumption) ?rest23
    case hy23 =>
      intro w' hS
      go_simp
      try with_reducible rfl
    try simp only [Act.put, List.setIfInBounds_toArray, List.set_cons_zero, List.set_cons_succ]
    refine' wpAnyH_take (i := 28) (v := _) (op_at rfl) (by kernel_rfl) (by kernel_rfl) (by kernel_rfl) (fun _ _ _ h => h) (Or.inl ⟨by rfl, ?hy24⟩) (by assumption) ?rest24
    case hy24 =>
      intro w' hS
      have q4 := cell_in ((p8.trans hS).at hbYV (by simp)) 4
      go_simp
      try with_reducible rfl
    try simp only [Act.put, List.setIfInBounds_toArray, List.set_cons_zero, List.set_cons_succ]
    refine' wpAnyH_take (i := 29) (v := _) (op_at rfl) (by kernel_rfl) (by kernel_rfl) (by kernel_rfl) (fun _ _ _ h => h) (Or.inl ⟨by rfl, ?hy25⟩) (by assumption) ?rest25
    case hy25 =>
      intro w' hS
      go_simp
      try with_reducible rfl
    try simp only [Act.put, List.setIfInBounds_toArray, List.set_cons_zero, List.set_cons_succ]
    refine' wpAnyH_take (i := 30) (v := _) (op_at rfl) (by kernel_rfl) (by kernel_rfl) (by kernel_rfl) (fun _ _ _ h => h) (Or.inl ⟨by rfl, ?hy26⟩) (by assumption) ?rest26
    case hy26 =>
      intro w' hS
      have q4 := cell_in ((p8.trans hS).at hbXV (by simp)) 4
      go_simp
      try with_reducible rfl
    try simp only [Act.put, List.setIfInBounds_toArray, List.set_cons_zero, List.set_cons_succ]
    refine' wpAnyH_take (i := 31) (v := _) (op_at rfl) (by kernel_rfl) (by kernel_rfl) (by kernel_rfl) (fun _ _ _ h => h) (Or.inl ⟨by rfl, ?hy27⟩) (by assumption) ?rest27
    case hy27 =>
      intro w' hS
      go_simp
      try with_reducible rfl
    try simp only [Act.put, List.setIfInBounds_toArray, List.set_cons_zero, List.set_cons_succ]
    refine' wpAnyH_take (i := 32) (v := _) (op_at rfl) (by kernel_rfl) (by kernel_rfl) (by kernel_rfl) (fun _ _ _ h => h) (Or.inl ⟨by rfl, ?hy28⟩) (by assumption) ?rest28
    case hy28 =>
      intro w' hS
      go_simp
      try with_reducible rfl
    try simp only [Act.put, List.setIfInBounds_toArray, List.set_cons_zero, List.set_cons_succ]
    refine' wpAnyH_take (i := 33) (v := _) (op_at rfl) (by kernel_rfl) (by kernel_rfl) (by kernel_rfl) (fun _ _ _ h => h) (Or.inl ⟨by rfl, ?hy29⟩) (by assumption) ?rest29
    case hy29 =>
      intro w' hS
      go_simp
      try with_reducible rfl
    try simp only [Act.put, List.setIfInBounds_toArray, List.set_cons_zero, List.set_cons_succ]
    refine' wpAnyH_take (i := 34) (v := _) (op_at rfl) (by kernel_rfl) (by kernel_rfl) (by kernel_rfl) (fun _ _ _ h => h) (Or.inl ⟨by rfl, ?hy30⟩) (by assumption) ?rest30
    case hy30 =>
      intro w' hS
      go_simp
      try with_reducible rfl
    try simp only [Act.put, List.setIfInBounds_toArray, List.set_cons_zero, List.set_cons_succ]
    refine' wpAnyH_take (i := 35) (v := _) (op_at rfl) (by kernel_rfl) (by kernel_rfl) (by kernel_rfl) (fun _ _ _ h => h) (Or.inl ⟨by rfl, ?hy31⟩) (by assumption) ?rest31
    case hy31 =>
      intro w' hS
      have q7 := cell_in ((p8.trans hS).at hbYV (by simp)) 7
      go_simp
      try with_reducible rfl
    try simp only [Act.put, List.setIfInBounds_toArray, List.set_cons_zero, List.set_cons_succ]
    refine' wpAnyH_take (i := 36) (v := _) (op_at rfl) (by kernel_rfl) (by kernel_rfl) (by kernel_rfl) (fun _ _ _ h => h) (Or.inl ⟨by rfl, ?hy32⟩) (by assumption) ?rest32
    case hy32 =>
      intro w' hS
      go_simp
      try with_reducible rfl
    try simp only [Act.put, List.setIfInBounds_toArray, List.set_cons_zero, List.set_cons_succ]
    refine' wpAnyH_take (i := 37) (v := _) (op_at rfl) (by kernel_rfl) (by kernel_rfl) (by kernel_rfl) (fun _ _ _ h => h) (Or.inl ⟨by rfl, ?hy33⟩) (by assumption) ?rest33
    case hy33 =>
      intro w' hS
      have q7 := cell_in ((p8.trans hS).at hbXV (by simp)) 7
      go_simp
      try with_reducible rfl
    try simp only [Act.put, List.setIfInBounds_toArray, List.set_cons_zero, List.set_cons_succ]
    refine' wpAnyH_take (i := 38) (v := _) (op_at rfl) (by kernel_rfl) (by kernel_rfl) (by kernel_rfl) (fun _ _ _ h => h) (Or.inl ⟨by rfl, ?hy34⟩) (by assumption) ?rest34
    case hy34 =>
      intro w' hS
      go_simp
      try with_reducible rfl
    try simp only [Act.put, List.setIfInBounds_toArray, List.set_cons_zero, List.set_cons_succ]
    refine' wpAnyH_take (i := 39) (v := _) (op_at rfl) (by kernel_rfl) (by kernel_rfl) (by kernel_rfl) (fun _ _ _ h => h) (Or.inl ⟨by rfl, ?hy35⟩) (by assumption) ?rest35
    case hy35 =>
      intro w' hS
      go_simp
      try with_reducible rfl
    try simp only [Act.put, List.setIfInBounds_toArray, List.set_cons_zero, List.set_cons_succ]
    refine' wpAnyH_take (i := 40) (v := _) (op_at rfl) (by kernel_rfl) (by kernel_rfl) (by kernel_rfl) (fun _ _ _ h => h) (Or.inl ⟨by rfl, ?hy36⟩) (by assumption) ?rest36
    case hy36 =>
      intro w' hS
      go_simp
      try with_reducible rfl
    try simp only [Act.put, List.setIfInBounds_toArray, List.set_cons_zero, List.set_cons_succ]
    refine' wpAnyH_take (i := 41) (v := _) (op_at rfl) (by kernel_rfl) (by kernel_rfl) (by kernel_rfl) (fun _ _ _ h => h) (Or.inl ⟨by rfl, ?hy37⟩) (by assumption) ?rest37
    case hy37 =>
      intro w' hS
      go_simp
      try with_reducible rfl
    try simp only [Act.put, List.setIfInBounds_toArray, List.set_cons_zero, List.set_cons_succ]
    refine' wpAnyH_take (i := 42) (v := _) (op_at rfl) (by kernel_rfl) (by kernel_rfl) (by kernel_rfl) (fun _ _ _ h => h) (Or.inl ⟨by rfl, ?hy38⟩) (by assumption) ?rest38
    case hy38 =>
      intro w' hS
      have q5 := cell_in ((p8.trans hS).at hbYV (by simp)) 5
      go_simp
      try with_reducible rfl
    try simp only [Act.put, List.setIfInBounds_toArray, List.set_cons_zero, List.set_cons_succ]
    refine' wpAnyH_take (i := 43) (v := _) (op_at rfl) (by kernel_rfl) (by kernel_rfl) (by kernel_rfl) (fun _ _ _ h => h) (Or.inl ⟨by rfl, ?hy39⟩) (by assumption) ?rest39
    case hy39 =>
      intro w' hS
      have hs := run_str (P := Try.prog) (w := w') (S := 22) (T := 9) Try.underlying22 Try.underlying5 Try.underlying9 (Rd.new hgV.gk.2.1 (p8.trans hS)) rfl
      go_simp
      try with_reducible rfl
    try simp only [Act.put, List.setIfInBounds_toArray, List.set_cons_zero, List.set_cons_succ]
    refine' wpAnyH_take (i := 44) (v := _) (op_at rfl) (by kernel_rfl) (by kernel_rfl) (by kernel_rfl) (fun _ _ _ h => h) (Or.inl ⟨by rfl, ?hy40⟩) (by assumption) ?rest40
    case hy40 =>
      intro w' hS
      go_simp
      try with_reducible rfl
    try simp only [Act.put, List.setIfInBounds_toArray, List.set_cons_zero, List.set_cons_succ]
    refine' wpAnyH_take (i := 45) (v := _) (op_at rfl) (by kernel_rfl) (by kernel_rfl) (by kernel_rfl) (fun _ _ _ h => h) (Or.inl ⟨by rfl, ?hy41⟩) (by assumption) ?rest41
    case hy41 =>
      intro w' hS
      have q5 := cell_in ((p8.trans hS).at hbXV (by simp)) 5
      go_simp
      try with_reducible rfl
    try simp only [Act.put, List.setIfInBounds_toArray, List.set_cons_zero, List.set_cons_succ]
    refine' wpAnyH_take (i := 46) (v := _) (op_at rfl) (by kernel_rfl) (by kernel_rfl) (by kernel_rfl) (fun _ _ _ h => h) (Or.inl ⟨by rfl, ?hy42⟩) (by assumption) ?rest42
    case hy42 =>
      intro w' hS
      have hs := run_str (P := Try.prog) (w := w') (S := 22) (T := 9) Try.underlying22 Try.underlying5 Try.underlying9 (Rd.new kk (p8.trans hS)) rfl
      go_simp
      try with_reducible rfl
    try simp only [Act.put, List.setIfInBounds_toArray, List.set_cons_zero, List.set_cons_succ]
    refine' wpAnyH_take (i := 47) (v := _) (op_at rfl) (by kernel_rfl) (by kernel_rfl) (by kernel_rfl) (fun _ _ _ h => h) (Or.inl ⟨by rfl, ?hy43⟩) (by assumption) ?rest43
    case hy43 =>
      intro w' hS
      go_simp
      try with_reducible rfl
    try simp only [Act.put, List.setIfInBounds_toArray, List.set_cons_zero, List.set_cons_succ]
    refine' wpAnyH_take (i := 48) (v := _) (op_at rfl) (by kernel_rfl) (by kernel_rfl) (by kernel_rfl) (fun _ _ _ h => h) (Or.inl ⟨by rfl, ?hy44⟩) (by assumption) ?rest44
    case hy44 =>
      intro w' hS
      go_simp
      try with_reducible rfl
    try simp only [Act.put, List.setIfInBounds_toArray, List.set_cons_zero, List.set_cons_succ]
    refine' wpAnyH_take (i := 49) (v := _) (op_at rfl) (by kernel_rfl) (by kernel_rfl) (by kernel_rfl) (fun _ _ _ h => h) (Or.inl ⟨by rfl, ?hy45⟩) (by assumption) ?rest45
    case hy45 =>
      intro w' hS
      go_simp
      try with_reducible rfl
    try simp only [Act.put, List.setIfInBounds_toArray, List.set_cons_zero, List.set_cons_succ]
    refine' wpAnyH_take (i := 50) (v := _) (op_at rfl) (by kernel_rfl) (by kernel_rfl) (by kernel_rfl) (fun _ _ _ h => h) (Or.inl ⟨by rfl, ?hy46⟩) (by assumption) ?rest46
    case hy46 =>
      intro w' hS
      go_simp
      try with_reducible rfl
    try simp only [Act.put, List.setIfInBounds_toArray, List.set_cons_zero, List.set_cons_succ]
    refine' wpAnyH_take (i := 51) (v := _) (op_at rfl) (by kernel_rfl) (by kernel_rfl) (by kernel_rfl) (fun _ _ _ h => h) (Or.inl ⟨by rfl, ?hy47⟩) (by assumption) ?rest47
    case hy47 =>
      intro w' hS
      have q6 := cell_in ((p8.trans hS).at hbYV (by simp)) 6
      go_simp
      try with_reducible rfl
    try simp only [Act.put, List.setIfInBounds_toArray, List.set_cons_zero, List.set_cons_succ]
    refine' wpAnyH_take (i := 52) (v := _) (op_at rfl) (by kernel_rfl) (by kernel_rfl) (by kernel_rfl) (fun _ _ _ h => h) (Or.inl ⟨by rfl, ?hy48⟩) (by assumption) ?rest48
    case hy48 =>
      intro w' hS
      have hs := run_str (P := Try.prog) (w := w') (S := 22) (T := 9) Try.underlying22 Try.underlying5 Try.underlying9 (Rd.new hgV.gq.2.1 (p8.trans hS)) rfl
      go_simp
      try with_reducible rfl
    try simp only [Act.put, List.setIfInBounds_toArray, List.set_cons_zero, List.set_cons_succ]
    refine' wpAnyH_take (i := 53) (v := _) (op_at rfl) (by kernel_rfl) (by kernel_rfl) (by kernel_rfl) (fun _ _ _ h => h) (Or.inl ⟨by rfl, ?hy49⟩) (by assumption) ?rest49
    case hy49 =>
      intro w' hS
      go_simp
      try with_reducible rfl
    try simp only [Act.put, List.setIfInBounds_toArray, List.set_cons_zero, List.set_cons_succ]
    refine' wpAnyH_take (i := 54) (v := _) (op_at rfl) (by kernel_rfl) (by kernel_rfl) (by kernel_rfl) (fun _ _ _ h => h) (Or.inl ⟨by rfl, ?hy50⟩) (by assumption) ?rest50
    case hy50 =>
      intro w' hS
      have q6 := cell_in ((p8.trans hS).at hbXV (by simp)) 6
      go_simp
      try with_reducible rfl
    try simp only [Act.put, List.setIfInBounds_toArray, List.set_cons_zero, List.set_cons_succ]
    refine' wpAnyH_take (i := 55) (v := _) (op_at rfl) (by kernel_rfl) (by kernel_rfl) (by kernel_rfl) (fun _ _ _ h => h) (Or.inl ⟨by rfl, ?hy51⟩) (by assumption) ?rest51
    case hy51 =>
      intro w' hS
      have hs := run_str (P := Try.prog) (w := w') (S := 22) (T := 9) Try.underlying22 Try.underlying5 Try.underlying9 (Rd.new kq (p8.trans hS)) rfl
      go_simp
      try with_reducible rfl
    try simp only [Act.put, List.setIfInBounds_toArray, List.set_cons_zero, List.set_cons_succ]
    refine' wpAnyH_take (i := 56) (v := _) (op_at rfl) (by kernel_rfl) (by kernel_rfl) (by kernel_rfl) (fun _ _ _ h => h) (Or.inl ⟨by rfl, ?hy52⟩) (by assumption) ?rest52
    case hy52 =>
      intro w' hS
      go_simp
      try with_reducible rfl
    try simp only [Act.put, List.setIfInBounds_toArray, List.set_cons_zero, List.set_cons_succ]
    refine' wpAnyH_take (i := 57) (v := _) (op_at rfl) (by kernel_rfl) (by kernel_rfl) (by kernel_rfl) (fun _ _ _ h => h) (Or.inl ⟨by rfl, ?hy53⟩) (by assumption) ?rest53
    case hy53 =>
      intro w' hS
      go_simp
      try with_reducible rfl
    try simp only [Act.put, List.setIfInBounds_toArray, List.set_cons_zero, List.set_cons_succ]
    refine' wpAnyH_take (i := 58) (v := _) (op_at rfl) (by kernel_rfl) (by kernel_rfl) (by kernel_rfl) (fun _ _ _ h => h) (Or.inl ⟨by rfl, ?hy54⟩) (by assumption) ?rest54
    case hy54 =>
      intro w' hS
      go_simp
      try with_reducible rfl
    try simp only [Act.put, List.setIfInBounds_toArray, List.set_cons_zero, List.set_cons_succ]
    refine wpAnyH_done (by kernel_rfl) ?_ _
    go_wp2_with fail
    go_ret
    exact ⟨rfl, (oVV.trans p8).below (Nat.le_refl _) (by simp)⟩

theorem envelopeBundles_holds : Rows.EnvelopeBundlesSaid := envelopeBundles.said fun H enc base W v0 d0 p0 h0 t0 z0 => by
  obtain ⟨_, _, _, _, _, _, _, _, _, _, rfl, ⟨u, rfl⟩, ⟨d, rfl⟩, ⟨aa, ca, ags, rfl, ga, ba, la⟩, ⟨az, cz, sgs, rfl, gs, bs, ls⟩, ⟨sg, rfl, usg⟩, ⟨ak, ck, ks, rfl, gk, bk, lk⟩, ⟨aq, cq, qs, rfl, gq, bq, lq⟩, ⟨has, rfl⟩, ⟨on, rfl, uon⟩, ⟨ao, co, os, rfl, go, bo, lo⟩⟩ := open_bundle h0 t0 z0
  exact bundles_walk u d sg on has ags sgs ks qs os aa az ak aq ao ca cz ck cq co W ga gs gk gq go ba bs bk bq bo usg uon la ls lk lq lo
end Go.Proofs.Ytemlpjfngaemdaa
