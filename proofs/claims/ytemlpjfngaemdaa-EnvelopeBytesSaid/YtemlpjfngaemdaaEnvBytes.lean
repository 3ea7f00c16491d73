/- EnvelopeBytes returns true for every envelope: its bytes are the document's and are read back. No condition. -/
import Derived.Test.YtemlpjfngaemdaaEnvD
import Derived.Test.YtemlpjfngaemdaaEnvS
import Derived.Test.YtemlpjfngaemdaaEnvSm
import Derived.Test.YtemlpjfngaemdaaOpenE
import Derived.Test.YtemlpjfngaemdaaSEnvelopeBytes
namespace Go.Proofs.Ytemlpjfngaemdaa
open Go.RowKit Go.Pw
set_option linter.unusedVariables false

theorem byt_env {ss has hss hks dks sls : List Int} (fu fd tu td : Int) (hs : Bool) (sg : Int) (hh : Bool) (on dp dn : Int) (h1 : Byt ss) (h2 : Byt has) (h3 : Byt hss) (h4 : Byt hks) (h5 : Byt dks) (h6 : Byt sls) : Byt (envB fu fd tu td ss hs has hss hks sg hh on dks dp dn sls) :=
  (((((((((be_byt _ _).app (be_byt _ _)).app ((be_byt _ _).app (be_byt _ _))).app (be_byt _ _)).app h1).app (byt_flag _)).app (byt_if (byt_hello _ _ _ h2 h3 h4))).app ((((be_byt _ _).app h5).app (be_byt _ _)).app (be_byt _ _))).app (be_byt _ _)).app h6
theorem envB_len (fu fd tu td : Int) (ss : List Int) (hs : Bool) (has hss hks : List Int) (sg : Int) (hh : Bool) (on : Int) (dks : List Int) (dp dn : Int) (sls : List Int) : (envB fu fd tu td ss hs has hss hks sg hh on dks dp dn sls).length ≤ ss.length + has.length + hss.length + hks.length + dks.length + sls.length + 60 := by
  have := frontB_len fu fd tu td ss hs has hss hks sg hh on
  simp [envB, headB_len, be_len]
  omega
/-- A Hello, as it is read back. -/
def hBack (hs : Bool) (has hss hks : List Int) (sg : Int) (hh : Bool) (on : Int) : HelloD := if hs then ⟨has, hss, hks, sg, hh, if hh then on else 0⟩ else h0
theorem hBack_len (hs : Bool) (has hss hks : List Int) (sg : Int) (hh : Bool) (on : Int) : (hBack hs has hss hks sg hh on).ag.length ≤ has.length ∧ (hBack hs has hss hks sg hh on).sg.length ≤ hss.length ∧ (hBack hs has hss hks sg hh on).key.length ≤ hks.length := by
  cases hs <;> simp [hBack, h0]
theorem hBack_u (hs : Bool) (has hss hks : List Int) (sg : Int) (hh : Bool) (on : Int) (h1 : U32 sg) (h2 : U32 on) : U32 (hBack hs has hss hks sg hh on).signed ∧ U32 (hBack hs has hss hks sg hh on).once := by
  cases hs
  · exact ⟨⟨by simp [hBack, h0], by simp [hBack, h0]⟩, ⟨by simp [hBack, h0], by simp [hBack, h0]⟩⟩
  · cases hh
    · exact ⟨h1, ⟨by simp [hBack], by simp [hBack]⟩⟩
    · exact ⟨h1, h2⟩
theorem hBack_b (hs : Bool) (has hss hks : List Int) (sg : Int) (hh : Bool) (on : Int) (h2 : Byt has) (h3 : Byt hss) (h4 : Byt hks) : Byt (hBack hs has hss hks sg hh on).ag ∧ Byt (hBack hs has hss hks sg hh on).sg ∧ Byt (hBack hs has hss hks sg hh on).key := by
  cases hs
  · exact ⟨Byt.nil, Byt.nil, Byt.nil⟩
  · exact ⟨h2, h3, h4⟩
theorem envB_again (fu fd tu td : Int) (ss : List Int) (hs : Bool) (has hss hks : List Int) (sg : Int) (hh : Bool) (on : Int) (dks : List Int) (dp dn : Int) (sls : List Int) :
    envB (IntKind.u32.wrap fu) (IntKind.u32.wrap fd) (IntKind.u32.wrap tu) (IntKind.u32.wrap td) ss hs (hBack hs has hss hks sg hh on).ag (hBack hs has hss hks sg hh on).sg (hBack hs has hss hks sg hh on).key (hBack hs has hss hks sg hh on).signed (hBack hs has hss hks sg hh on).has (hBack hs has hss hks sg hh on).once dks dp dn sls = envB fu fd tu td ss hs has hss hks sg hh on dks dp dn sls := by
  cases hs
  · simp [envB, frontB, whoB, wrap_wrap]
  · cases hh <;> simp [envB, frontB, whoB, wrap_wrap, hBack, helloB]

set_option maxRecDepth 100000 in
set_option maxHeartbeats 12800000 in
theorem bytes_bail (fu fd tu td sg on dp dn : Int) (hs hh : Bool) (ss has hss hks dks sls : List Int) (ap ax ay ak ad az : Option Addr) (cp cx cy ck cd cz : Nat) (w : World) (hp : Rd w (.slice ap ss.length cp) ss) (hx : Rd w (.slice ax has.length cx) has) (hy : Rd w (.slice ay hss.length cy) hss) (hk : Rd w (.slice ak hks.length ck) hks) (hd : Rd w (.slice ad dks.length cd) dks) (hz : Rd w (.slice az sls.length cz) sls) (bp : Byt ss) (bx : Byt has) (by_ : Byt hss) (bk : Byt hks) (bd : Byt dks) (bz : Byt sls) (usg : U32 sg) (uon : U32 on) (udp : U32 dp) (udn : U32 dn) (lp : ss.length ≤ 140737488351232) (lx : has.length ≤ 140737488351232) (ly : hss.length ≤ 140737488351232) (lk : hks.length ≤ 140737488351232) (ld : dks.length ≤ 140737488351232) (lz : sls.length ≤ 140737488351232) (hl1 : ¬ ss.length + has.length + hss.length + hks.length + dks.length + sls.length ≤ 3000) :
    Calls Try.prog 11 #[.agg #[.int .i64 fu, .int .i64 fd, .int .i64 tu, .int .i64 td, .slice ap ss.length cp, .bool hs, .slice ax has.length cx, .slice ay hss.length cy, .slice ak hks.length ck, .int .u32 sg, .bool hh, .int .u32 on, .slice ad dks.length cd, .int .u32 dp, .int .u32 dn, .slice az sls.length cz]] w fun e w' => e = .returned (.bool true) ∧ Below w.heap.size w w' := by
  have d1 : decide (ss.length + has.length + hss.length + hks.length + dks.length + sls.length ≤ 3000) = false := by simpa using hl1
  go_enter Try.func11, Try.ntmps11
  go_wp2_with fail
  obtain ⟨W, X, hW, hX, hbX, hoW, hX1, hX2⟩ := new_block w (.cells #[.int .i64 fu, .int .i64 fd, .int .i64 tu, .int .i64 td, .slice ap ss.length cp, .bool hs, .slice ax has.length cx, .slice ay hss.length cy, .slice ak hks.length ck, .int .u32 sg, .bool hh, .int .u32 on, .slice ad dks.length cd, .int .u32 dp, .int .u32 dn, .slice az sls.length cz] 43)
  rw [← hW, ← hX]
  clear hW hX
  refine (awake14 _).mono ?_
  rintro e w1 ⟨rfl, h1⟩
  have hX1' := h1.at hbX (by simp)
  have c0 := cell_in hX1' 0
  have c1 := cell_in hX1' 1
  have c2 := cell_in hX1' 2
  have c3 := cell_in hX1' 3
  have c4 := cell_in hX1' 4
  have c5 := cell_in hX1' 5
  have c6 := cell_in hX1' 6
  have c7 := cell_in hX1' 7
  have c8 := cell_in hX1' 8
  have c9 := cell_in hX1' 9
  have c10 := cell_in hX1' 10
  have c11 := cell_in hX1' 11
  have c12 := cell_in hX1' 12
  have c13 := cell_in hX1' 13
  have c14 := cell_in hX1' 14
  have c15 := cell_in hX1' 15
  go_wp2_with fail
  refine (short_any fu fd tu td sg on dp dn hs hh ss has hss hks dks sls ap ax ay ak ad az cp cx cy ck cd cz _ lp lx ly lk ld lz).mono ?_
  rintro e w2 ⟨rfl, h2⟩
  clear c0 c1 c2 c3 c4 c5 c6 c7 c8 c9 c10 c11 c12 c13 c14 c15
  go_wp2_with fail
  refine (awake14 _).mono ?_
  rintro e w9 ⟨rfl, h9⟩
  go_wp2_with fail
  go_ret
  exact ⟨rfl, (((hoW.trans h1).trans h2).trans h9).below (Nat.le_refl _) (by simp)⟩

set_option maxRecDepth 100000 in
set_option maxHeartbeats 12800000 in
theorem bytes_main (fu fd tu td sg on dp dn : Int) (hs hh : Bool) (ss has hss hks dks sls : List Int) (ap ax ay ak ad az : Option Addr) (cp cx cy ck cd cz : Nat) (w : World) (hp : Rd w (.slice ap ss.length cp) ss) (hx : Rd w (.slice ax has.length cx) has) (hy : Rd w (.slice ay hss.length cy) hss) (hk : Rd w (.slice ak hks.length ck) hks) (hd : Rd w (.slice ad dks.length cd) dks) (hz : Rd w (.slice az sls.length cz) sls) (bp : Byt ss) (bx : Byt has) (by_ : Byt hss) (bk : Byt hks) (bd : Byt dks) (bz : Byt sls) (usg : U32 sg) (uon : U32 on) (udp : U32 dp) (udn : U32 dn) (lp : ss.length ≤ 140737488351232) (lx : has.length ≤ 140737488351232) (ly : hss.length ≤ 140737488351232) (lk : hks.length ≤ 140737488351232) (ld : dks.length ≤ 140737488351232) (lz : sls.length ≤ 140737488351232) (hl1 : ss.length + has.length + hss.length + hks.length + dks.length + sls.length ≤ 3000) :
    Calls Try.prog 11 #[.agg #[.int .i64 fu, .int .i64 fd, .int .i64 tu, .int .i64 td, .slice ap ss.length cp, .bool hs, .slice ax has.length cx, .slice ay hss.length cy, .slice ak hks.length ck, .int .u32 sg, .bool hh, .int .u32 on, .slice ad dks.length cd, .int .u32 dp, .int .u32 dn, .slice az sls.length cz]] w fun e w' => e = .returned (.bool true) ∧ Below w.heap.size w w' := by
  have d1 : decide (ss.length + has.length + hss.length + hks.length + dks.length + sls.length ≤ 3000) = true := by simpa using hl1
  go_enter Try.func11, Try.ntmps11
  go_wp2_with fail
  obtain ⟨W, X, hW, hX, hbX, hoW, hX1, hX2⟩ := new_block w (.cells #[.int .i64 fu, .int .i64 fd, .int .i64 tu, .int .i64 td, .slice ap ss.length cp, .bool hs, .slice ax has.length cx, .slice ay hss.length cy, .slice ak hks.length ck, .int .u32 sg, .bool hh, .int .u32 on, .slice ad dks.length cd, .int .u32 dp, .int .u32 dn, .slice az sls.length cz] 43)
  rw [← hW, ← hX]
  clear hW hX
  refine (awake14 _).mono ?_
  rintro e w1 ⟨rfl, h1⟩
  have hX1' := h1.at hbX (by simp)
  have c0 := cell_in hX1' 0
  have c1 := cell_in hX1' 1
  have c2 := cell_in hX1' 2
  have c3 := cell_in hX1' 3
  have c4 := cell_in hX1' 4
  have c5 := cell_in hX1' 5
  have c6 := cell_in hX1' 6
  have c7 := cell_in hX1' 7
  have c8 := cell_in hX1' 8
  have c9 := cell_in hX1' 9
  have c10 := cell_in hX1' 10
  have c11 := cell_in hX1' 11
  have c12 := cell_in hX1' 12
  have c13 := cell_in hX1' 13
  have c14 := cell_in hX1' 14
  have c15 := cell_in hX1' 15
  go_wp2_with fail
  refine (short_any fu fd tu td sg on dp dn hs hh ss has hss hks dks sls ap ax ay ak ad az cp cx cy ck cd cz _ lp lx ly lk ld lz).mono ?_
  rintro e w2 ⟨rfl, h2⟩
  clear c0 c1 c2 c3 c4 c5 c6 c7 c8 c9 c10 c11 c12 c13 c14 c15
  have hX2' := h2.at hX1' (by simp)
  have c0 := cell_in hX2' 0
  have c1 := cell_in hX2' 1
  have c2 := cell_in hX2' 2
  have c3 := cell_in hX2' 3
  have c4 := cell_in hX2' 4
  have c5 := cell_in hX2' 5
  have c6 := cell_in hX2' 6
  have c7 := cell_in hX2' 7
  have c8 := cell_in hX2' 8
  have c9 := cell_in hX2' 9
  have c10 := cell_in hX2' 10
  have c11 := cell_in hX2' 11
  have c12 := cell_in hX2' 12
  have c13 := cell_in hX2' 13
  have c14 := cell_in hX2' 14
  have c15 := cell_in hX2' 15
  go_wp2_with fail
  have o2 := (hoW.trans h1).trans h2
  clear c0 c1 c2 c3 c4 c5 c6 c7 c8 c9 c10 c11 c12 c13 c14 c15
  refine (encode_any fu fd tu td sg on dp dn hs hh (.slice ap ss.length cp) (.slice ax has.length cx) (.slice ay hss.length cy) (.slice ak hks.length ck) (.slice ad dks.length cd) (.slice az sls.length cz) ss has hss hks dks sls _ (hp.new o2) (hx.new o2) (hy.new o2) (hk.new o2) (hd.new o2) (hz.new o2) usg uon udp udn (by omega)).mono fun e w3 hq => ?_
  obtain ⟨ys, a1, q1, Hys, rfl, g1, g2, g3⟩ := hq.name
  clear hq d1 hbX
  have hyb : Byt ys := by rw [Hys.out]; exact byt_env _ _ _ _ _ _ _ _ _ _ bp bx by_ bk bd bz
  have hyl : ys.length ≤ 3100 := by rw [Hys.out]; have := envB_len fu fd tu td ss hs has hss hks sg hh on dks dp dn sls; omega
  have hpy : pEnv (ys, false) = (⟨IntKind.u32.wrap fu, IntKind.u32.wrap fd, IntKind.u32.wrap tu, IntKind.u32.wrap td, ss, hs, hBack hs has hss hks sg hh on, dks, dp, dn, sls⟩, [], false) := by
    rw [Hys.out]
    exact pEnv_be fu fd tu td ss hs has hss hks sg hh on dks dp dn sls (by omega) (by omega) (by omega) (by omega) (by omega) (by omega) usg uon udp udn
  have Hag := envB_again fu fd tu td ss hs has hss hks sg hh on dks dp dn sls
  have hhl := hBack_len hs has hss hks sg hh on
  have hhu := hBack_u hs has hss hks sg hh on usg uon
  have hhb := hBack_b hs has hss hks sg hh on bx by_ bk
  obtain ⟨h, hh_⟩ : ∃ z, z = hBack hs has hss hks sg hh on := ⟨_, rfl⟩
  obtain ⟨fu2, efu⟩ : ∃ z, z = IntKind.u32.wrap fu := ⟨_, rfl⟩
  obtain ⟨fd2, efd⟩ : ∃ z, z = IntKind.u32.wrap fd := ⟨_, rfl⟩
  obtain ⟨tu2, etu⟩ : ∃ z, z = IntKind.u32.wrap tu := ⟨_, rfl⟩
  obtain ⟨td2, etd⟩ : ∃ z, z = IntKind.u32.wrap td := ⟨_, rfl⟩
  rw [← hh_] at hpy Hag hhl hhu hhb
  rw [← efu, ← efd, ← etu, ← etd] at hpy Hag
  have Hag := Lib.hid Hag
  have Efu := Lib.hid efu
  have Efd := Lib.hid efd
  have Etu := Lib.hid etu
  have Etd := Lib.hid etd
  clear hh_ efu efd etu etd
  obtain ⟨hl2, hl3, hl4⟩ := hhl
  obtain ⟨uhs, uho⟩ := hhu
  go_wp2_with fail
  refine (decode_any _ ys w3 (own_rd g1) hyb (by omega)).mono ?_
  rintro e w4 ⟨a, s, hd_, ho4, hcase⟩
  rw [hpy] at hd_
  simp only [Prod.mk.injEq] at hd_
  obtain ⟨rfl, rfl⟩ := hd_
  clear hpy
  rcases hcase with ⟨_, vs, va, vg, vk, vd, vz, rfl, hg⟩ | ⟨h0_, _⟩
  case inr => simp [Ends] at h0_
  obtain ⟨⟨ap', cp', rfl⟩, _⟩ := id hg.gs
  obtain ⟨⟨ax', cx', rfl⟩, _⟩ := id hg.gh.ga
  obtain ⟨⟨ay', cy', rfl⟩, _⟩ := id hg.gh.gs
  obtain ⟨⟨ak', ck', rfl⟩, _⟩ := id hg.gh.gk
  obtain ⟨⟨ad', cd', rfl⟩, _⟩ := id hg.gd
  obtain ⟨⟨az', cz', rfl⟩, _⟩ := id hg.gz
  unfold enV
  simp only at hg ⊢
  go_wp2_with fail
  obtain ⟨V, Y, hW, hY, hbYV, hoY, hY1, hY2⟩ := new_block w4 (.cells #[.int .i64 fu2, .int .i64 fd2, .int .i64 tu2, .int .i64 td2, .slice ap' ss.length cp', .bool hs, .slice ax' h.ag.length cx', .slice ay' h.sg.length cy', .slice ak' h.key.length ck', .int .u32 h.signed, .bool h.has, .int .u32 h.once, .slice ad' dks.length cd', .int .u32 dp, .int .u32 dn, .slice az' sls.length cz'] 43)
  rw [← hW, ← hY]
  clear hW hY
  have oVV := o2.trans (g3.trans (ho4.trans hoY))
  have hbXV := (g3.trans (ho4.trans hoY)).at hX2' (by simp)
  have kys := (own_rd g1).new (ho4.trans hoY)
  have hgV := hg.next hoY (by simp)
  have kp := hp.new oVV
  have kx := hx.new oVV
  have ky := hy.new oVV
  have kk := hk.new oVV
  have kd := hd.new oVV
  have kz := hz.new oVV
  clear hX1' hX2' g1 g2 hg hyb hoY
  as_aux_lemma =>
   have hod := Only.drew V []
   refine wp_region_held_drew (S := fun w' => Only V.drew w' []) (by kernel_rfl) (Only.refl _ _) (fun hHeld => ?_)
   refine' wpAnyH_take (i := 0) (v := _) (op_at rfl) (by kernel_rfl) (by kernel_rfl) (by kernel_rfl) (fun _ _ _ h => h) (Or.inl ⟨by rfl, ?hy1⟩) (by assumption) ?rest1
   case hy1 =>
     intro w' hS
     go_simp
     try with_reducible rfl
   try simp only [Act.put, List.setIfInBounds_toArray, List.set_cons_zero, List.set_cons_succ]
   refine' wpAnyH_take (i := 1) (v := _) (op_at rfl) (by kernel_rfl) (by kernel_rfl) (by kernel_rfl) (fun _ _ _ h => h) (Or.inl ⟨by rfl, ?hy2⟩) (by assumption) ?rest2
   case hy2 =>
     intro w' hS
     have hs_ := run_str (P := Try.prog) (w := w') (S := 22) (T := 9) Try.underlying22 Try.underlying5 Try.underlying9 (Rd.new kys (hod.trans hS)) rfl
     go_simp
     try with_reducible rfl
   try simp only [Act.put, List.setIfInBounds_toArray, List.set_cons_zero, List.set_cons_succ]
   refine wpAnyH_take (i := 2) (op_at rfl) (by kernel_rfl) (by kernel_rfl) (by kernel_rfl) (fun _ _ _ h => h) (yieldsIf_load_mid (by rfl) _ _ rfl X 0 rfl [.int .i64 fu, .int .i64 fd, .int .i64 tu, .int .i64 td, .slice ap ss.length cp, .bool hs, .slice ax has.length cx, .slice ay hss.length cy, .slice ak hks.length ck, .int .u32 sg, .bool hh, .int .u32 on, .slice ad dks.length cd, .int .u32 dp, .int .u32 dn, .slice az sls.length cz] _ (fun w' hS => range_of ((hod.trans hS).at hbXV (by simp))) Try.underlying43 (by rfl) info_env) (by assumption) ?_
   try simp only [Act.put, List.setIfInBounds_toArray, List.set_cons_zero, List.set_cons_succ]
   refine wpAnyH_ready (rs := [3]) (by kernel_rfl) (by simp) (AllReadyH.cons (op_at rfl) (fun K hK => ?_) AllReadyH.nil)
   go_simp
   refine (rfenv_any fu fd tu td sg on dp dn hs hh (.slice ap ss.length cp) (.slice ax has.length cx) (.slice ay hss.length cy) (.slice ak hks.length ck) (.slice ad dks.length cd) (.slice az sls.length cz) ss has hss hks dks sls _ (kp.new hod) (kx.new hod) (ky.new hod) (kk.new hod) (kd.new hod) (kz.new hod) usg uon udp udn (by omega)).mono fun e w6 hq => ?_
   obtain ⟨zs, a6, k6, Hzs, rfl, p1, p2, p3⟩ := hq.name
   clear hq
   go_wp2_with fail
   refine hK.out _ _ p3 (fun hHeld1 => ?_)
   clear hK K
   try simp only [Act.put, List.setIfInBounds_toArray, List.set_cons_zero, List.set_cons_succ]
   refine wpAnyH_more (S' := fun w' => Only w6 w' []) (fun w' h => Only.trans p3 h) _ _ _ _ ?_
   clear hHeld hHeld1
   have hHeld : Only w6 w6 [] := Only.refl _ _
   as_aux_lemma =>
    have p4 := hod.trans p3
    have hzy : zs = ys := by rw [Hzs.out, Hys.out]
    subst hzy
    have hnq : (!((strOfNums zs).toList == (strOfNums zs).toList)) = false := by simp
    refine' wpAnyH_take (i := 4) (v := _) (op_at rfl) (by kernel_rfl) (by kernel_rfl) (by kernel_rfl) (fun _ _ _ h => h) (Or.inl ⟨by rfl, ?hy3⟩) (by assumption) ?rest3
    case hy3 =>
      intro w' hS
      have hs_ := run_str (P := Try.prog) (w := w') (S := 22) (T := 9) Try.underlying22 Try.underlying5 Try.underlying9 ((own_rd p1).new hS) rfl
      go_simp
      try with_reducible rfl
    try simp only [Act.put, List.setIfInBounds_toArray, List.set_cons_zero, List.set_cons_succ]
    refine' wpAnyH_take (i := 5) (v := _) (op_at rfl) (by kernel_rfl) (by kernel_rfl) (by kernel_rfl) (fun _ _ _ h => h) (Or.inl ⟨by rfl, ?hy4⟩) (by assumption) ?rest4
    case hy4 =>
      intro w' hS
      go_simp
      try with_reducible rfl
    try simp only [Act.put, List.setIfInBounds_toArray, List.set_cons_zero, List.set_cons_succ]
    refine' wpAnyH_take (i := 6) (v := _) (op_at rfl) (by kernel_rfl) (by kernel_rfl) (by kernel_rfl) (fun _ _ _ h => h) (Or.inl ⟨by rfl, ?hy5⟩) (by assumption) ?rest5
    case hy5 =>
      intro w' hS
      go_simp
      try with_reducible rfl
    try simp only [Act.put, List.setIfInBounds_toArray, List.set_cons_zero, List.set_cons_succ]
    refine wpAnyH_take (i := 7) (op_at rfl) (by kernel_rfl) (by kernel_rfl) (by kernel_rfl) (fun _ _ _ h => h) (yieldsIf_load_mid (by rfl) _ _ rfl X 0 rfl [.int .i64 fu, .int .i64 fd, .int .i64 tu, .int .i64 td, .slice ap ss.length cp, .bool hs, .slice ax has.length cx, .slice ay hss.length cy, .slice ak hks.length ck, .int .u32 sg, .bool hh, .int .u32 on, .slice ad dks.length cd, .int .u32 dp, .int .u32 dn, .slice az sls.length cz] _ (fun w' hS => range_of ((p4.trans hS).at hbXV (by simp))) Try.underlying43 (by rfl) info_env) (by assumption) ?_
    try simp only [Act.put, List.setIfInBounds_toArray, List.set_cons_zero, List.set_cons_succ]
    refine wpAnyH_take (i := 10) (op_at rfl) (by kernel_rfl) (by kernel_rfl) (by kernel_rfl) (fun _ _ _ h => h) (yieldsIf_load_mid (by rfl) _ _ rfl X 0 rfl [.int .i64 fu, .int .i64 fd, .int .i64 tu, .int .i64 td, .slice ap ss.length cp, .bool hs, .slice ax has.length cx, .slice ay hss.length cy, .slice ak hks.length ck, .int .u32 sg, .bool hh, .int .u32 on, .slice ad dks.length cd, .int .u32 dp, .int .u32 dn, .slice az sls.length cz] _ (fun w' hS => range_of ((p4.trans hS).at hbXV (by simp))) Try.underlying43 (by rfl) info_env) (by assumption) ?_
    try simp only [Act.put, List.setIfInBounds_toArray, List.set_cons_zero, List.set_cons_succ]
    refine wpAnyH_ready (rs := [8]) (by kernel_rfl) (by simp) (AllReadyH.cons (op_at rfl) (fun K hK => ?_) AllReadyH.nil)
    go_simp
    refine (encfront_any fu fd tu td sg on dp dn hs hh (.slice ap ss.length cp) (.slice ax has.length cx) (.slice ay hss.length cy) (.slice ak hks.length ck) (.slice ad dks.length cd) (.slice az sls.length cz) ss has hss hks dks sls _ (kp.new p4) (kx.new p4) (ky.new p4) (kk.new p4) (kd.new p4) (kz.new p4) usg uon udp udn (by omega)).mono fun e w7 hq => ?_
    obtain ⟨fs, a7, k7, Hfs, rfl, r1, r2, r3⟩ := hq.name
    clear hq
    go_wp2_with fail
    refine hK.out _ _ r3 (fun hHeld1 => ?_)
    clear hK K
    try simp only [Act.put, List.setIfInBounds_toArray, List.set_cons_zero, List.set_cons_succ]
    refine wpAnyH_more (S' := fun w' => Only w7 w' []) (fun w' h => Only.trans r3 h) _ _ _ _ ?_
    clear hHeld hHeld1
    have hHeld : Only w7 w7 [] := Only.refl _ _
    as_aux_lemma =>
     have p6 := p4.trans r3
     refine' wpAnyH_take (i := 9) (v := _) (op_at rfl) (by kernel_rfl) (by kernel_rfl) (by kernel_rfl) (fun _ _ _ h => h) (Or.inl ⟨by rfl, ?hy6⟩) (by assumption) ?rest6
     case hy6 =>
       intro w' hS
       have hs_ := run_str (P := Try.prog) (w := w') (S := 22) (T := 9) Try.underlying22 Try.underlying5 Try.underlying9 ((own_rd r1).new hS) rfl
       go_simp
       try with_reducible rfl
     try simp only [Act.put, List.setIfInBounds_toArray, List.set_cons_zero, List.set_cons_succ]
     refine wpAnyH_ready (rs := [11]) (by kernel_rfl) (by simp) (AllReadyH.cons (op_at rfl) (fun K hK => ?_) AllReadyH.nil)
     go_simp
     refine (rffront_any fu fd tu td sg on dp dn hs hh (.slice ap ss.length cp) (.slice ax has.length cx) (.slice ay hss.length cy) (.slice ak hks.length ck) (.slice ad dks.length cd) (.slice az sls.length cz) ss has hss hks dks sls _ (kp.new p6) (kx.new p6) (ky.new p6) (kk.new p6) (kd.new p6) (kz.new p6) usg uon udp udn (by omega)).mono fun e w8 hq => ?_
     obtain ⟨gs, a8, k8, Hgs, rfl, t1, t2, t3⟩ := hq.name
     clear hq
     go_wp2_with fail
     refine hK.out _ _ t3 (fun hHeld1 => ?_)
     clear hK K
     try simp only [Act.put, List.setIfInBounds_toArray, List.set_cons_zero, List.set_cons_succ]
     refine wpAnyH_more (S' := fun w' => Only w8 w' []) (fun w' h => Only.trans t3 h) _ _ _ _ ?_
     clear hHeld hHeld1
     have hHeld : Only w8 w8 [] := Only.refl _ _
     as_aux_lemma =>
      have p8 := p6.trans t3
      have hgf : gs = fs := by rw [Hgs.out, Hfs.out]
      subst hgf
      have hnf : (!((strOfNums gs).toList == (strOfNums gs).toList)) = false := by simp
      refine' wpAnyH_take (i := 12) (v := _) (op_at rfl) (by kernel_rfl) (by kernel_rfl) (by kernel_rfl) (fun _ _ _ h => h) (Or.inl ⟨by rfl, ?hy7⟩) (by assumption) ?rest7
      case hy7 =>
        intro w' hS
        have hs_ := run_str (P := Try.prog) (w := w') (S := 22) (T := 9) Try.underlying22 Try.underlying5 Try.underlying9 ((own_rd t1).new hS) rfl
        go_simp
        try with_reducible rfl
      try simp only [Act.put, List.setIfInBounds_toArray, List.set_cons_zero, List.set_cons_succ]
      refine' wpAnyH_take (i := 13) (v := _) (op_at rfl) (by kernel_rfl) (by kernel_rfl) (by kernel_rfl) (fun _ _ _ h => h) (Or.inl ⟨by rfl, ?hy8⟩) (by assumption) ?rest8
      case hy8 =>
        intro w' hS
        go_simp
        try with_reducible rfl
      try simp only [Act.put, List.setIfInBounds_toArray, List.set_cons_zero, List.set_cons_succ]
      refine' wpAnyH_take (i := 14) (v := _) (op_at rfl) (by kernel_rfl) (by kernel_rfl) (by kernel_rfl) (fun _ _ _ h => h) (Or.inl ⟨by rfl, ?hy9⟩) (by assumption) ?rest9
      case hy9 =>
        intro w' hS
        go_simp
        try with_reducible rfl
      try simp only [Act.put, List.setIfInBounds_toArray, List.set_cons_zero, List.set_cons_succ]
      refine' wpAnyH_take (i := 15) (v := _) (op_at rfl) (by kernel_rfl) (by kernel_rfl) (by kernel_rfl) (fun _ _ _ h => h) (Or.inl ⟨by rfl, ?hy10⟩) (by assumption) ?rest10
      case hy10 =>
        intro w' hS
        go_simp
        try with_reducible rfl
      try simp only [Act.put, List.setIfInBounds_toArray, List.set_cons_zero, List.set_cons_succ]
      refine' wpAnyH_take (i := 16) (v := _) (op_at rfl) (by kernel_rfl) (by kernel_rfl) (by kernel_rfl) (fun _ _ _ h => h) (Or.inl ⟨by rfl, ?hy11⟩) (by assumption) ?rest11
      case hy11 =>
        intro w' hS
        go_simp
        try with_reducible rfl
      try simp only [Act.put, List.setIfInBounds_toArray, List.set_cons_zero, List.set_cons_succ]
      refine' wpAnyH_take (i := 17) (v := _) (op_at rfl) (by kernel_rfl) (by kernel_rfl) (by kernel_rfl) (fun _ _ _ h => h) (Or.inl ⟨by rfl, ?hy12⟩) (by assumption) ?rest12
      case hy12 =>
        intro w' hS
        go_simp
        try with_reducible rfl
      try simp only [Act.put, List.setIfInBounds_toArray, List.set_cons_zero, List.set_cons_succ]
      refine' wpAnyH_take (i := 18) (v := _) (op_at rfl) (by kernel_rfl) (by kernel_rfl) (by kernel_rfl) (fun _ _ _ h => h) (Or.inl ⟨by rfl, ?hy13⟩) (by assumption) ?rest13
      case hy13 =>
        intro w' hS
        go_simp
        try with_reducible rfl
      try simp only [Act.put, List.setIfInBounds_toArray, List.set_cons_zero, List.set_cons_succ]
      refine wpAnyH_done (by kernel_rfl) ?_ _
      clear hnf hnq
      go_wp2_with fail
      have hbX8 := p8.at hbXV (by simp)
      have hbY8 := p8.at hbYV (by simp)
      have kyz := Rd.new kys p8
      have hg8 := hgV.next p8 (by simp)
      have o8 := oVV.trans p8
      have mp := kp.new p8
      have mx := kx.new p8
      have my := ky.new p8
      have mk := kk.new p8
      have md := kd.new p8
      have mz := kz.new p8
      clear p1 p2 p3 r1 r2 r3 t1 t2 t3 p4 p6 hod hHeld hbXV hbYV kys hgV kp kx ky kk kd kz
      generalize w8 = V8 at *
      as_aux_lemma =>
       have hod := Only.drew V8 []
       refine wp_region_held_drew (S := fun w' => Only V8.drew w' []) (by kernel_rfl) (Only.refl _ _) (fun hHeld => ?_)
       refine' wpAnyH_take (i := 0) (v := _) (op_at rfl) (by kernel_rfl) (by kernel_rfl) (by kernel_rfl) (fun _ _ _ h => h) (Or.inl ⟨by rfl, ?hy14⟩) (by assumption) ?rest14
       case hy14 =>
         intro w' hS
         go_simp
         try with_reducible rfl
       try simp only [Act.put, List.setIfInBounds_toArray, List.set_cons_zero, List.set_cons_succ]
       refine' wpAnyH_take (i := 1) (v := _) (op_at rfl) (by kernel_rfl) (by kernel_rfl) (by kernel_rfl) (fun _ _ _ h => h) (Or.inl ⟨by rfl, ?hy15⟩) (by assumption) ?rest15
       case hy15 =>
         intro w' hS
         have q0 := cell_in ((hod.trans hS).at hbY8 (by simp)) 0
         have q1 := cell_in ((hod.trans hS).at hbY8 (by simp)) 1
         go_simp
         try with_reducible rfl
       try simp only [Act.put, List.setIfInBounds_toArray, List.set_cons_zero, List.set_cons_succ]
       refine' wpAnyH_take (i := 2) (v := _) (op_at rfl) (by kernel_rfl) (by kernel_rfl) (by kernel_rfl) (fun _ _ _ h => h) (Or.inl ⟨by rfl, ?hy16⟩) (by assumption) ?rest16
       case hy16 =>
         intro w' hS
         go_simp
         try with_reducible rfl
       try simp only [Act.put, List.setIfInBounds_toArray, List.set_cons_zero, List.set_cons_succ]
       refine' wpAnyH_take (i := 3) (v := _) (op_at rfl) (by kernel_rfl) (by kernel_rfl) (by kernel_rfl) (fun _ _ _ h => h) (Or.inl ⟨by rfl, ?hy17⟩) (by assumption) ?rest17
       case hy17 =>
         intro w' hS
         have q0 := cell_in ((hod.trans hS).at hbX8 (by simp)) 0
         have q1 := cell_in ((hod.trans hS).at hbX8 (by simp)) 1
         go_simp
         try with_reducible rfl
       try simp only [Act.put, List.setIfInBounds_toArray, List.set_cons_zero, List.set_cons_succ]
       refine wpAnyH_ready (rs := [4]) (by kernel_rfl) (by simp) (AllReadyH.cons (op_at rfl) (fun K hK => ?_) AllReadyH.nil)
       go_simp
       refine (small_at fu fd fu2 fd2 Efu.out Efd.out _).mono ?_
       rintro e w9 ⟨rfl, n3⟩
       go_wp2_with fail
       refine hK.out _ _ n3 (fun hHeld1 => ?_)
       clear hK K
       try simp only [Act.put, List.setIfInBounds_toArray, List.set_cons_zero, List.set_cons_succ]
       refine wpAnyH_more (S' := fun w' => Only w9 w' []) (fun w' h => Only.trans n3 h) _ _ _ _ ?_
       clear hHeld hHeld1
       have hHeld : Only w9 w9 [] := Only.refl _ _
       as_aux_lemma =>
        have q4 := hod.trans n3
        refine' wpAnyH_take (i := 5) (v := _) (op_at rfl) (by kernel_rfl) (by kernel_rfl) (by kernel_rfl) (fun _ _ _ h => h) (Or.inl ⟨by rfl, ?hy18⟩) (by assumption) ?rest18
        case hy18 =>
          intro w' hS
          have q := eq_who fu2 fd2 fu2 fd2 w'
          go_simp
          try with_reducible rfl
        try simp only [Act.put, List.setIfInBounds_toArray, List.set_cons_zero, List.set_cons_succ]
        refine' wpAnyH_take (i := 6) (v := _) (op_at rfl) (by kernel_rfl) (by kernel_rfl) (by kernel_rfl) (fun _ _ _ h => h) (Or.inl ⟨by rfl, ?hy19⟩) (by assumption) ?rest19
        case hy19 =>
          intro w' hS
          go_simp
          try with_reducible rfl
        try simp only [Act.put, List.setIfInBounds_toArray, List.set_cons_zero, List.set_cons_succ]
        refine' wpAnyH_take (i := 7) (v := _) (op_at rfl) (by kernel_rfl) (by kernel_rfl) (by kernel_rfl) (fun _ _ _ h => h) (Or.inl ⟨by rfl, ?hy20⟩) (by assumption) ?rest20
        case hy20 =>
          intro w' hS
          go_simp
          try with_reducible rfl
        try simp only [Act.put, List.setIfInBounds_toArray, List.set_cons_zero, List.set_cons_succ]
        refine' wpAnyH_take (i := 8) (v := _) (op_at rfl) (by kernel_rfl) (by kernel_rfl) (by kernel_rfl) (fun _ _ _ h => h) (Or.inl ⟨by rfl, ?hy21⟩) (by assumption) ?rest21
        case hy21 =>
          intro w' hS
          have q2 := cell_in ((q4.trans hS).at hbY8 (by simp)) 2
          have q3 := cell_in ((q4.trans hS).at hbY8 (by simp)) 3
          go_simp
          try with_reducible rfl
        try simp only [Act.put, List.setIfInBounds_toArray, List.set_cons_zero, List.set_cons_succ]
        refine' wpAnyH_take (i := 9) (v := _) (op_at rfl) (by kernel_rfl) (by kernel_rfl) (by kernel_rfl) (fun _ _ _ h => h) (Or.inl ⟨by rfl, ?hy22⟩) (by assumption) ?rest22
        case hy22 =>
          intro w' hS
          go_simp
          try with_reducible rfl
        try simp only [Act.put, List.setIfInBounds_toArray, List.set_cons_zero, List.set_cons_succ]
        refine' wpAnyH_take (i := 10) (v := _) (op_at rfl) (by kernel_rfl) (by kernel_rfl) (by kernel_rfl) (fun _ _ _ h => h) (Or.inl ⟨by rfl, ?hy23⟩) (by assumption) ?rest23
        case hy23 =>
          intro w' hS
          have q2 := cell_in ((q4.trans hS).at hbX8 (by simp)) 2
          have q3 := cell_in ((q4.trans hS).at hbX8 (by simp)) 3
          go_simp
          try with_reducible rfl
        try simp only [Act.put, List.setIfInBounds_toArray, List.set_cons_zero, List.set_cons_succ]
        refine wpAnyH_ready (rs := [11]) (by kernel_rfl) (by simp) (AllReadyH.cons (op_at rfl) (fun K hK => ?_) AllReadyH.nil)
        go_simp
        refine (small_at tu td tu2 td2 Etu.out Etd.out _).mono ?_
        rintro e w10 ⟨rfl, n5⟩
        go_wp2_with fail
        refine hK.out _ _ n5 (fun hHeld1 => ?_)
        clear hK K
        try simp only [Act.put, List.setIfInBounds_toArray, List.set_cons_zero, List.set_cons_succ]
        refine wpAnyH_more (S' := fun w' => Only w10 w' []) (fun w' h => Only.trans n5 h) _ _ _ _ ?_
        clear hHeld hHeld1
        have hHeld : Only w10 w10 [] := Only.refl _ _
        as_aux_lemma =>
         have q6 := q4.trans n5
         refine' wpAnyH_take (i := 12) (v := _) (op_at rfl) (by kernel_rfl) (by kernel_rfl) (by kernel_rfl) (fun _ _ _ h => h) (Or.inl ⟨by rfl, ?hy24⟩) (by assumption) ?rest24
         case hy24 =>
           intro w' hS
           have q := eq_who tu2 td2 tu2 td2 w'
           go_simp
           try with_reducible rfl
         try simp only [Act.put, List.setIfInBounds_toArray, List.set_cons_zero, List.set_cons_succ]
         refine' wpAnyH_take (i := 13) (v := _) (op_at rfl) (by kernel_rfl) (by kernel_rfl) (by kernel_rfl) (fun _ _ _ h => h) (Or.inl ⟨by rfl, ?hy25⟩) (by assumption) ?rest25
         case hy25 =>
           intro w' hS
           go_simp
           try with_reducible rfl
         try simp only [Act.put, List.setIfInBounds_toArray, List.set_cons_zero, List.set_cons_succ]
         refine' wpAnyH_take (i := 14) (v := _) (op_at rfl) (by kernel_rfl) (by kernel_rfl) (by kernel_rfl) (fun _ _ _ h => h) (Or.inl ⟨by rfl, ?hy26⟩) (by assumption) ?rest26
         case hy26 =>
           intro w' hS
           go_simp
           try with_reducible rfl
         try simp only [Act.put, List.setIfInBounds_toArray, List.set_cons_zero, List.set_cons_succ]
         refine' wpAnyH_take (i := 15) (v := _) (op_at rfl) (by kernel_rfl) (by kernel_rfl) (by kernel_rfl) (fun _ _ _ h => h) (Or.inl ⟨by rfl, ?hy27⟩) (by assumption) ?rest27
         case hy27 =>
           intro w' hS
           go_simp
           try with_reducible rfl
         try simp only [Act.put, List.setIfInBounds_toArray, List.set_cons_zero, List.set_cons_succ]
         refine' wpAnyH_take (i := 16) (v := _) (op_at rfl) (by kernel_rfl) (by kernel_rfl) (by kernel_rfl) (fun _ _ _ h => h) (Or.inl ⟨by rfl, ?hy28⟩) (by assumption) ?rest28
         case hy28 =>
           intro w' hS
           have q5 := cell_in ((q6.trans hS).at hbY8 (by simp)) 5
           go_simp
           try with_reducible rfl
         try simp only [Act.put, List.setIfInBounds_toArray, List.set_cons_zero, List.set_cons_succ]
         refine' wpAnyH_take (i := 17) (v := _) (op_at rfl) (by kernel_rfl) (by kernel_rfl) (by kernel_rfl) (fun _ _ _ h => h) (Or.inl ⟨by rfl, ?hy29⟩) (by assumption) ?rest29
         case hy29 =>
           intro w' hS
           go_simp
           try with_reducible rfl
         try simp only [Act.put, List.setIfInBounds_toArray, List.set_cons_zero, List.set_cons_succ]
         refine' wpAnyH_take (i := 18) (v := _) (op_at rfl) (by kernel_rfl) (by kernel_rfl) (by kernel_rfl) (fun _ _ _ h => h) (Or.inl ⟨by rfl, ?hy30⟩) (by assumption) ?rest30
         case hy30 =>
           intro w' hS
           have q5 := cell_in ((q6.trans hS).at hbX8 (by simp)) 5
           go_simp
           try with_reducible rfl
         try simp only [Act.put, List.setIfInBounds_toArray, List.set_cons_zero, List.set_cons_succ]
         refine' wpAnyH_take (i := 19) (v := _) (op_at rfl) (by kernel_rfl) (by kernel_rfl) (by kernel_rfl) (fun _ _ _ h => h) (Or.inl ⟨by rfl, ?hy31⟩) (by assumption) ?rest31
         case hy31 =>
           intro w' hS
           go_simp
           try with_reducible rfl
         try simp only [Act.put, List.setIfInBounds_toArray, List.set_cons_zero, List.set_cons_succ]
         refine' wpAnyH_take (i := 20) (v := _) (op_at rfl) (by kernel_rfl) (by kernel_rfl) (by kernel_rfl) (fun _ _ _ h => h) (Or.inl ⟨by rfl, ?hy32⟩) (by assumption) ?rest32
         case hy32 =>
           intro w' hS
           go_simp
           try with_reducible rfl
         try simp only [Act.put, List.setIfInBounds_toArray, List.set_cons_zero, List.set_cons_succ]
         refine' wpAnyH_take (i := 21) (v := _) (op_at rfl) (by kernel_rfl) (by kernel_rfl) (by kernel_rfl) (fun _ _ _ h => h) (Or.inl ⟨by rfl, ?hy33⟩) (by assumption) ?rest33
         case hy33 =>
           intro w' hS
           go_simp
           try with_reducible rfl
         try simp only [Act.put, List.setIfInBounds_toArray, List.set_cons_zero, List.set_cons_succ]
         refine' wpAnyH_take (i := 22) (v := _) (op_at rfl) (by kernel_rfl) (by kernel_rfl) (by kernel_rfl) (fun _ _ _ h => h) (Or.inl ⟨by rfl, ?hy34⟩) (by assumption) ?rest34
         case hy34 =>
           intro w' hS
           go_simp
           try with_reducible rfl
         try simp only [Act.put, List.setIfInBounds_toArray, List.set_cons_zero, List.set_cons_succ]
         refine' wpAnyH_take (i := 23) (v := _) (op_at rfl) (by kernel_rfl) (by kernel_rfl) (by kernel_rfl) (fun _ _ _ h => h) (Or.inl ⟨by rfl, ?hy35⟩) (by assumption) ?rest35
         case hy35 =>
           intro w' hS
           go_simp
           try with_reducible rfl
         try simp only [Act.put, List.setIfInBounds_toArray, List.set_cons_zero, List.set_cons_succ]
         refine' wpAnyH_take (i := 24) (v := _) (op_at rfl) (by kernel_rfl) (by kernel_rfl) (by kernel_rfl) (fun _ _ _ h => h) (Or.inl ⟨by rfl, ?hy36⟩) (by assumption) ?rest36
         case hy36 =>
           intro w' hS
           have q14 := cell_in ((q6.trans hS).at hbY8 (by simp)) 14
           go_simp
           try with_reducible rfl
         try simp only [Act.put, List.setIfInBounds_toArray, List.set_cons_zero, List.set_cons_succ]
         refine' wpAnyH_take (i := 25) (v := _) (op_at rfl) (by kernel_rfl) (by kernel_rfl) (by kernel_rfl) (fun _ _ _ h => h) (Or.inl ⟨by rfl, ?hy37⟩) (by assumption) ?rest37
         case hy37 =>
           intro w' hS
           go_simp
           try with_reducible rfl
         try simp only [Act.put, List.setIfInBounds_toArray, List.set_cons_zero, List.set_cons_succ]
         refine' wpAnyH_take (i := 26) (v := _) (op_at rfl) (by kernel_rfl) (by kernel_rfl) (by kernel_rfl) (fun _ _ _ h => h) (Or.inl ⟨by rfl, ?hy38⟩) (by assumption) ?rest38
         case hy38 =>
           intro w' hS
           go_simp
           try with_reducible rfl
         try simp only [Act.put, List.setIfInBounds_toArray, List.set_cons_zero, List.set_cons_succ]
         refine' wpAnyH_take (i := 27) (v := _) (op_at rfl) (by kernel_rfl) (by kernel_rfl) (by kernel_rfl) (fun _ _ _ h => h) (Or.inl ⟨by rfl, ?hy39⟩) (by assumption) ?rest39
         case hy39 =>
           intro w' hS
           have q14 := cell_in ((q6.trans hS).at hbX8 (by simp)) 14
           go_simp
           try with_reducible rfl
         try simp only [Act.put, List.setIfInBounds_toArray, List.set_cons_zero, List.set_cons_succ]
         refine' wpAnyH_take (i := 28) (v := _) (op_at rfl) (by kernel_rfl) (by kernel_rfl) (by kernel_rfl) (fun _ _ _ h => h) (Or.inl ⟨by rfl, ?hy40⟩) (by assumption) ?rest40
         case hy40 =>
           intro w' hS
           go_simp
           try with_reducible rfl
         try simp only [Act.put, List.setIfInBounds_toArray, List.set_cons_zero, List.set_cons_succ]
         refine' wpAnyH_take (i := 29) (v := _) (op_at rfl) (by kernel_rfl) (by kernel_rfl) (by kernel_rfl) (fun _ _ _ h => h) (Or.inl ⟨by rfl, ?hy41⟩) (by assumption) ?rest41
         case hy41 =>
           intro w' hS
           go_simp
           try with_reducible rfl
         try simp only [Act.put, List.setIfInBounds_toArray, List.set_cons_zero, List.set_cons_succ]
         refine' wpAnyH_take (i := 30) (v := _) (op_at rfl) (by kernel_rfl) (by kernel_rfl) (by kernel_rfl) (fun _ _ _ h => h) (Or.inl ⟨by rfl, ?hy42⟩) (by assumption) ?rest42
         case hy42 =>
           intro w' hS
           go_simp
           try with_reducible rfl
         try simp only [Act.put, List.setIfInBounds_toArray, List.set_cons_zero, List.set_cons_succ]
         refine' wpAnyH_take (i := 31) (v := _) (op_at rfl) (by kernel_rfl) (by kernel_rfl) (by kernel_rfl) (fun _ _ _ h => h) (Or.inl ⟨by rfl, ?hy43⟩) (by assumption) ?rest43
         case hy43 =>
           intro w' hS
           go_simp
           try with_reducible rfl
         try simp only [Act.put, List.setIfInBounds_toArray, List.set_cons_zero, List.set_cons_succ]
         refine' wpAnyH_take (i := 32) (v := _) (op_at rfl) (by kernel_rfl) (by kernel_rfl) (by kernel_rfl) (fun _ _ _ h => h) (Or.inl ⟨by rfl, ?hy44⟩) (by assumption) ?rest44
         case hy44 =>
           intro w' hS
           go_simp
           try with_reducible rfl
         try simp only [Act.put, List.setIfInBounds_toArray, List.set_cons_zero, List.set_cons_succ]
         refine' wpAnyH_take (i := 33) (v := _) (op_at rfl) (by kernel_rfl) (by kernel_rfl) (by kernel_rfl) (fun _ _ _ h => h) (Or.inl ⟨by rfl, ?hy45⟩) (by assumption) ?rest45
         case hy45 =>
           intro w' hS
           have q13 := cell_in ((q6.trans hS).at hbY8 (by simp)) 13
           go_simp
           try with_reducible rfl
         try simp only [Act.put, List.setIfInBounds_toArray, List.set_cons_zero, List.set_cons_succ]
         refine' wpAnyH_take (i := 34) (v := _) (op_at rfl) (by kernel_rfl) (by kernel_rfl) (by kernel_rfl) (fun _ _ _ h => h) (Or.inl ⟨by rfl, ?hy46⟩) (by assumption) ?rest46
         case hy46 =>
           intro w' hS
           go_simp
           try with_reducible rfl
         try simp only [Act.put, List.setIfInBounds_toArray, List.set_cons_zero, List.set_cons_succ]
         refine' wpAnyH_take (i := 35) (v := _) (op_at rfl) (by kernel_rfl) (by kernel_rfl) (by kernel_rfl) (fun _ _ _ h => h) (Or.inl ⟨by rfl, ?hy47⟩) (by assumption) ?rest47
         case hy47 =>
           intro w' hS
           go_simp
           try with_reducible rfl
         try simp only [Act.put, List.setIfInBounds_toArray, List.set_cons_zero, List.set_cons_succ]
         refine' wpAnyH_take (i := 36) (v := _) (op_at rfl) (by kernel_rfl) (by kernel_rfl) (by kernel_rfl) (fun _ _ _ h => h) (Or.inl ⟨by rfl, ?hy48⟩) (by assumption) ?rest48
         case hy48 =>
           intro w' hS
           have q13 := cell_in ((q6.trans hS).at hbX8 (by simp)) 13
           go_simp
           try with_reducible rfl
         try simp only [Act.put, List.setIfInBounds_toArray, List.set_cons_zero, List.set_cons_succ]
         refine' wpAnyH_take (i := 37) (v := _) (op_at rfl) (by kernel_rfl) (by kernel_rfl) (by kernel_rfl) (fun _ _ _ h => h) (Or.inl ⟨by rfl, ?hy49⟩) (by assumption) ?rest49
         case hy49 =>
           intro w' hS
           go_simp
           try with_reducible rfl
         try simp only [Act.put, List.setIfInBounds_toArray, List.set_cons_zero, List.set_cons_succ]
         refine' wpAnyH_take (i := 38) (v := _) (op_at rfl) (by kernel_rfl) (by kernel_rfl) (by kernel_rfl) (fun _ _ _ h => h) (Or.inl ⟨by rfl, ?hy50⟩) (by assumption) ?rest50
         case hy50 =>
           intro w' hS
           go_simp
           try with_reducible rfl
         try simp only [Act.put, List.setIfInBounds_toArray, List.set_cons_zero, List.set_cons_succ]
         refine' wpAnyH_take (i := 39) (v := _) (op_at rfl) (by kernel_rfl) (by kernel_rfl) (by kernel_rfl) (fun _ _ _ h => h) (Or.inl ⟨by rfl, ?hy51⟩) (by assumption) ?rest51
         case hy51 =>
           intro w' hS
           go_simp
           try with_reducible rfl
         try simp only [Act.put, List.setIfInBounds_toArray, List.set_cons_zero, List.set_cons_succ]
         refine' wpAnyH_take (i := 40) (v := _) (op_at rfl) (by kernel_rfl) (by kernel_rfl) (by kernel_rfl) (fun _ _ _ h => h) (Or.inl ⟨by rfl, ?hy52⟩) (by assumption) ?rest52
         case hy52 =>
           intro w' hS
           go_simp
           try with_reducible rfl
         try simp only [Act.put, List.setIfInBounds_toArray, List.set_cons_zero, List.set_cons_succ]
         refine' wpAnyH_take (i := 41) (v := _) (op_at rfl) (by kernel_rfl) (by kernel_rfl) (by kernel_rfl) (fun _ _ _ h => h) (Or.inl ⟨by rfl, ?hy53⟩) (by assumption) ?rest53
         case hy53 =>
           intro w' hS
           have q15 := cell_in ((q6.trans hS).at hbY8 (by simp)) 15
           go_simp
           try with_reducible rfl
         try simp only [Act.put, List.setIfInBounds_toArray, List.set_cons_zero, List.set_cons_succ]
         refine' wpAnyH_take (i := 42) (v := _) (op_at rfl) (by kernel_rfl) (by kernel_rfl) (by kernel_rfl) (fun _ _ _ h => h) (Or.inl ⟨by rfl, ?hy54⟩) (by assumption) ?rest54
         case hy54 =>
           intro w' hS
           have hs_ := run_str (P := Try.prog) (w := w') (S := 22) (T := 9) Try.underlying22 Try.underlying5 Try.underlying9 (Rd.new hg8.gz.2.1 (q6.trans hS)) rfl
           go_simp
           try with_reducible rfl
         try simp only [Act.put, List.setIfInBounds_toArray, List.set_cons_zero, List.set_cons_succ]
         refine' wpAnyH_take (i := 43) (v := _) (op_at rfl) (by kernel_rfl) (by kernel_rfl) (by kernel_rfl) (fun _ _ _ h => h) (Or.inl ⟨by rfl, ?hy55⟩) (by assumption) ?rest55
         case hy55 =>
           intro w' hS
           go_simp
           try with_reducible rfl
         try simp only [Act.put, List.setIfInBounds_toArray, List.set_cons_zero, List.set_cons_succ]
         refine' wpAnyH_take (i := 44) (v := _) (op_at rfl) (by kernel_rfl) (by kernel_rfl) (by kernel_rfl) (fun _ _ _ h => h) (Or.inl ⟨by rfl, ?hy56⟩) (by assumption) ?rest56
         case hy56 =>
           intro w' hS
           have q15 := cell_in ((q6.trans hS).at hbX8 (by simp)) 15
           go_simp
           try with_reducible rfl
         try simp only [Act.put, List.setIfInBounds_toArray, List.set_cons_zero, List.set_cons_succ]
         refine' wpAnyH_take (i := 45) (v := _) (op_at rfl) (by kernel_rfl) (by kernel_rfl) (by kernel_rfl) (fun _ _ _ h => h) (Or.inl ⟨by rfl, ?hy57⟩) (by assumption) ?rest57
         case hy57 =>
           intro w' hS
           have hs_ := run_str (P := Try.prog) (w := w') (S := 22) (T := 9) Try.underlying22 Try.underlying5 Try.underlying9 (Rd.new mz (q6.trans hS)) rfl
           go_simp
           try with_reducible rfl
         try simp only [Act.put, List.setIfInBounds_toArray, List.set_cons_zero, List.set_cons_succ]
         refine' wpAnyH_take (i := 46) (v := _) (op_at rfl) (by kernel_rfl) (by kernel_rfl) (by kernel_rfl) (fun _ _ _ h => h) (Or.inl ⟨by rfl, ?hy58⟩) (by assumption) ?rest58
         case hy58 =>
           intro w' hS
           go_simp
           try with_reducible rfl
         try simp only [Act.put, List.setIfInBounds_toArray, List.set_cons_zero, List.set_cons_succ]
         refine' wpAnyH_take (i := 47) (v := _) (op_at rfl) (by kernel_rfl) (by kernel_rfl) (by kernel_rfl) (fun _ _ _ h => h) (Or.inl ⟨by rfl, ?hy59⟩) (by assumption) ?rest59
         case hy59 =>
           intro w' hS
           go_simp
           try with_reducible rfl
         try simp only [Act.put, List.setIfInBounds_toArray, List.set_cons_zero, List.set_cons_succ]
         refine' wpAnyH_take (i := 48) (v := _) (op_at rfl) (by kernel_rfl) (by kernel_rfl) (by kernel_rfl) (fun _ _ _ h => h) (Or.inl ⟨by rfl, ?hy60⟩) (by assumption) ?rest60
         case hy60 =>
           intro w' hS
           go_simp
           try with_reducible rfl
         try simp only [Act.put, List.setIfInBounds_toArray, List.set_cons_zero, List.set_cons_succ]
         refine' wpAnyH_take (i := 49) (v := _) (op_at rfl) (by kernel_rfl) (by kernel_rfl) (by kernel_rfl) (fun _ _ _ h => h) (Or.inl ⟨by rfl, ?hy61⟩) (by assumption) ?rest61
         case hy61 =>
           intro w' hS
           go_simp
           try with_reducible rfl
         try simp only [Act.put, List.setIfInBounds_toArray, List.set_cons_zero, List.set_cons_succ]
         refine' wpAnyH_take (i := 50) (v := _) (op_at rfl) (by kernel_rfl) (by kernel_rfl) (by kernel_rfl) (fun _ _ _ h => h) (Or.inl ⟨by rfl, ?hy62⟩) (by assumption) ?rest62
         case hy62 =>
           intro w' hS
           have q4 := cell_in ((q6.trans hS).at hbY8 (by simp)) 4
           go_simp
           try with_reducible rfl
         try simp only [Act.put, List.setIfInBounds_toArray, List.set_cons_zero, List.set_cons_succ]
         refine' wpAnyH_take (i := 51) (v := _) (op_at rfl) (by kernel_rfl) (by kernel_rfl) (by kernel_rfl) (fun _ _ _ h => h) (Or.inl ⟨by rfl, ?hy63⟩) (by assumption) ?rest63
         case hy63 =>
           intro w' hS
           have hs_ := run_str (P := Try.prog) (w := w') (S := 22) (T := 9) Try.underlying22 Try.underlying5 Try.underlying9 (Rd.new hg8.gs.2.1 (q6.trans hS)) rfl
           go_simp
           try with_reducible rfl
         try simp only [Act.put, List.setIfInBounds_toArray, List.set_cons_zero, List.set_cons_succ]
         refine' wpAnyH_take (i := 52) (v := _) (op_at rfl) (by kernel_rfl) (by kernel_rfl) (by kernel_rfl) (fun _ _ _ h => h) (Or.inl ⟨by rfl, ?hy64⟩) (by assumption) ?rest64
         case hy64 =>
           intro w' hS
           go_simp
           try with_reducible rfl
         try simp only [Act.put, List.setIfInBounds_toArray, List.set_cons_zero, List.set_cons_succ]
         refine' wpAnyH_take (i := 53) (v := _) (op_at rfl) (by kernel_rfl) (by kernel_rfl) (by kernel_rfl) (fun _ _ _ h => h) (Or.inl ⟨by rfl, ?hy65⟩) (by assumption) ?rest65
         case hy65 =>
           intro w' hS
           have q4 := cell_in ((q6.trans hS).at hbX8 (by simp)) 4
           go_simp
           try with_reducible rfl
         try simp only [Act.put, List.setIfInBounds_toArray, List.set_cons_zero, List.set_cons_succ]
         refine' wpAnyH_take (i := 54) (v := _) (op_at rfl) (by kernel_rfl) (by kernel_rfl) (by kernel_rfl) (fun _ _ _ h => h) (Or.inl ⟨by rfl, ?hy66⟩) (by assumption) ?rest66
         case hy66 =>
           intro w' hS
           have hs_ := run_str (P := Try.prog) (w := w') (S := 22) (T := 9) Try.underlying22 Try.underlying5 Try.underlying9 (Rd.new mp (q6.trans hS)) rfl
           go_simp
           try with_reducible rfl
         try simp only [Act.put, List.setIfInBounds_toArray, List.set_cons_zero, List.set_cons_succ]
         refine' wpAnyH_take (i := 55) (v := _) (op_at rfl) (by kernel_rfl) (by kernel_rfl) (by kernel_rfl) (fun _ _ _ h => h) (Or.inl ⟨by rfl, ?hy67⟩) (by assumption) ?rest67
         case hy67 =>
           intro w' hS
           go_simp
           try with_reducible rfl
         try simp only [Act.put, List.setIfInBounds_toArray, List.set_cons_zero, List.set_cons_succ]
         refine' wpAnyH_take (i := 56) (v := _) (op_at rfl) (by kernel_rfl) (by kernel_rfl) (by kernel_rfl) (fun _ _ _ h => h) (Or.inl ⟨by rfl, ?hy68⟩) (by assumption) ?rest68
         case hy68 =>
           intro w' hS
           go_simp
           try with_reducible rfl
         try simp only [Act.put, List.setIfInBounds_toArray, List.set_cons_zero, List.set_cons_succ]
         refine' wpAnyH_take (i := 57) (v := _) (op_at rfl) (by kernel_rfl) (by kernel_rfl) (by kernel_rfl) (fun _ _ _ h => h) (Or.inl ⟨by rfl, ?hy69⟩) (by assumption) ?rest69
         case hy69 =>
           intro w' hS
           go_simp
           try with_reducible rfl
         try simp only [Act.put, List.setIfInBounds_toArray, List.set_cons_zero, List.set_cons_succ]
         refine wpAnyH_take (i := 58) (op_at rfl) (by kernel_rfl) (by kernel_rfl) (by kernel_rfl) (fun _ _ _ h => h) (yieldsIf_load_mid (by rfl) _ _ rfl Y 0 rfl [.int .i64 fu2, .int .i64 fd2, .int .i64 tu2, .int .i64 td2, .slice ap' ss.length cp', .bool hs, .slice ax' h.ag.length cx', .slice ay' h.sg.length cy', .slice ak' h.key.length ck', .int .u32 h.signed, .bool h.has, .int .u32 h.once, .slice ad' dks.length cd', .int .u32 dp, .int .u32 dn, .slice az' sls.length cz'] _ (fun w' hS => range_of ((q6.trans hS).at hbY8 (by simp))) Try.underlying43 (by rfl) info_env) (by assumption) ?_
         try simp only [Act.put, List.setIfInBounds_toArray, List.set_cons_zero, List.set_cons_succ]
         refine' wpAnyH_take (i := 61) (v := _) (op_at rfl) (by kernel_rfl) (by kernel_rfl) (by kernel_rfl) (fun _ _ _ h => h) (Or.inl ⟨by rfl, ?hy70⟩) (by assumption) ?rest70
         case hy70 =>
           intro w' hS
           go_simp
           try with_reducible rfl
         try simp only [Act.put, List.setIfInBounds_toArray, List.set_cons_zero, List.set_cons_succ]
         refine' wpAnyH_take (i := 62) (v := _) (op_at rfl) (by kernel_rfl) (by kernel_rfl) (by kernel_rfl) (fun _ _ _ h => h) (Or.inl ⟨by rfl, ?hy71⟩) (by assumption) ?rest71
         case hy71 =>
           intro w' hS
           have hs_ := run_str (P := Try.prog) (w := w') (S := 22) (T := 9) Try.underlying22 Try.underlying5 Try.underlying9 (Rd.new kyz (q6.trans hS)) rfl
           go_simp
           try with_reducible rfl
         try simp only [Act.put, List.setIfInBounds_toArray, List.set_cons_zero, List.set_cons_succ]
         refine wpAnyH_ready (rs := [59]) (by kernel_rfl) (by simp) (AllReadyH.cons (op_at rfl) (fun K hK => ?_) AllReadyH.nil)
         go_simp
         refine (encode_any fu2 fd2 tu2 td2 h.signed h.once dp dn hs h.has (.slice ap' ss.length cp') (.slice ax' h.ag.length cx') (.slice ay' h.sg.length cy') (.slice ak' h.key.length ck') (.slice ad' dks.length cd') (.slice az' sls.length cz') ss h.ag h.sg h.key dks sls _ (Rd.new hg8.gs.2.1 q6) (Rd.new hg8.gh.ga.2.1 q6) (Rd.new hg8.gh.gs.2.1 q6) (Rd.new hg8.gh.gk.2.1 q6) (Rd.new hg8.gd.2.1 q6) (Rd.new hg8.gz.2.1 q6) uhs uho udp udn (by omega)).mono fun e w11 hq => ?_
         obtain ⟨us, a11, k11, Hus, rfl, s1, s2, s3⟩ := hq.name
         clear hq
         go_wp2_with fail
         refine hK.out _ _ s3 (fun hHeld1 => ?_)
         clear hK K
         try simp only [Act.put, List.setIfInBounds_toArray, List.set_cons_zero, List.set_cons_succ]
         refine wpAnyH_more (S' := fun w' => Only w11 w' []) (fun w' h => Only.trans s3 h) _ _ _ _ ?_
         clear hHeld hHeld1
         have hHeld : Only w11 w11 [] := Only.refl _ _
         as_aux_lemma =>
          have q8 := q6.trans s3
          have huz : us = zs := by rw [Hus.out, Hzs.out, Hag.out]
          subst huz
          refine' wpAnyH_take (i := 60) (v := _) (op_at rfl) (by kernel_rfl) (by kernel_rfl) (by kernel_rfl) (fun _ _ _ h => h) (Or.inl ⟨by rfl, ?hy72⟩) (by assumption) ?rest72
          case hy72 =>
            intro w' hS
            have hs_ := run_str (P := Try.prog) (w := w') (S := 22) (T := 9) Try.underlying22 Try.underlying5 Try.underlying9 ((own_rd s1).new hS) rfl
            go_simp
            try with_reducible rfl
          try simp only [Act.put, List.setIfInBounds_toArray, List.set_cons_zero, List.set_cons_succ]
          refine' wpAnyH_take (i := 63) (v := _) (op_at rfl) (by kernel_rfl) (by kernel_rfl) (by kernel_rfl) (fun _ _ _ h => h) (Or.inl ⟨by rfl, ?hy73⟩) (by assumption) ?rest73
          case hy73 =>
            intro w' hS
            go_simp
            try with_reducible rfl
          try simp only [Act.put, List.setIfInBounds_toArray, List.set_cons_zero, List.set_cons_succ]
          refine' wpAnyH_take (i := 64) (v := _) (op_at rfl) (by kernel_rfl) (by kernel_rfl) (by kernel_rfl) (fun _ _ _ h => h) (Or.inl ⟨by rfl, ?hy74⟩) (by assumption) ?rest74
          case hy74 =>
            intro w' hS
            go_simp
            try with_reducible rfl
          try simp only [Act.put, List.setIfInBounds_toArray, List.set_cons_zero, List.set_cons_succ]
          refine' wpAnyH_take (i := 65) (v := _) (op_at rfl) (by kernel_rfl) (by kernel_rfl) (by kernel_rfl) (fun _ _ _ h => h) (Or.inl ⟨by rfl, ?hy75⟩) (by assumption) ?rest75
          case hy75 =>
            intro w' hS
            go_simp
            try with_reducible rfl
          try simp only [Act.put, List.setIfInBounds_toArray, List.set_cons_zero, List.set_cons_succ]
          refine wpAnyH_take (i := 66) (op_at rfl) (by kernel_rfl) (by kernel_rfl) (by kernel_rfl) (fun _ _ _ h => h) (yieldsIf_load_mid (by rfl) _ _ rfl X 0 rfl [.int .i64 fu, .int .i64 fd, .int .i64 tu, .int .i64 td, .slice ap ss.length cp, .bool hs, .slice ax has.length cx, .slice ay hss.length cy, .slice ak hks.length ck, .int .u32 sg, .bool hh, .int .u32 on, .slice ad dks.length cd, .int .u32 dp, .int .u32 dn, .slice az sls.length cz] _ (fun w' hS => range_of ((q8.trans hS).at hbX8 (by simp))) Try.underlying43 (by rfl) info_env) (by assumption) ?_
          try simp only [Act.put, List.setIfInBounds_toArray, List.set_cons_zero, List.set_cons_succ]
          refine wpAnyH_take (i := 67) (op_at rfl) (by kernel_rfl) (by kernel_rfl) (by kernel_rfl) (fun _ _ _ h => h) (yieldsIf_load_mid (by rfl) _ _ rfl Y 0 rfl [.int .i64 fu2, .int .i64 fd2, .int .i64 tu2, .int .i64 td2, .slice ap' ss.length cp', .bool hs, .slice ax' h.ag.length cx', .slice ay' h.sg.length cy', .slice ak' h.key.length ck', .int .u32 h.signed, .bool h.has, .int .u32 h.once, .slice ad' dks.length cd', .int .u32 dp, .int .u32 dn, .slice az' sls.length cz'] _ (fun w' hS => range_of ((q8.trans hS).at hbY8 (by simp))) Try.underlying43 (by rfl) info_env) (by assumption) ?_
          try simp only [Act.put, List.setIfInBounds_toArray, List.set_cons_zero, List.set_cons_succ]
          refine wpAnyH_ready (rs := [68]) (by kernel_rfl) (by simp) (AllReadyH.cons (op_at rfl) (fun K hK => ?_) AllReadyH.nil)
          go_simp
          refine (same_any fu fd tu td sg on dp dn hs hh ss has hss hks dks sls ap ax ay ak ad az cp cx cy ck cd cz fu2 fd2 tu2 td2 h.signed h.once dp dn hs h.has ss h.ag h.sg h.key dks sls ap' ax' ay' ak' ad' az' cp' cx' cy' ck' cd' cz' _ (mp.new q8) (mx.new q8) (my.new q8) (mk.new q8) (md.new q8) (mz.new q8) (Rd.new hg8.gs.2.1 q8) (Rd.new hg8.gh.ga.2.1 q8) (Rd.new hg8.gh.gs.2.1 q8) (Rd.new hg8.gh.gk.2.1 q8) (Rd.new hg8.gd.2.1 q8) (Rd.new hg8.gz.2.1 q8) usg uon udp udn uhs uho udp udn hl1 (by omega) (byt_env _ _ _ _ _ _ _ _ _ _ bp bx by_ bk bd bz) (byt_env _ _ _ _ _ _ _ _ _ _ bp hhb.1 hhb.2.1 hhb.2.2 bd bz) true (by rw [Hag.out]; simp)).mono ?_
          rintro e w12 ⟨rfl, n9⟩
          go_wp2_with fail
          refine hK.out _ _ n9 (fun hHeld1 => ?_)
          clear hK K
          try simp only [Act.put, List.setIfInBounds_toArray, List.set_cons_zero, List.set_cons_succ]
          refine wpAnyH_more (S' := fun w' => Only w12 w' []) (fun w' h => Only.trans n9 h) _ _ _ _ ?_
          clear hHeld hHeld1
          have hHeld : Only w12 w12 [] := Only.refl _ _
          as_aux_lemma =>
           have q10 := q8.trans n9
           refine' wpAnyH_take (i := 69) (v := _) (op_at rfl) (by kernel_rfl) (by kernel_rfl) (by kernel_rfl) (fun _ _ _ h => h) (Or.inl ⟨by rfl, ?hy76⟩) (by assumption) ?rest76
           case hy76 =>
             intro w' hS
             go_simp
             try with_reducible rfl
           try simp only [Act.put, List.setIfInBounds_toArray, List.set_cons_zero, List.set_cons_succ]
           refine' wpAnyH_take (i := 70) (v := _) (op_at rfl) (by kernel_rfl) (by kernel_rfl) (by kernel_rfl) (fun _ _ _ h => h) (Or.inl ⟨by rfl, ?hy77⟩) (by assumption) ?rest77
           case hy77 =>
             intro w' hS
             go_simp
             try with_reducible rfl
           try simp only [Act.put, List.setIfInBounds_toArray, List.set_cons_zero, List.set_cons_succ]
           refine wpAnyH_done (by kernel_rfl) ?_ _
           go_wp2_with fail
           go_ret
           exact ⟨rfl, (o8.trans q10).below (Nat.le_refl _) (by simp)⟩

theorem envelopeBytes_holds : Rows.EnvelopeBytesSaid := envelopeBytes.said fun H enc base W v0 d0 p0 h0 t0 z0 => by
  obtain ⟨_, _, _, _, _, _, _, _, _, _, _, _, _, _, _, _, rfl, ⟨fu, rfl⟩, ⟨fd, rfl⟩, ⟨tu, rfl⟩, ⟨td, rfl⟩, ⟨ap, cp, ss, rfl, hp, bp, lp⟩, ⟨hs, rfl⟩, ⟨ax, cx, has, rfl, hx, bx, lx⟩, ⟨ay, cy, hss, rfl, hy, by_, ly⟩, ⟨ak, ck, hks, rfl, hk, bk, lk⟩, ⟨sg, rfl, usg⟩, ⟨hh, rfl⟩, ⟨on, rfl, uon⟩, ⟨ad, cd, dks, rfl, hd, bd, ld⟩, ⟨dp, rfl, udp⟩, ⟨dn, rfl, udn⟩, ⟨az, cz, sls, rfl, hz, bz, lz⟩⟩ := open_env h0 t0 z0
  by_cases hl1 : ss.length + has.length + hss.length + hks.length + dks.length + sls.length ≤ 3000
  · exact bytes_main fu fd tu td sg on dp dn hs hh ss has hss hks dks sls ap ax ay ak ad az cp cx cy ck cd cz W hp hx hy hk hd hz bp bx by_ bk bd bz usg uon udp udn lp lx ly lk ld lz hl1
  · exact bytes_bail fu fd tu td sg on dp dn hs hh ss has hss hks dks sls ap ax ay ak ad az cp cx cy ck cd cz W hp hx hy hk hd hz bp bx by_ bk bd bz usg uon udp udn lp lx ly lk ld lz hl1
end Go.Proofs.Ytemlpjfngaemdaa
