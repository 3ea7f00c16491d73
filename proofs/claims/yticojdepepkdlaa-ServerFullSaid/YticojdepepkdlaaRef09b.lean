/- The contracts of the reference of layers 9 to 14 (pawlref09), second part: Front, Envelope, Inner, Bundle, for bytes shorter than the bounds that each contract names. -/
import Derived.Test.YticojdepepkdlaaPf
set_option linter.unusedSimpArgs false
set_option linter.unusedVariables false
namespace Go.Proofs.Yticojdepepkdlaa
open Go.RowKit Go.Pw
set_option linter.unusedVariables false

/-- The bytes of an envelope without what is sealed; of an envelope; of what is sealed; of a bundle. -/
def frontB (fu fd tu td : Int) (ss : List Int) (hs : Bool) (has hss hks : List Int) (sg : Int) (hh : Bool) (on : Int) : List Int :=
  whoB fu fd ++ whoB tu td ++ be ss.length 4 ++ ss ++ [if hs then 1 else 0] ++ if hs then helloB has hss hks sg hh on else []
def envB (fu fd tu td : Int) (ss : List Int) (hs : Bool) (has hss hks : List Int) (sg : Int) (hh : Bool) (on : Int) (dks : List Int) (dp dn : Int) (sls : List Int) : List Int :=
  frontB fu fd tu td ss hs has hss hks sg hh on ++ headB dks dp dn ++ be sls.length 4 ++ sls
def innerB (u n : Int) (ts : List Int) : List Int := be (IntKind.u32.wrap u) 4 ++ be n 4 ++ be ts.length 4 ++ ts
def bundleB (u d : Int) (ags sgs : List Int) (sg : Int) (ks gs : List Int) (has : Bool) (on : Int) (os : List Int) : List Int :=
  whoB u d ++ identB ags sgs ++ be sg 4 ++ be ks.length 4 ++ ks ++ be gs.length 4 ++ gs ++ [if has then 1 else 0] ++ if has then be on 4 ++ be os.length 4 ++ os else []

theorem whoB_len (u d : Int) : (whoB u d).length = 8 := by simp [whoB, be_len]
theorem identB_len (a s : List Int) : (identB a s).length = a.length + s.length + 8 := by simp [identB, be_len]; omega
theorem helloB_len (a s k : List Int) (sg : Int) (hh : Bool) (on : Int) : (helloB a s k sg hh on).length ≤ a.length + s.length + k.length + 21 := by
  cases hh <;> simp [helloB, identB_len, be_len] <;> omega
theorem headB_len (k : List Int) (p n : Int) : (headB k p n).length = k.length + 12 := by simp [headB, be_len]; omega
theorem frontB_len (fu fd tu td : Int) (ss : List Int) (hs : Bool) (has hss hks : List Int) (sg : Int) (hh : Bool) (on : Int) : (frontB fu fd tu td ss hs has hss hks sg hh on).length ≤ ss.length + has.length + hss.length + hks.length + 42 := by
  have := helloB_len has hss hks sg hh on
  cases hs <;> simp [frontB, whoB_len, be_len] <;> omega

set_option maxRecDepth 100000 in
set_option maxHeartbeats 3200000 in
theorem rffront_any (fu fd tu td sg on dp dn : Int) (hs hh : Bool) (vss : Value) (vha : Value) (vhs : Value) (vhk : Value) (vdk : Value) (vsl : Value) (ss : List Int) (has : List Int) (hss : List Int) (hks : List Int) (dks : List Int) (sls : List Int) (w : World) (hp : Rd w vss ss) (hx : Rd w vha has) (hy : Rd w vhs hss) (hk : Rd w vhk hks) (hd : Rd w vdk dks) (hz : Rd w vsl sls) (hsg : U32 sg) (hon : U32 on) (hdp : U32 dp) (hdn : U32 dn) (hl : ss.length + has.length + hss.length + hks.length + dks.length + sls.length ≤ 400000) :
    Calls Try.prog 19 #[.agg #[.int .i64 fu, .int .i64 fd, .int .i64 tu, .int .i64 td, vss, .bool hs, vha, vhs, vhk, .int .u32 sg, .bool hh, .int .u32 on, vdk, .int .u32 dp, .int .u32 dn, vsl]] w (Fresh (frontB fu fd tu td ss hs has hss hks sg hh on) w) := by
  obtain ⟨ap, cp, rfl⟩ := hp.slice
  obtain ⟨ax, cx, rfl⟩ := hx.slice
  obtain ⟨ay, cy, rfl⟩ := hy.slice
  obtain ⟨ak, ck, rfl⟩ := hk.slice
  obtain ⟨ad, cd, rfl⟩ := hd.slice
  obtain ⟨az, cz, rfl⟩ := hz.slice
  go_enter Try.func19, Try.ntmps19
  go_wp2_with fail
  obtain ⟨W, X, hW, hX, hb, hoW, hX1, hX2⟩ := new_block w (.cells #[.int .i64 fu, .int .i64 fd, .int .i64 tu, .int .i64 td, .slice ap ss.length cp, .bool hs, .slice ax has.length cx, .slice ay hss.length cy, .slice ak hks.length ck, .int .u32 sg, .bool hh, .int .u32 on, .slice ad dks.length cd, .int .u32 dp, .int .u32 dn, .slice az sls.length cz] 41)
  rw [← hW, ← hX]
  clear hW hX
  have Sk : ∀ w', Only W w' [] → w'.cell? ⟨X, 0, none⟩ = some (.int .i64 fu) ∧ w'.cell? ⟨X, 1, none⟩ = some (.int .i64 fd) ∧ w'.cell? ⟨X, 2, none⟩ = some (.int .i64 tu) ∧ w'.cell? ⟨X, 3, none⟩ = some (.int .i64 td) ∧ w'.cell? ⟨X, 4, none⟩ = some (.slice ap ss.length cp) ∧ w'.cell? ⟨X, 5, none⟩ = some (.bool hs) ∧ w'.cell? ⟨X, 6, none⟩ = some (.slice ax has.length cx) ∧ w'.cell? ⟨X, 7, none⟩ = some (.slice ay hss.length cy) ∧ w'.cell? ⟨X, 8, none⟩ = some (.slice ak hks.length ck) ∧ w'.cell? ⟨X, 9, none⟩ = some (.int .u32 sg) ∧ w'.cell? ⟨X, 10, none⟩ = some (.bool hh) ∧ w'.cell? ⟨X, 11, none⟩ = some (.int .u32 on) ∧ w'.cell? ⟨X, 12, none⟩ = some (.slice ad dks.length cd) ∧ w'.cell? ⟨X, 13, none⟩ = some (.int .u32 dp) ∧ w'.cell? ⟨X, 14, none⟩ = some (.int .u32 dn) ∧ w'.cell? ⟨X, 15, none⟩ = some (.slice az sls.length cz) := fun w' ho => ⟨ho.cell_in hb (by simp) 0, ho.cell_in hb (by simp) 1, ho.cell_in hb (by simp) 2, ho.cell_in hb (by simp) 3, ho.cell_in hb (by simp) 4, ho.cell_in hb (by simp) 5, ho.cell_in hb (by simp) 6, ho.cell_in hb (by simp) 7, ho.cell_in hb (by simp) 8, ho.cell_in hb (by simp) 9, ho.cell_in hb (by simp) 10, ho.cell_in hb (by simp) 11, ho.cell_in hb (by simp) 12, ho.cell_in hb (by simp) 13, ho.cell_in hb (by simp) 14, ho.cell_in hb (by simp) 15⟩
  have hod := Only.drew W []
  have np := hp.new (hoW.trans hod)
  have nx := hx.new (hoW.trans hod)
  have ny := hy.new (hoW.trans hod)
  have nk := hk.new (hoW.trans hod)
  have nd := hd.new (hoW.trans hod)
  have nz := hz.new (hoW.trans hod)
  clear hb hp hx hy hk hd hz
  go_region_held3 (fun w' => w'.cell? ⟨X, 0, none⟩ = some (.int .i64 fu) ∧ w'.cell? ⟨X, 1, none⟩ = some (.int .i64 fd) ∧ w'.cell? ⟨X, 2, none⟩ = some (.int .i64 tu) ∧ w'.cell? ⟨X, 3, none⟩ = some (.int .i64 td) ∧ w'.cell? ⟨X, 4, none⟩ = some (.slice ap ss.length cp) ∧ w'.cell? ⟨X, 5, none⟩ = some (.bool hs) ∧ w'.cell? ⟨X, 6, none⟩ = some (.slice ax has.length cx) ∧ w'.cell? ⟨X, 7, none⟩ = some (.slice ay hss.length cy) ∧ w'.cell? ⟨X, 8, none⟩ = some (.slice ak hks.length ck) ∧ w'.cell? ⟨X, 9, none⟩ = some (.int .u32 sg) ∧ w'.cell? ⟨X, 10, none⟩ = some (.bool hh) ∧ w'.cell? ⟨X, 11, none⟩ = some (.int .u32 on) ∧ w'.cell? ⟨X, 12, none⟩ = some (.slice ad dks.length cd) ∧ w'.cell? ⟨X, 13, none⟩ = some (.int .u32 dp) ∧ w'.cell? ⟨X, 14, none⟩ = some (.int .u32 dn) ∧ w'.cell? ⟨X, 15, none⟩ = some (.slice az sls.length cz)) (exact Sk _ (by assumption))
    (first
      | (go_at_call 37; (with_reducible refine (rfwho_any (.slice none 0 0) [] fu fd _ (Rd.nil _) (by simp)).mono fun e w1 hq => ?_); obtain ⟨ys, a1, c1, Hys, rfl, g1, g2, g3⟩ := hq.name; have g4 := hod.trans g3; have gl : ys.length ≤ 8 := by rw [Hys.out]; simp [whoB_len])
      | (go_at_call 37; (with_reducible refine (rfwho_any (.slice a1 ys.length c1) ys tu td _ (own_rd g1) (by omega)).mono fun e w2 hq2 => ?_); obtain ⟨zs, a2, c2, Hzs, rfl, k1, k2, k3⟩ := hq2.name; have k4 := g4.trans k3; have kl : zs.length ≤ 16 := by rw [Hzs.out]; simp [whoB_len]; omega)
      | (go_at_call 17; (with_reducible refine (rfbytes_any (.slice a2 zs.length c2) (.slice ap ss.length cp) zs ss _ (own_rd k1) (np.new (g3.trans k3)) (by omega) (by omega)).mono fun e w3 hq3 => ?_); obtain ⟨us, a3, c3, Hus, rfl, l1, l2, l3⟩ := hq3.name; have l4 := k4.trans l3; have ll : us.length ≤ ss.length + 20 := by rw [Hus.out]; simp [be_len]; omega)
      | (go_at_call 36; (with_reducible refine (rfflag_any (.slice a3 us.length c3) us hs _ (own_rd l1) (by omega)).mono fun e w4 hq4 => ?_); obtain ⟨ts, a4, c4, Hts, rfl, m1, m2, m3⟩ := hq4.name; have m4 := l4.trans m3; have ml : ts.length ≤ ss.length + 21 := by rw [Hts.out]; simp; omega))
  have hS := Sk w4 m4
  cases hs
  · go_wp2_with fail
    go_ret
    exact fresh_end m1 m2 (hoW.trans l4).size (hoW.trans m4) (by rw [Hts.out, Hus.out, Hzs.out, Hys.out]; simp [frontB])
  · go_wp2_with fail
    refine (rfhello_any (.slice a4 ts.length c4) (.slice ax has.length cx) (.slice ay hss.length cy) (.slice ak hks.length ck) ts has hss hks sg on hh _ (own_rd m1) (nx.new ((g3.trans k3).trans (l3.trans m3))) (ny.new ((g3.trans k3).trans (l3.trans m3))) (nk.new ((g3.trans k3).trans (l3.trans m3))) hsg hon (by omega)).mono fun e w5 hq5 => ?_
    obtain ⟨rs, a5, c5, Hrs, rfl, o1, o2, o3⟩ := hq5.name
    clear hS
    go_wp2_with fail
    go_ret
    exact fresh_end o1 o2 (hoW.trans m4).size (hoW.trans (m4.trans o3)) (by rw [Hrs.out, Hts.out, Hus.out, Hzs.out, Hys.out]; simp [frontB])

set_option maxRecDepth 100000 in
set_option maxHeartbeats 3200000 in
theorem rfenv_any (fu fd tu td sg on dp dn : Int) (hs hh : Bool) (vss : Value) (vha : Value) (vhs : Value) (vhk : Value) (vdk : Value) (vsl : Value) (ss : List Int) (has : List Int) (hss : List Int) (hks : List Int) (dks : List Int) (sls : List Int) (w : World) (hp : Rd w vss ss) (hx : Rd w vha has) (hy : Rd w vhs hss) (hk : Rd w vhk hks) (hd : Rd w vdk dks) (hz : Rd w vsl sls) (hsg : U32 sg) (hon : U32 on) (hdp : U32 dp) (hdn : U32 dn) (hl : ss.length + has.length + hss.length + hks.length + dks.length + sls.length ≤ 400000) :
    Calls Try.prog 9 #[.agg #[.int .i64 fu, .int .i64 fd, .int .i64 tu, .int .i64 td, vss, .bool hs, vha, vhs, vhk, .int .u32 sg, .bool hh, .int .u32 on, vdk, .int .u32 dp, .int .u32 dn, vsl]] w (Fresh (envB fu fd tu td ss hs has hss hks sg hh on dks dp dn sls) w) := by
  obtain ⟨ap, cp, rfl⟩ := hp.slice
  obtain ⟨ax, cx, rfl⟩ := hx.slice
  obtain ⟨ay, cy, rfl⟩ := hy.slice
  obtain ⟨ak, ck, rfl⟩ := hk.slice
  obtain ⟨ad, cd, rfl⟩ := hd.slice
  obtain ⟨az, cz, rfl⟩ := hz.slice
  go_enter Try.func9, Try.ntmps9
  go_wp2_with fail
  obtain ⟨W, X, hW, hX, hb, hoW, hX1, hX2⟩ := new_block w (.cells #[.int .i64 fu, .int .i64 fd, .int .i64 tu, .int .i64 td, .slice ap ss.length cp, .bool hs, .slice ax has.length cx, .slice ay hss.length cy, .slice ak hks.length ck, .int .u32 sg, .bool hh, .int .u32 on, .slice ad dks.length cd, .int .u32 dp, .int .u32 dn, .slice az sls.length cz] 41)
  rw [← hW, ← hX]
  clear hW hX
  have Sk : ∀ w', Only W w' [] → w'.cell? ⟨X, 0, none⟩ = some (.int .i64 fu) ∧ w'.cell? ⟨X, 1, none⟩ = some (.int .i64 fd) ∧ w'.cell? ⟨X, 2, none⟩ = some (.int .i64 tu) ∧ w'.cell? ⟨X, 3, none⟩ = some (.int .i64 td) ∧ w'.cell? ⟨X, 4, none⟩ = some (.slice ap ss.length cp) ∧ w'.cell? ⟨X, 5, none⟩ = some (.bool hs) ∧ w'.cell? ⟨X, 6, none⟩ = some (.slice ax has.length cx) ∧ w'.cell? ⟨X, 7, none⟩ = some (.slice ay hss.length cy) ∧ w'.cell? ⟨X, 8, none⟩ = some (.slice ak hks.length ck) ∧ w'.cell? ⟨X, 9, none⟩ = some (.int .u32 sg) ∧ w'.cell? ⟨X, 10, none⟩ = some (.bool hh) ∧ w'.cell? ⟨X, 11, none⟩ = some (.int .u32 on) ∧ w'.cell? ⟨X, 12, none⟩ = some (.slice ad dks.length cd) ∧ w'.cell? ⟨X, 13, none⟩ = some (.int .u32 dp) ∧ w'.cell? ⟨X, 14, none⟩ = some (.int .u32 dn) ∧ w'.cell? ⟨X, 15, none⟩ = some (.slice az sls.length cz) := fun w' ho => ⟨ho.cell_in hb (by simp) 0, ho.cell_in hb (by simp) 1, ho.cell_in hb (by simp) 2, ho.cell_in hb (by simp) 3, ho.cell_in hb (by simp) 4, ho.cell_in hb (by simp) 5, ho.cell_in hb (by simp) 6, ho.cell_in hb (by simp) 7, ho.cell_in hb (by simp) 8, ho.cell_in hb (by simp) 9, ho.cell_in hb (by simp) 10, ho.cell_in hb (by simp) 11, ho.cell_in hb (by simp) 12, ho.cell_in hb (by simp) 13, ho.cell_in hb (by simp) 14, ho.cell_in hb (by simp) 15⟩
  have hod := Only.drew W []
  have np := hp.new (hoW.trans hod)
  have nx := hx.new (hoW.trans hod)
  have ny := hy.new (hoW.trans hod)
  have nk := hk.new (hoW.trans hod)
  have nd := hd.new (hoW.trans hod)
  have nz := hz.new (hoW.trans hod)
  clear hb hp hx hy hk hd hz
  go_region_held3 (fun w' => w'.cell? ⟨X, 0, none⟩ = some (.int .i64 fu) ∧ w'.cell? ⟨X, 1, none⟩ = some (.int .i64 fd) ∧ w'.cell? ⟨X, 2, none⟩ = some (.int .i64 tu) ∧ w'.cell? ⟨X, 3, none⟩ = some (.int .i64 td) ∧ w'.cell? ⟨X, 4, none⟩ = some (.slice ap ss.length cp) ∧ w'.cell? ⟨X, 5, none⟩ = some (.bool hs) ∧ w'.cell? ⟨X, 6, none⟩ = some (.slice ax has.length cx) ∧ w'.cell? ⟨X, 7, none⟩ = some (.slice ay hss.length cy) ∧ w'.cell? ⟨X, 8, none⟩ = some (.slice ak hks.length ck) ∧ w'.cell? ⟨X, 9, none⟩ = some (.int .u32 sg) ∧ w'.cell? ⟨X, 10, none⟩ = some (.bool hh) ∧ w'.cell? ⟨X, 11, none⟩ = some (.int .u32 on) ∧ w'.cell? ⟨X, 12, none⟩ = some (.slice ad dks.length cd) ∧ w'.cell? ⟨X, 13, none⟩ = some (.int .u32 dp) ∧ w'.cell? ⟨X, 14, none⟩ = some (.int .u32 dn) ∧ w'.cell? ⟨X, 15, none⟩ = some (.slice az sls.length cz)) (exact Sk _ (by assumption))
    (first
      | (go_at_call 19; (with_reducible refine (rffront_any fu fd tu td sg on dp dn hs hh (.slice ap ss.length cp) (.slice ax has.length cx) (.slice ay hss.length cy) (.slice ak hks.length ck) (.slice ad dks.length cd) (.slice az sls.length cz) ss has hss hks dks sls _ np nx ny nk nd nz hsg hon hdp hdn hl).mono fun e w1 hq => ?_); obtain ⟨ys, a1, c1, Hys, rfl, g1, g2, g3⟩ := hq.name; have g4 := hod.trans g3; have gl : ys.length ≤ ss.length + has.length + hss.length + hks.length + 42 := by rw [Hys.out]; exact frontB_len _ _ _ _ _ _ _ _ _ _ _ _)
      | (go_at_call 18; (with_reducible refine (rfhead_any (.slice a1 ys.length c1) (.slice ad dks.length cd) ys dks dp dn _ (own_rd g1) (nd.new g3) hdp hdn (by omega)).mono fun e w2 hq2 => ?_); obtain ⟨zs, a2, c2, Hzs, rfl, k1, k2, k3⟩ := hq2.name; have k4 := g4.trans k3; have kl : zs.length ≤ ss.length + has.length + hss.length + hks.length + dks.length + 54 := by rw [Hzs.out, List.length_append, headB_len]; omega)
      | (go_at_call 17; (with_reducible refine (rfbytes_any (.slice a2 zs.length c2) (.slice az sls.length cz) zs sls _ (own_rd k1) (nz.new (g3.trans k3)) (by omega) (by omega)).mono fun e w3 hq3 => ?_); obtain ⟨us, a3, c3, Hus, rfl, l1, l2, l3⟩ := hq3.name; have l4 := k4.trans l3))
  go_wp2_with fail
  go_ret
  exact fresh_end l1 l2 (hoW.trans k4).size (hoW.trans l4) (by rw [Hus.out, Hzs.out, Hys.out]; simp [envB])

end Go.Proofs.Yticojdepepkdlaa
