/- The contracts of the reference of layers 9 to 14 (pawlref09), second part: Front, Envelope, Inner, Bundle, for bytes shorter than the bounds that each contract names. -/
import Derived.Test.YteljkfihmbddaaaPf
set_option linter.unusedSimpArgs false
set_option linter.unusedVariables false
namespace Go.Proofs.Yteljkfihmbddaaa
open Go.RowKit Go.Pw
set_option linter.unusedVariables false

/-- The bytes of an envelope without what is sealed; of an envelope; of what is sealed; of a bundle. -/
def frontB (fu fd tu td : Int) (ss : List Int) (hs : Bool) (has hss hks : List Int) (sg : Int) (hh : Bool) (on : Int) : List Int :=
  whoB fu fd ++ whoB tu td ++ be ss.length 4 ++ ss ++ [if hs then 1 else 0] ++ if hs then helloB has hss hks sg hh on else []
def envB (fu fd tu td : Int) (ss : List Int) (hs : Bool) (has hss hks : List Int) (sg : Int) (hh : Bool) (on : Int) (dks : List Int) (dp dn : Int) (sls : List Int) : List Int :=
  frontB fu fd tu td ss hs has hss hks sg hh on ++ headB dks dp dn ++ be sls.length 4 ++ sls
def innerB (u n : Int) (ts : List Int) : List Int := be (IntKind.u32.wrap u) 4 ++ be n 4 ++ be ts.length 4 ++ ts
def bundleB (u d : Int) (ags sgs : List Int) (sg : Int) (ks gs : List Int) (has : Bool) (on : Int) (os : List Int) : List Int :=
  whoB u d ++ identB ags sgs ++ be sg 4 ++ be ks.length 4 ++ ks ++ be gs.length 4 ++ gs ++ [if has then 1 else 0] ++ if has then be on 4 ++ be os.length 4 ++ os else []

theorem whoB_len (u d : Int) : (whoB u d).length = 8 := by simp [whoB, be_len]
theorem identB_len (a s : List Int) : (identB a s).length = a.length + s.length + 8 := by simp [identB, be_len]; omega
theorem helloB_len (a s k : List Int) (sg : Int) (hh : Bool) (on : Int) : (helloB a s k sg hh on).length ≤ a.length + s.length + k.length + 21 := by
  cases hh <;> simp [helloB, identB_len, be_len] <;> omega
theorem headB_len (k : List Int) (p n : Int) : (headB k p n).length = k.length + 12 := by simp [headB, be_len]; omega
theorem frontB_len (fu fd tu td : Int) (ss : List Int) (hs : Bool) (has hss hks : List Int) (sg : Int) (hh : Bool) (on : Int) : (frontB fu fd tu td ss hs has hss hks sg hh on).length ≤ ss.length + has.length + hss.length + hks.length + 42 := by
  have := helloB_len has hss hks sg hh on
  cases hs <;> simp [frontB, whoB_len, be_len] <;> omega

set_option maxRecDepth 100000 in
set_option maxHeartbeats 3200000 in
theorem rfbundle_any (u d sg on : Int) (hs : Bool) (vag : Value) (vsg : Value) (vk : Value) (vq : Value) (vo : Value) (ags : List Int) (sgs : List Int) (ks : List Int) (qs : List Int) (os : List Int) (w : World) (hg : Rd w vag ags) (hp : Rd w vsg sgs) (hk : Rd w vk ks) (hq : Rd w vq qs) (ho : Rd w vo os) (hsg : U32 sg) (hon : U32 on) (hl : ags.length + sgs.length + ks.length + qs.length + os.length ≤ 400000) :
    Calls Try.prog 22 #[.agg #[.int .i64 u, .int .i64 d, vag, vsg, .int .u32 sg, vk, vq, .bool hs, .int .u32 on, vo]] w (Fresh (bundleB u d ags sgs sg ks qs hs on os) w) := by
  obtain ⟨ag, cg, rfl⟩ := hg.slice
  obtain ⟨ap, cp, rfl⟩ := hp.slice
  obtain ⟨ak, ck, rfl⟩ := hk.slice
  obtain ⟨aq, cq, rfl⟩ := hq.slice
  obtain ⟨ao, co, rfl⟩ := ho.slice
  obtain ⟨p0, p1⟩ := hsg
  obtain ⟨n0, n1⟩ := hon
  go_enter Try.func22, Try.ntmps22
  go_wp2_with fail
  obtain ⟨W, X, hW, hX, hb, hoW, hX1, hX2⟩ := new_block w (.cells #[.int .i64 u, .int .i64 d, .slice ag ags.length cg, .slice ap sgs.length cp, .int .u32 sg, .slice ak ks.length ck, .slice aq qs.length cq, .bool hs, .int .u32 on, .slice ao os.length co] 40)
  rw [← hW, ← hX]
  clear hW hX
  have Sk : ∀ w', Only W w' [] → w'.cell? ⟨X, 0, none⟩ = some (.int .i64 u) ∧ w'.cell? ⟨X, 1, none⟩ = some (.int .i64 d) ∧ w'.cell? ⟨X, 2, none⟩ = some (.slice ag ags.length cg) ∧ w'.cell? ⟨X, 3, none⟩ = some (.slice ap sgs.length cp) ∧ w'.cell? ⟨X, 4, none⟩ = some (.int .u32 sg) ∧ w'.cell? ⟨X, 5, none⟩ = some (.slice ak ks.length ck) ∧ w'.cell? ⟨X, 6, none⟩ = some (.slice aq qs.length cq) ∧ w'.cell? ⟨X, 7, none⟩ = some (.bool hs) ∧ w'.cell? ⟨X, 8, none⟩ = some (.int .u32 on) ∧ w'.cell? ⟨X, 9, none⟩ = some (.slice ao os.length co) := fun w' ho => ⟨ho.cell_in hb (by simp) 0, ho.cell_in hb (by simp) 1, ho.cell_in hb (by simp) 2, ho.cell_in hb (by simp) 3, ho.cell_in hb (by simp) 4, ho.cell_in hb (by simp) 5, ho.cell_in hb (by simp) 6, ho.cell_in hb (by simp) 7, ho.cell_in hb (by simp) 8, ho.cell_in hb (by simp) 9⟩
  have hod := Only.drew W []
  have ng := hg.new (hoW.trans hod)
  have np := hp.new (hoW.trans hod)
  have nk := hk.new (hoW.trans hod)
  have nq := hq.new (hoW.trans hod)
  have no := ho.new (hoW.trans hod)
  have e1 : IntKind.u64.wrap sg = sg := u64_in sg p0 p1
  have e2 : IntKind.u64.wrap on = on := u64_in on n0 n1
  clear hb hg hp hk hq ho
  go_region_held3 (fun w' => w'.cell? ⟨X, 0, none⟩ = some (.int .i64 u) ∧ w'.cell? ⟨X, 1, none⟩ = some (.int .i64 d) ∧ w'.cell? ⟨X, 2, none⟩ = some (.slice ag ags.length cg) ∧ w'.cell? ⟨X, 3, none⟩ = some (.slice ap sgs.length cp) ∧ w'.cell? ⟨X, 4, none⟩ = some (.int .u32 sg) ∧ w'.cell? ⟨X, 5, none⟩ = some (.slice ak ks.length ck) ∧ w'.cell? ⟨X, 6, none⟩ = some (.slice aq qs.length cq) ∧ w'.cell? ⟨X, 7, none⟩ = some (.bool hs) ∧ w'.cell? ⟨X, 8, none⟩ = some (.int .u32 on) ∧ w'.cell? ⟨X, 9, none⟩ = some (.slice ao os.length co)) (exact Sk _ (by assumption))
    (first
      | (go_at_call 41; (with_reducible refine (rfwho_any (.slice none 0 0) [] u d _ (Rd.nil _) (by simp)).mono fun e w1 hq => ?_); obtain ⟨ys, a1, c1, Hys, rfl, g1, g2, g3⟩ := hq.name; have g4 := hod.trans g3; have gl : ys.length ≤ 8 := by rw [Hys.out]; simp [whoB_len])
      | (go_at_call 40; (with_reducible refine (rfident_any (.slice a1 ys.length c1) (.slice ag ags.length cg) (.slice ap sgs.length cp) ys ags sgs _ (own_rd g1) (ng.new g3) (np.new g3) (by omega)).mono fun e w2 hq2 => ?_); obtain ⟨zs, a2, c2, Hzs, rfl, k1, k2, k3⟩ := hq2.name; have k4 := g4.trans k3; have kl : zs.length ≤ ags.length + sgs.length + 16 := by rw [Hzs.out]; simp [identB_len]; omega))
  go_wp2_with fail
  have hod2 := k4.trans (Only.drew w2 [])
  have ho2 := (g3.trans k3).trans (Only.drew w2 [])
  go_region_held3 (fun w' => w'.cell? ⟨X, 0, none⟩ = some (.int .i64 u) ∧ w'.cell? ⟨X, 1, none⟩ = some (.int .i64 d) ∧ w'.cell? ⟨X, 2, none⟩ = some (.slice ag ags.length cg) ∧ w'.cell? ⟨X, 3, none⟩ = some (.slice ap sgs.length cp) ∧ w'.cell? ⟨X, 4, none⟩ = some (.int .u32 sg) ∧ w'.cell? ⟨X, 5, none⟩ = some (.slice ak ks.length ck) ∧ w'.cell? ⟨X, 6, none⟩ = some (.slice aq qs.length cq) ∧ w'.cell? ⟨X, 7, none⟩ = some (.bool hs) ∧ w'.cell? ⟨X, 8, none⟩ = some (.int .u32 on) ∧ w'.cell? ⟨X, 9, none⟩ = some (.slice ao os.length co)) (exact Sk _ (by assumption))
    (first
      | (go_at_call 43; (with_reducible refine (rfnum4 (.slice a2 zs.length c2) zs sg _ ((own_rd k1).new (Only.drew w2 [])) (by omega) p0 (by omega)).mono fun e w3 hq3 => ?_); obtain ⟨us, a3, c3, Hus, rfl, l1, l2, l3⟩ := hq3.name; have l4 := hod2.trans l3; have ll : us.length ≤ ags.length + sgs.length + 20 := by rw [Hus.out]; simp [be_len]; omega)
      | (go_at_call 42; (with_reducible refine (rfbytes_any (.slice a3 us.length c3) (.slice ak ks.length ck) us ks _ (own_rd l1) (nk.new (ho2.trans l3)) (by omega) (by omega)).mono fun e w4 hq4 => ?_); obtain ⟨ts, a4, c4, Hts, rfl, m1, m2, m3⟩ := hq4.name; have m4 := l4.trans m3; have ml : ts.length ≤ ags.length + sgs.length + ks.length + 24 := by rw [Hts.out]; simp [be_len]; omega)
      | (go_at_call 42; (with_reducible refine (rfbytes_any (.slice a4 ts.length c4) (.slice aq qs.length cq) ts qs _ (own_rd m1) (nq.new ((ho2.trans l3).trans m3)) (by omega) (by omega)).mono fun e w5 hq5 => ?_); obtain ⟨rs, a5, c5, Hrs, rfl, o1, o2, o3⟩ := hq5.name; have o4 := m4.trans o3; have ol : rs.length ≤ ags.length + sgs.length + ks.length + qs.length + 28 := by rw [Hrs.out]; simp [be_len]; omega))
  go_wp2_with fail
  have hS := Sk w5 o4
  go_wp2_with fail
  refine (rfflag_any (.slice a5 rs.length c5) rs hs _ (own_rd o1) (by omega)).mono fun e w6 hq6 => ?_
  obtain ⟨ps, a6, c6, Hps, rfl, q1, q2, q3⟩ := hq6.name
  have q4 := o4.trans q3
  have ql : ps.length ≤ ags.length + sgs.length + ks.length + qs.length + os.length + 40 := by rw [Hps.out]; simp; omega
  clear hS
  have hS := Sk w6 q4
  cases hs
  · go_wp2_with fail
    go_ret
    exact fresh_end q1 q2 (hoW.trans o4).size (hoW.trans q4) (by rw [Hps.out, Hrs.out, Hts.out, Hus.out, Hzs.out, Hys.out]; simp [bundleB])
  · go_wp2_with fail
    clear hS
    have hod3 := q4.trans (Only.drew w6 [])
    have ho3 := ((ho2.trans l3).trans (m3.trans o3)).trans (q3.trans (Only.drew w6 []))
    go_region_held3 (fun w' => w'.cell? ⟨X, 0, none⟩ = some (.int .i64 u) ∧ w'.cell? ⟨X, 1, none⟩ = some (.int .i64 d) ∧ w'.cell? ⟨X, 2, none⟩ = some (.slice ag ags.length cg) ∧ w'.cell? ⟨X, 3, none⟩ = some (.slice ap sgs.length cp) ∧ w'.cell? ⟨X, 4, none⟩ = some (.int .u32 sg) ∧ w'.cell? ⟨X, 5, none⟩ = some (.slice ak ks.length ck) ∧ w'.cell? ⟨X, 6, none⟩ = some (.slice aq qs.length cq) ∧ w'.cell? ⟨X, 7, none⟩ = some (.bool true) ∧ w'.cell? ⟨X, 8, none⟩ = some (.int .u32 on) ∧ w'.cell? ⟨X, 9, none⟩ = some (.slice ao os.length co)) (exact Sk _ (by assumption))
      (first
        | (go_at_call 43; (with_reducible refine (rfnum4 (.slice a6 ps.length c6) ps on _ ((own_rd q1).new (Only.drew w6 [])) (by omega) n0 (by omega)).mono fun e w7 hq7 => ?_); obtain ⟨xs, a7, c7, Hxs, rfl, r1, r2, r3⟩ := hq7.name; have r4 := hod3.trans r3; have rl : xs.length ≤ ags.length + sgs.length + ks.length + qs.length + os.length + 44 := by rw [Hxs.out]; simp [be_len]; omega)
        | (go_at_call 42; (with_reducible refine (rfbytes_any (.slice a7 xs.length c7) (.slice ao os.length co) xs os _ (own_rd r1) (no.new (ho3.trans r3)) (by omega) (by omega)).mono fun e w8 hq8 => ?_); obtain ⟨ss, a8, c8, Hss, rfl, s1, s2, s3⟩ := hq8.name; have s4 := r4.trans s3))
    go_wp2_with fail
    go_ret
    exact fresh_end s1 s2 (hoW.trans r4).size (hoW.trans s4) (by rw [Hss.out, Hxs.out, Hps.out, Hrs.out, Hts.out, Hus.out, Hzs.out, Hys.out]; simp [bundleB])
end Go.Proofs.Yteljkfihmbddaaa
