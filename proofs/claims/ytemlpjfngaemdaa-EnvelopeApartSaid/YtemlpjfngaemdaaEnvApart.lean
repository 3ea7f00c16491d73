/- EnvelopeApart returns true for every two envelopes: they are the same just if their bytes are. No condition. -/
import Derived.Test.YtemlpjfngaemdaaEnvS
import Derived.Test.YtemlpjfngaemdaaSEnvelopeApart
namespace Go.Proofs.Ytemlpjfngaemdaa
open Go.RowKit Go.Pw

theorem setAll_nil (w : World) (X i : Nat) : setAll w X i [] = w := rfl
theorem setAll_cons (w : World) (X i : Nat) (v : Value) (vs : List Value) : setAll w X i (v :: vs) = setAll (w.setCell ⟨X, i, none⟩ v) X (i + 1) vs := rfl
theorem putAll_get (vs : List Value) : ∀ (cs : Array Value) (i j : Nat), i + vs.length ≤ cs.size → (putAll cs i vs)[j]? = if i ≤ j ∧ j < i + vs.length then vs[j - i]? else cs[j]? := by
  induction vs with
  | nil => intro cs i j _; simp [putAll]; omega
  | cons v vs ih =>
    intro cs i j h
    simp only [List.length_cons] at h
    rw [putAll, ih _ _ _ (by simp; omega), Array.getElem?_setIfInBounds]
    by_cases e : i = j
    · subst e
      have g1 : ¬ (i + 1 ≤ i ∧ i < i + 1 + vs.length) := by omega
      have g2 : i ≤ i ∧ i < i + (v :: vs).length := by simp only [List.length_cons]; omega
      rw [if_neg g1, if_pos rfl, if_pos (by omega), if_pos g2, Nat.sub_self]
      rfl
    · by_cases g : i + 1 ≤ j ∧ j < i + 1 + vs.length
      · have g2 : i ≤ j ∧ j < i + (v :: vs).length := by simp only [List.length_cons]; omega
        rw [if_pos g, if_pos g2, show j - i = (j - (i + 1)) + 1 by omega]
        simp
      · have g2 : ¬ (i ≤ j ∧ j < i + (v :: vs).length) := by simp only [List.length_cons]; omega
        rw [if_neg g, if_neg g2, if_neg e]
theorem setAll_full {X : Nat} {T : TypeId} {fr : Nat × Nat} {w : World} {cs : Array Value} (vs : List Value) (h : w.heap[X]? = some (.cells cs T fr)) (hz : cs.size = vs.length) : (setAll w X 0 vs).heap[X]? = some (.cells vs.toArray T fr) := by
  rw [setAll_at vs 0 h]
  congr 2
  apply Array.ext_getElem?
  intro j
  rw [putAll_get vs cs 0 j (by omega)]
  by_cases g : j < vs.length
  · simp [g]
  · simp [g]
    omega
theorem flag_byt (b : Bool) : Byt [if b then (1 : Int) else 0] := by
  intro x hx
  cases b <;> simp at hx <;> subst hx <;> decide
theorem if_byt {b : Bool} {l : List Int} (h : Byt l) : Byt (if b then l else []) := by
  cases b
  · exact Byt.nil
  · exact h
theorem bytes_byt {l : List Int} (n : Int) (h : Byt l) : Byt (be n 4 ++ l) := (be_byt _ _).app h
theorem whoB_byt (u d : Int) : Byt (whoB u d) := (be_byt _ _).app (be_byt _ _)
theorem identB_byt {a s : List Int} (ha : Byt a) (hs : Byt s) : Byt (identB a s) := (((be_byt _ _).app ha).app (be_byt _ _)).app hs
theorem helloB_byt {a s k : List Int} (sg : Int) (hh : Bool) (on : Int) (ha : Byt a) (hs : Byt s) (hk : Byt k) : Byt (helloB a s k sg hh on) :=
  (((((identB_byt ha hs).app (be_byt _ _)).app hk).app (be_byt _ _)).app (flag_byt _)).app (if_byt (be_byt _ _))
theorem headB_byt {k : List Int} (p n : Int) (hk : Byt k) : Byt (headB k p n) := (((be_byt _ _).app hk).app (be_byt _ _)).app (be_byt _ _)
theorem frontB_byt {ss has hss hks : List Int} (fu fd tu td : Int) (hs : Bool) (sg : Int) (hh : Bool) (on : Int) (h1 : Byt ss) (h2 : Byt has) (h3 : Byt hss) (h4 : Byt hks) : Byt (frontB fu fd tu td ss hs has hss hks sg hh on) :=
  (((((whoB_byt _ _).app (whoB_byt _ _)).app (be_byt _ _)).app h1).app (flag_byt _)).app (if_byt (helloB_byt _ _ _ h2 h3 h4))
theorem envB_byt {ss has hss hks dks sls : List Int} (fu fd tu td : Int) (hs : Bool) (sg : Int) (hh : Bool) (on dp dn : Int) (h1 : Byt ss) (h2 : Byt has) (h3 : Byt hss) (h4 : Byt hks) (h5 : Byt dks) (h6 : Byt sls) : Byt (envB fu fd tu td ss hs has hss hks sg hh on dks dp dn sls) :=
  (((frontB_byt _ _ _ _ _ _ _ _ h1 h2 h3 h4).app (headB_byt _ _ h5)).app (be_byt _ _)).app h6

set_option maxRecDepth 100000 in
set_option maxHeartbeats 20000000 in
theorem apart_far (fu1 fd1 tu1 td1 sg1 on1 dp1 dn1 : Int) (hs1 hh1 : Bool) (ss1 has1 hss1 hks1 dks1 sls1 : List Int) (ap1 ax1 ay1 ak1 ad1 az1 : Option Addr) (cp1 cx1 cy1 ck1 cd1 cz1 : Nat) (fu2 fd2 tu2 td2 sg2 on2 dp2 dn2 : Int) (hs2 hh2 : Bool) (ss2 has2 hss2 hks2 dks2 sls2 : List Int) (ap2 ax2 ay2 ak2 ad2 az2 : Option Addr) (cp2 cx2 cy2 ck2 cd2 cz2 : Nat) (w : World) (hp1 : Rd w (.slice ap1 ss1.length cp1) ss1) (hx1 : Rd w (.slice ax1 has1.length cx1) has1) (hy1 : Rd w (.slice ay1 hss1.length cy1) hss1) (hk1 : Rd w (.slice ak1 hks1.length ck1) hks1) (hd1 : Rd w (.slice ad1 dks1.length cd1) dks1) (hz1 : Rd w (.slice az1 sls1.length cz1) sls1) (hp2 : Rd w (.slice ap2 ss2.length cp2) ss2) (hx2 : Rd w (.slice ax2 has2.length cx2) has2) (hy2 : Rd w (.slice ay2 hss2.length cy2) hss2) (hk2 : Rd w (.slice ak2 hks2.length ck2) hks2) (hd2 : Rd w (.slice ad2 dks2.length cd2) dks2) (hz2 : Rd w (.slice az2 sls2.length cz2) sls2) (bp1 : Byt ss1) (bx1 : Byt has1) (by1 : Byt hss1) (bk1 : Byt hks1) (bd1 : Byt dks1) (bz1 : Byt sls1) (bp2 : Byt ss2) (bx2 : Byt has2) (by2 : Byt hss2) (bk2 : Byt hks2) (bd2 : Byt dks2) (bz2 : Byt sls2) (usg1 : U32 sg1) (uon1 : U32 on1) (udp1 : U32 dp1) (udn1 : U32 dn1) (usg2 : U32 sg2) (uon2 : U32 on2) (udp2 : U32 dp2) (udn2 : U32 dn2) (lp1 : ss1.length ≤ 140737488351232) (lx1 : has1.length ≤ 140737488351232) (ly1 : hss1.length ≤ 140737488351232) (lk1 : hks1.length ≤ 140737488351232) (ld1 : dks1.length ≤ 140737488351232) (lz1 : sls1.length ≤ 140737488351232) (lp2 : ss2.length ≤ 140737488351232) (lx2 : has2.length ≤ 140737488351232) (ly2 : hss2.length ≤ 140737488351232) (lk2 : hks2.length ≤ 140737488351232) (ld2 : dks2.length ≤ 140737488351232) (lz2 : sls2.length ≤ 140737488351232) (hl1 : ss1.length + has1.length + hss1.length + hks1.length + dks1.length + sls1.length ≤ 3000) (hl2 : ss2.length + has2.length + hss2.length + hks2.length + dks2.length + sls2.length ≤ 3000) :
    Calls Try.prog 4 #[.agg #[.int .i64 fu1, .int .i64 fd1, .int .i64 tu1, .int .i64 td1, .slice ap1 ss1.length cp1, .bool hs1, .slice ax1 has1.length cx1, .slice ay1 hss1.length cy1, .slice ak1 hks1.length ck1, .int .u32 sg1, .bool hh1, .int .u32 on1, .slice ad1 dks1.length cd1, .int .u32 dp1, .int .u32 dn1, .slice az1 sls1.length cz1], .agg #[.int .i64 fu2, .int .i64 fd2, .int .i64 tu2, .int .i64 td2, .slice ap2 ss2.length cp2, .bool hs2, .slice ax2 has2.length cx2, .slice ay2 hss2.length cy2, .slice ak2 hks2.length ck2, .int .u32 sg2, .bool hh2, .int .u32 on2, .slice ad2 dks2.length cd2, .int .u32 dp2, .int .u32 dn2, .slice az2 sls2.length cz2], .bool false] w fun e w' => e = .returned (.bool true) ∧ Below w.heap.size w w' := by
  have d1 : decide (ss1.length + has1.length + hss1.length + hks1.length + dks1.length + sls1.length ≤ 3000) = true := by simpa using hl1
  have d2 : decide (ss2.length + has2.length + hss2.length + hks2.length + dks2.length + sls2.length ≤ 3000) = true := by simpa using hl2
  go_enter Try.func4, Try.ntmps4
  go_wp2_with fail
  obtain ⟨W1, X, hW, hX, hbx0, hoW1, hX1, hX2⟩ := new_block w (.cells #[.int .i64 fu1, .int .i64 fd1, .int .i64 tu1, .int .i64 td1, .slice ap1 ss1.length cp1, .bool hs1, .slice ax1 has1.length cx1, .slice ay1 hss1.length cy1, .slice ak1 hks1.length ck1, .int .u32 sg1, .bool hh1, .int .u32 on1, .slice ad1 dks1.length cd1, .int .u32 dp1, .int .u32 dn1, .slice az1 sls1.length cz1] 43)
  have hs1 : W1.heap.size = X + 1 := by rw [hW, hX]; simp
  rw [← hW, ← hX]
  clear hW hX
  obtain ⟨W, Y, hW, hY, hby, hoW2, hY1, hY2⟩ := new_block W1 (.cells #[.int .i64 fu2, .int .i64 fd2, .int .i64 tu2, .int .i64 td2, .slice ap2 ss2.length cp2, .bool hs2, .slice ax2 has2.length cx2, .slice ay2 hss2.length cy2, .slice ak2 hks2.length ck2, .int .u32 sg2, .bool hh2, .int .u32 on2, .slice ad2 dks2.length cd2, .int .u32 dp2, .int .u32 dn2, .slice az2 sls2.length cz2] 43)
  rw [← hW, ← hs1, ← hY]
  clear hW hY hs1
  have hbx := hoW2.at hbx0 (by simp)
  have hoW := hoW1.trans hoW2
  have hYw : w.heap.size ≤ Y := Nat.le_trans hoW1.size hY1
  have hXY : X ∉ [Y] := by simp; omega
  have hbel : ∀ w', Only w w' [Y] → Below w.heap.size w w' := fun w' h => h.below (Nat.le_refl _) (by simpa using hYw)
  have hno : ∀ {w1 w2 : World}, Only w1 w2 [] → Only w1 w2 [Y] := fun h => h.mono (fun k _ hk => by simp at hk)
  have Sx : ∀ w', Only W w' [] → w'.cell? ⟨X, 0, none⟩ = some (.int .i64 fu1) ∧ w'.cell? ⟨X, 1, none⟩ = some (.int .i64 fd1) ∧ w'.cell? ⟨X, 2, none⟩ = some (.int .i64 tu1) ∧ w'.cell? ⟨X, 3, none⟩ = some (.int .i64 td1) ∧ w'.cell? ⟨X, 4, none⟩ = some (.slice ap1 ss1.length cp1) ∧ w'.cell? ⟨X, 5, none⟩ = some (.bool hs1) ∧ w'.cell? ⟨X, 6, none⟩ = some (.slice ax1 has1.length cx1) ∧ w'.cell? ⟨X, 7, none⟩ = some (.slice ay1 hss1.length cy1) ∧ w'.cell? ⟨X, 8, none⟩ = some (.slice ak1 hks1.length ck1) ∧ w'.cell? ⟨X, 9, none⟩ = some (.int .u32 sg1) ∧ w'.cell? ⟨X, 10, none⟩ = some (.bool hh1) ∧ w'.cell? ⟨X, 11, none⟩ = some (.int .u32 on1) ∧ w'.cell? ⟨X, 12, none⟩ = some (.slice ad1 dks1.length cd1) ∧ w'.cell? ⟨X, 13, none⟩ = some (.int .u32 dp1) ∧ w'.cell? ⟨X, 14, none⟩ = some (.int .u32 dn1) ∧ w'.cell? ⟨X, 15, none⟩ = some (.slice az1 sls1.length cz1) := fun w' ho => ⟨ho.cell_in hbx (by simp) 0, ho.cell_in hbx (by simp) 1, ho.cell_in hbx (by simp) 2, ho.cell_in hbx (by simp) 3, ho.cell_in hbx (by simp) 4, ho.cell_in hbx (by simp) 5, ho.cell_in hbx (by simp) 6, ho.cell_in hbx (by simp) 7, ho.cell_in hbx (by simp) 8, ho.cell_in hbx (by simp) 9, ho.cell_in hbx (by simp) 10, ho.cell_in hbx (by simp) 11, ho.cell_in hbx (by simp) 12, ho.cell_in hbx (by simp) 13, ho.cell_in hbx (by simp) 14, ho.cell_in hbx (by simp) 15⟩
  have Sy : ∀ w', Only W w' [] → w'.cell? ⟨Y, 0, none⟩ = some (.int .i64 fu2) ∧ w'.cell? ⟨Y, 1, none⟩ = some (.int .i64 fd2) ∧ w'.cell? ⟨Y, 2, none⟩ = some (.int .i64 tu2) ∧ w'.cell? ⟨Y, 3, none⟩ = some (.int .i64 td2) ∧ w'.cell? ⟨Y, 4, none⟩ = some (.slice ap2 ss2.length cp2) ∧ w'.cell? ⟨Y, 5, none⟩ = some (.bool hs2) ∧ w'.cell? ⟨Y, 6, none⟩ = some (.slice ax2 has2.length cx2) ∧ w'.cell? ⟨Y, 7, none⟩ = some (.slice ay2 hss2.length cy2) ∧ w'.cell? ⟨Y, 8, none⟩ = some (.slice ak2 hks2.length ck2) ∧ w'.cell? ⟨Y, 9, none⟩ = some (.int .u32 sg2) ∧ w'.cell? ⟨Y, 10, none⟩ = some (.bool hh2) ∧ w'.cell? ⟨Y, 11, none⟩ = some (.int .u32 on2) ∧ w'.cell? ⟨Y, 12, none⟩ = some (.slice ad2 dks2.length cd2) ∧ w'.cell? ⟨Y, 13, none⟩ = some (.int .u32 dp2) ∧ w'.cell? ⟨Y, 14, none⟩ = some (.int .u32 dn2) ∧ w'.cell? ⟨Y, 15, none⟩ = some (.slice az2 sls2.length cz2) := fun w' ho => ⟨ho.cell_in hby (by simp) 0, ho.cell_in hby (by simp) 1, ho.cell_in hby (by simp) 2, ho.cell_in hby (by simp) 3, ho.cell_in hby (by simp) 4, ho.cell_in hby (by simp) 5, ho.cell_in hby (by simp) 6, ho.cell_in hby (by simp) 7, ho.cell_in hby (by simp) 8, ho.cell_in hby (by simp) 9, ho.cell_in hby (by simp) 10, ho.cell_in hby (by simp) 11, ho.cell_in hby (by simp) 12, ho.cell_in hby (by simp) 13, ho.cell_in hby (by simp) 14, ho.cell_in hby (by simp) 15⟩
  refine (awake14 _).mono ?_
  rintro e w1 ⟨rfl, h1⟩
  have sx := Sx _ h1
  go_wp2_with fail
  refine (short_any fu1 fd1 tu1 td1 sg1 on1 dp1 dn1 hs1 hh1 ss1 has1 hss1 hks1 dks1 sls1 ap1 ax1 ay1 ak1 ad1 az1 cp1 cx1 cy1 ck1 cd1 cz1 _ lp1 lx1 ly1 lk1 ld1 lz1).mono ?_
  rintro e w2 ⟨rfl, h2⟩
  have h3 := h1.trans h2
  clear sx
  have sy := Sy _ h3
  go_wp2_with fail
  refine (short_any fu2 fd2 tu2 td2 sg2 on2 dp2 dn2 hs2 hh2 ss2 has2 hss2 hks2 dks2 sls2 ap2 ax2 ay2 ak2 ad2 az2 cp2 cx2 cy2 ck2 cd2 cz2 _ lp2 lx2 ly2 lk2 ld2 lz2).mono ?_
  rintro e w4 ⟨rfl, h4⟩
  clear sy
  have h5 := h3.trans h4
  have Tx : ∀ w', Only w4 w' [] → w'.cell? ⟨X, 0, none⟩ = some (.int .i64 fu1) ∧ w'.cell? ⟨X, 1, none⟩ = some (.int .i64 fd1) ∧ w'.cell? ⟨X, 2, none⟩ = some (.int .i64 tu1) ∧ w'.cell? ⟨X, 3, none⟩ = some (.int .i64 td1) ∧ w'.cell? ⟨X, 4, none⟩ = some (.slice ap1 ss1.length cp1) ∧ w'.cell? ⟨X, 5, none⟩ = some (.bool hs1) ∧ w'.cell? ⟨X, 6, none⟩ = some (.slice ax1 has1.length cx1) ∧ w'.cell? ⟨X, 7, none⟩ = some (.slice ay1 hss1.length cy1) ∧ w'.cell? ⟨X, 8, none⟩ = some (.slice ak1 hks1.length ck1) ∧ w'.cell? ⟨X, 9, none⟩ = some (.int .u32 sg1) ∧ w'.cell? ⟨X, 10, none⟩ = some (.bool hh1) ∧ w'.cell? ⟨X, 11, none⟩ = some (.int .u32 on1) ∧ w'.cell? ⟨X, 12, none⟩ = some (.slice ad1 dks1.length cd1) ∧ w'.cell? ⟨X, 13, none⟩ = some (.int .u32 dp1) ∧ w'.cell? ⟨X, 14, none⟩ = some (.int .u32 dn1) ∧ w'.cell? ⟨X, 15, none⟩ = some (.slice az1 sls1.length cz1) := fun w' ho => Sx w' (h5.trans ho)
  have Ty : ∀ w', Only w4 w' [] → w'.cell? ⟨Y, 0, none⟩ = some (.int .i64 fu2) ∧ w'.cell? ⟨Y, 1, none⟩ = some (.int .i64 fd2) ∧ w'.cell? ⟨Y, 2, none⟩ = some (.int .i64 tu2) ∧ w'.cell? ⟨Y, 3, none⟩ = some (.int .i64 td2) ∧ w'.cell? ⟨Y, 4, none⟩ = some (.slice ap2 ss2.length cp2) ∧ w'.cell? ⟨Y, 5, none⟩ = some (.bool hs2) ∧ w'.cell? ⟨Y, 6, none⟩ = some (.slice ax2 has2.length cx2) ∧ w'.cell? ⟨Y, 7, none⟩ = some (.slice ay2 hss2.length cy2) ∧ w'.cell? ⟨Y, 8, none⟩ = some (.slice ak2 hks2.length ck2) ∧ w'.cell? ⟨Y, 9, none⟩ = some (.int .u32 sg2) ∧ w'.cell? ⟨Y, 10, none⟩ = some (.bool hh2) ∧ w'.cell? ⟨Y, 11, none⟩ = some (.int .u32 on2) ∧ w'.cell? ⟨Y, 12, none⟩ = some (.slice ad2 dks2.length cd2) ∧ w'.cell? ⟨Y, 13, none⟩ = some (.int .u32 dp2) ∧ w'.cell? ⟨Y, 14, none⟩ = some (.int .u32 dn2) ∧ w'.cell? ⟨Y, 15, none⟩ = some (.slice az2 sls2.length cz2) := fun w' ho => Sy w' (h5.trans ho)
  have hoV := hoW.trans h5
  have hbxV := h5.at hbx (by simp)
  have hbyV := h5.at hby (by simp)
  have kp1 := hp1.new hoV
  have kx1 := hx1.new hoV
  have ky1 := hy1.new hoV
  have kk1 := hk1.new hoV
  have kd1 := hd1.new hoV
  have kz1 := hz1.new hoV
  have kp2 := hp2.new hoV
  have kx2 := hx2.new hoV
  have ky2 := hy2.new hoV
  have kk2 := hk2.new hoV
  have kd2 := hd2.new hoV
  have kz2 := hz2.new hoV
  go_wp2_with fail
  obtain ⟨b, hb⟩ : ∃ b, decide ((envB fu1 fd1 tu1 td1 ss1 hs1 has1 hss1 hks1 sg1 hh1 on1 dks1 dp1 dn1 sls1) = (envB fu2 fd2 tu2 td2 ss2 hs2 has2 hss2 hks2 sg2 hh2 on2 dks2 dp2 dn2 sls2)) = b := ⟨_, rfl⟩
  have bE1 := (envB_byt fu1 fd1 tu1 td1 hs1 sg1 hh1 on1 dp1 dn1 bp1 bx1 by1 bk1 bd1 bz1)
  have bE2 := (envB_byt fu2 fd2 tu2 td2 hs2 sg2 hh2 on2 dp2 dn2 bp2 bx2 by2 bk2 bd2 bz2)
  have hod := Only.drew w4 []
  refine wp_region_held_drew (S := fun w' => Only w4.drew w' []) (by kernel_rfl) (Only.refl _ _) (fun hHeld => ?_)
  refine wpAnyH_take (i := 0) (op_at rfl) (by kernel_rfl) (by kernel_rfl) (by kernel_rfl) (fun _ _ _ h => h) (yieldsIf_load_mid (by rfl) _ _ rfl X 0 rfl [.int .i64 fu1, .int .i64 fd1, .int .i64 tu1, .int .i64 td1, .slice ap1 ss1.length cp1, .bool hs1, .slice ax1 has1.length cx1, .slice ay1 hss1.length cy1, .slice ak1 hks1.length ck1, .int .u32 sg1, .bool hh1, .int .u32 on1, .slice ad1 dks1.length cd1, .int .u32 dp1, .int .u32 dn1, .slice az1 sls1.length cz1] _ (fun w' hS => range_of ((hod.trans hS).at hbxV (by simp))) Try.underlying43 (by rfl) info_env) (by assumption) ?_
  try simp only [Act.put, List.setIfInBounds_toArray, List.set_cons_zero, List.set_cons_succ]
  refine wpAnyH_take (i := 1) (op_at rfl) (by kernel_rfl) (by kernel_rfl) (by kernel_rfl) (fun _ _ _ h => h) (yieldsIf_load_mid (by rfl) _ _ rfl Y 0 rfl [.int .i64 fu2, .int .i64 fd2, .int .i64 tu2, .int .i64 td2, .slice ap2 ss2.length cp2, .bool hs2, .slice ax2 has2.length cx2, .slice ay2 hss2.length cy2, .slice ak2 hks2.length ck2, .int .u32 sg2, .bool hh2, .int .u32 on2, .slice ad2 dks2.length cd2, .int .u32 dp2, .int .u32 dn2, .slice az2 sls2.length cz2] _ (fun w' hS => range_of ((hod.trans hS).at hbyV (by simp))) Try.underlying43 (by rfl) info_env) (by assumption) ?_
  try simp only [Act.put, List.setIfInBounds_toArray, List.set_cons_zero, List.set_cons_succ]
  refine wpAnyH_take (i := 3) (op_at rfl) (by kernel_rfl) (by kernel_rfl) (by kernel_rfl) (fun _ _ _ h => h) (yieldsIf_load_mid (by rfl) _ _ rfl X 0 rfl [.int .i64 fu1, .int .i64 fd1, .int .i64 tu1, .int .i64 td1, .slice ap1 ss1.length cp1, .bool hs1, .slice ax1 has1.length cx1, .slice ay1 hss1.length cy1, .slice ak1 hks1.length ck1, .int .u32 sg1, .bool hh1, .int .u32 on1, .slice ad1 dks1.length cd1, .int .u32 dp1, .int .u32 dn1, .slice az1 sls1.length cz1] _ (fun w' hS => range_of ((hod.trans hS).at hbxV (by simp))) Try.underlying43 (by rfl) info_env) (by assumption) ?_
  try simp only [Act.put, List.setIfInBounds_toArray, List.set_cons_zero, List.set_cons_succ]
  refine wpAnyH_take (i := 6) (op_at rfl) (by kernel_rfl) (by kernel_rfl) (by kernel_rfl) (fun _ _ _ h => h) (yieldsIf_load_mid (by rfl) _ _ rfl Y 0 rfl [.int .i64 fu2, .int .i64 fd2, .int .i64 tu2, .int .i64 td2, .slice ap2 ss2.length cp2, .bool hs2, .slice ax2 has2.length cx2, .slice ay2 hss2.length cy2, .slice ak2 hks2.length ck2, .int .u32 sg2, .bool hh2, .int .u32 on2, .slice ad2 dks2.length cd2, .int .u32 dp2, .int .u32 dn2, .slice az2 sls2.length cz2] _ (fun w' hS => range_of ((hod.trans hS).at hbyV (by simp))) Try.underlying43 (by rfl) info_env) (by assumption) ?_
  try simp only [Act.put, List.setIfInBounds_toArray, List.set_cons_zero, List.set_cons_succ]
  refine wpAnyH_ready (rs := [2]) (by kernel_rfl) (by simp) (AllReadyH.cons (op_at rfl) (fun K hK => ?_) AllReadyH.nil)
  go_simp
  refine (same_any fu1 fd1 tu1 td1 sg1 on1 dp1 dn1 hs1 hh1 ss1 has1 hss1 hks1 dks1 sls1 ap1 ax1 ay1 ak1 ad1 az1 cp1 cx1 cy1 ck1 cd1 cz1 fu2 fd2 tu2 td2 sg2 on2 dp2 dn2 hs2 hh2 ss2 has2 hss2 hks2 dks2 sls2 ap2 ax2 ay2 ak2 ad2 az2 cp2 cx2 cy2 ck2 cd2 cz2 _ (kp1.new hod) (kx1.new hod) (ky1.new hod) (kk1.new hod) (kd1.new hod) (kz1.new hod) (kp2.new hod) (kx2.new hod) (ky2.new hod) (kk2.new hod) (kd2.new hod) (kz2.new hod) usg1 uon1 udp1 udn1 usg2 uon2 udp2 udn2 hl1 hl2 bE1 bE2 b hb).mono ?_
  rintro e w6 ⟨rfl, p3⟩
  go_wp2_with fail
  refine hK.out _ _ p3 (fun hHeld1 => ?_)
  clear hK K
  try simp only [Act.put, List.setIfInBounds_toArray, List.set_cons_zero, List.set_cons_succ]
  refine wpAnyH_more (S' := fun w' => Only w6 w' []) (fun w' h => Only.trans p3 h) _ _ _ _ ?_
  clear hHeld hHeld1
  have hHeld : Only w6 w6 [] := Only.refl _ _
  have p4 := hod.trans p3
  refine wpAnyH_ready (rs := [4]) (by kernel_rfl) (by simp) (AllReadyH.cons (op_at rfl) (fun K hK => ?_) AllReadyH.nil)
  go_simp
  refine (rfenv_any fu1 fd1 tu1 td1 sg1 on1 dp1 dn1 hs1 hh1 (.slice ap1 ss1.length cp1) (.slice ax1 has1.length cx1) (.slice ay1 hss1.length cy1) (.slice ak1 hks1.length ck1) (.slice ad1 dks1.length cd1) (.slice az1 sls1.length cz1) ss1 has1 hss1 hks1 dks1 sls1 _ (kp1.new p4) (kx1.new p4) (ky1.new p4) (kk1.new p4) (kd1.new p4) (kz1.new p4) usg1 uon1 udp1 udn1 (by omega)).mono fun e w1 hq => ?_
  obtain ⟨zs, a6, k6, Hzs, rfl, q1, q2, q3⟩ := hq.name
  clear hq
  go_wp2_with fail
  refine hK.out _ _ q3 (fun hHeld1 => ?_)
  clear hK K
  try simp only [Act.put, List.setIfInBounds_toArray, List.set_cons_zero, List.set_cons_succ]
  refine wpAnyH_more (S' := fun w' => Only w1 w' []) (fun w' h => Only.trans q3 h) _ _ _ _ ?_
  clear hHeld hHeld1
  have hHeld : Only w1 w1 [] := Only.refl _ _
  have q4 := p4.trans q3
  refine' wpAnyH_take (i := 5) (v := _) (op_at rfl) (by kernel_rfl) (by kernel_rfl) (by kernel_rfl) (fun _ _ _ h => h) (Or.inl ⟨by rfl, ?hy2⟩) (by assumption) ?rest2
  case hy2 =>
    intro w' hS
    have hs7 := run_str (P := Try.prog) (w := w') (S := 22) (T := 9) Try.underlying22 Try.underlying5 Try.underlying9 ((own_rd q1).new hS) rfl
    go_simp
    try with_reducible rfl
  try simp only [Act.put, List.setIfInBounds_toArray, List.set_cons_zero, List.set_cons_succ]
  refine wpAnyH_ready (rs := [7]) (by kernel_rfl) (by simp) (AllReadyH.cons (op_at rfl) (fun K hK => ?_) AllReadyH.nil)
  go_simp
  refine (rfenv_any fu2 fd2 tu2 td2 sg2 on2 dp2 dn2 hs2 hh2 (.slice ap2 ss2.length cp2) (.slice ax2 has2.length cx2) (.slice ay2 hss2.length cy2) (.slice ak2 hks2.length ck2) (.slice ad2 dks2.length cd2) (.slice az2 sls2.length cz2) ss2 has2 hss2 hks2 dks2 sls2 _ (kp2.new q4) (kx2.new q4) (ky2.new q4) (kk2.new q4) (kd2.new q4) (kz2.new q4) usg2 uon2 udp2 udn2 (by omega)).mono fun e w2 hq2 => ?_
  obtain ⟨us, a7, k7, Hus, rfl, r1, r2, r3⟩ := hq2.name
  clear hq2
  go_wp2_with fail
  refine hK.out _ _ r3 (fun hHeld1 => ?_)
  clear hK K
  try simp only [Act.put, List.setIfInBounds_toArray, List.set_cons_zero, List.set_cons_succ]
  refine wpAnyH_more (S' := fun w' => Only w2 w' []) (fun w' h => Only.trans r3 h) _ _ _ _ ?_
  clear hHeld hHeld1
  have hHeld : Only w2 w2 [] := Only.refl _ _
  have r4 := q4.trans r3
  refine' wpAnyH_take (i := 8) (v := _) (op_at rfl) (by kernel_rfl) (by kernel_rfl) (by kernel_rfl) (fun _ _ _ h => h) (Or.inl ⟨by rfl, ?hy3⟩) (by assumption) ?rest3
  case hy3 =>
    intro w' hS
    have hs9 := run_str (P := Try.prog) (w := w') (S := 22) (T := 9) Try.underlying22 Try.underlying5 Try.underlying9 ((own_rd r1).new hS) rfl
    go_simp
    try with_reducible rfl
  try simp only [Act.put, List.setIfInBounds_toArray, List.set_cons_zero, List.set_cons_succ]
  have hE : ((strOfNums zs).toList == (strOfNums us).toList) = b := by rw [Hzs.out, Hus.out, str_beq bE1 bE2, hb]
  refine' wpAnyH_take (i := 9) (v := _) (op_at rfl) (by kernel_rfl) (by kernel_rfl) (by kernel_rfl) (fun _ _ _ h => h) (Or.inl ⟨by rfl, ?hy4⟩) (by assumption) ?rest4
  case hy4 =>
    intro w' hS
    go_simp
    try with_reducible rfl
  try simp only [Act.put, List.setIfInBounds_toArray, List.set_cons_zero, List.set_cons_succ]
  refine' wpAnyH_take (i := 10) (v := _) (op_at rfl) (by kernel_rfl) (by kernel_rfl) (by kernel_rfl) (fun _ _ _ h => h) (Or.inl ⟨by rfl, ?hy5⟩) (by assumption) ?rest5
  case hy5 =>
    intro w' hS
    go_simp
    try with_reducible rfl
  try simp only [Act.put, List.setIfInBounds_toArray, List.set_cons_zero, List.set_cons_succ]
  refine' wpAnyH_take (i := 11) (v := _) (op_at rfl) (by kernel_rfl) (by kernel_rfl) (by kernel_rfl) (fun _ _ _ h => h) (Or.inl ⟨by rfl, ?hy6⟩) (by assumption) ?rest6
  case hy6 =>
    intro w' hS
    go_simp
    try with_reducible rfl
  try simp only [Act.put, List.setIfInBounds_toArray, List.set_cons_zero, List.set_cons_succ]
  refine' wpAnyH_take (i := 12) (v := _) (op_at rfl) (by kernel_rfl) (by kernel_rfl) (by kernel_rfl) (fun _ _ _ h => h) (Or.inl ⟨by rfl, ?hy7⟩) (by assumption) ?rest7
  case hy7 =>
    intro w' hS
    go_simp
    try with_reducible rfl
  try simp only [Act.put, List.setIfInBounds_toArray, List.set_cons_zero, List.set_cons_succ]
  refine' wpAnyH_take (i := 13) (v := _) (op_at rfl) (by kernel_rfl) (by kernel_rfl) (by kernel_rfl) (fun _ _ _ h => h) (Or.inl ⟨by rfl, ?hy8⟩) (by assumption) ?rest8
  case hy8 =>
    intro w' hS
    go_simp
    try with_reducible rfl
  try simp only [Act.put, List.setIfInBounds_toArray, List.set_cons_zero, List.set_cons_succ]
  refine' wpAnyH_take (i := 14) (v := _) (op_at rfl) (by kernel_rfl) (by kernel_rfl) (by kernel_rfl) (fun _ _ _ h => h) (Or.inl ⟨by rfl, ?hy9⟩) (by assumption) ?rest9
  case hy9 =>
    intro w' hS
    go_simp
    try with_reducible rfl
  try simp only [Act.put, List.setIfInBounds_toArray, List.set_cons_zero, List.set_cons_succ]
  refine wpAnyH_take (i := 15) (v := undef) (op_at rfl) (by kernel_rfl) (by kernel_rfl) (by kernel_rfl) (fun _ _ _ h => h) (Or.inr ⟨by rfl, rfl⟩) (by assumption) ?_
  try simp only [Act.put, List.setIfInBounds_toArray, List.set_cons_zero, List.set_cons_succ]
  refine wpAnyH_take (i := 16) (v := undef) (op_at rfl) (by kernel_rfl) (by kernel_rfl) (by kernel_rfl) (fun _ _ _ h => h) (Or.inr ⟨by rfl, rfl⟩) (by assumption) ?_
  try simp only [Act.put, List.setIfInBounds_toArray, List.set_cons_zero, List.set_cons_succ]
  refine wpAnyH_take (i := 17) (v := undef) (op_at rfl) (by kernel_rfl) (by kernel_rfl) (by kernel_rfl) (fun _ _ _ h => h) (Or.inr ⟨by rfl, rfl⟩) (by assumption) ?_
  try simp only [Act.put, List.setIfInBounds_toArray, List.set_cons_zero, List.set_cons_succ]
  refine wpAnyH_take (i := 18) (v := undef) (op_at rfl) (by kernel_rfl) (by kernel_rfl) (by kernel_rfl) (fun _ _ _ h => h) (Or.inr ⟨by rfl, rfl⟩) (by assumption) ?_
  try simp only [Act.put, List.setIfInBounds_toArray, List.set_cons_zero, List.set_cons_succ]
  refine wpAnyH_take (i := 19) (v := undef) (op_at rfl) (by kernel_rfl) (by kernel_rfl) (by kernel_rfl) (fun _ _ _ h => h) (Or.inr ⟨by rfl, rfl⟩) (by assumption) ?_
  try simp only [Act.put, List.setIfInBounds_toArray, List.set_cons_zero, List.set_cons_succ]
  refine wpAnyH_take (i := 20) (v := undef) (op_at rfl) (by kernel_rfl) (by kernel_rfl) (by kernel_rfl) (fun _ _ _ h => h) (Or.inr ⟨by rfl, rfl⟩) (by assumption) ?_
  try simp only [Act.put, List.setIfInBounds_toArray, List.set_cons_zero, List.set_cons_succ]
  refine wpAnyH_take (i := 21) (v := undef) (op_at rfl) (by kernel_rfl) (by kernel_rfl) (by kernel_rfl) (fun _ _ _ h => h) (Or.inr ⟨by rfl, rfl⟩) (by assumption) ?_
  try simp only [Act.put, List.setIfInBounds_toArray, List.set_cons_zero, List.set_cons_succ]
  refine wpAnyH_take (i := 22) (v := undef) (op_at rfl) (by kernel_rfl) (by kernel_rfl) (by kernel_rfl) (fun _ _ _ h => h) (Or.inr ⟨by rfl, rfl⟩) (by assumption) ?_
  try simp only [Act.put, List.setIfInBounds_toArray, List.set_cons_zero, List.set_cons_succ]
  refine wpAnyH_take (i := 23) (v := undef) (op_at rfl) (by kernel_rfl) (by kernel_rfl) (by kernel_rfl) (fun _ _ _ h => h) (Or.inr ⟨by rfl, rfl⟩) (by assumption) ?_
  try simp only [Act.put, List.setIfInBounds_toArray, List.set_cons_zero, List.set_cons_succ]
  refine wpAnyH_take (i := 24) (v := undef) (op_at rfl) (by kernel_rfl) (by kernel_rfl) (by kernel_rfl) (fun _ _ _ h => h) (Or.inr ⟨by rfl, rfl⟩) (by assumption) ?_
  try simp only [Act.put, List.setIfInBounds_toArray, List.set_cons_zero, List.set_cons_succ]
  refine wpAnyH_take (i := 25) (v := undef) (op_at rfl) (by kernel_rfl) (by kernel_rfl) (by kernel_rfl) (fun _ _ _ h => h) (Or.inr ⟨by rfl, rfl⟩) (by assumption) ?_
  try simp only [Act.put, List.setIfInBounds_toArray, List.set_cons_zero, List.set_cons_succ]
  refine' wpAnyH_take (i := 26) (v := _) (op_at rfl) (by kernel_rfl) (by kernel_rfl) (by kernel_rfl) (fun _ _ _ h => h) (Or.inl ⟨by rfl, ?hy10⟩) (by assumption) ?rest10
  case hy10 =>
    intro w' hS
    go_simp
    try with_reducible rfl
  try simp only [Act.put, List.setIfInBounds_toArray, List.set_cons_zero, List.set_cons_succ]
  refine' wpAnyH_take (i := 27) (v := _) (op_at rfl) (by kernel_rfl) (by kernel_rfl) (by kernel_rfl) (fun _ _ _ h => h) (Or.inl ⟨by rfl, ?hy11⟩) (by assumption) ?rest11
  case hy11 =>
    intro w' hS
    go_simp
    try with_reducible rfl
  try simp only [Act.put, List.setIfInBounds_toArray, List.set_cons_zero, List.set_cons_succ]
  refine' wpAnyH_take (i := 28) (v := _) (op_at rfl) (by kernel_rfl) (by kernel_rfl) (by kernel_rfl) (fun _ _ _ h => h) (Or.inl ⟨by rfl, ?hy12⟩) (by assumption) ?rest12
  case hy12 =>
    intro w' hS
    go_simp
    try with_reducible rfl
  try simp only [Act.put, List.setIfInBounds_toArray, List.set_cons_zero, List.set_cons_succ]
  refine wpAnyH_done (by kernel_rfl) ?_ _
  go_wp2_with fail
  go_ret
  exact ⟨rfl, hbel _ (hno (hoV.trans r4))⟩
set_option maxRecDepth 100000 in
set_option maxHeartbeats 20000000 in
theorem apart_near (fu1 fd1 tu1 td1 sg1 on1 dp1 dn1 : Int) (hs1 hh1 : Bool) (ss1 has1 hss1 hks1 dks1 sls1 : List Int) (ap1 ax1 ay1 ak1 ad1 az1 : Option Addr) (cp1 cx1 cy1 ck1 cd1 cz1 : Nat) (fu2 fd2 tu2 td2 sg2 on2 dp2 dn2 : Int) (hs2 hh2 : Bool) (ss2 has2 hss2 hks2 dks2 sls2 : List Int) (ap2 ax2 ay2 ak2 ad2 az2 : Option Addr) (cp2 cx2 cy2 ck2 cd2 cz2 : Nat) (w : World) (hp1 : Rd w (.slice ap1 ss1.length cp1) ss1) (hx1 : Rd w (.slice ax1 has1.length cx1) has1) (hy1 : Rd w (.slice ay1 hss1.length cy1) hss1) (hk1 : Rd w (.slice ak1 hks1.length ck1) hks1) (hd1 : Rd w (.slice ad1 dks1.length cd1) dks1) (hz1 : Rd w (.slice az1 sls1.length cz1) sls1) (hp2 : Rd w (.slice ap2 ss2.length cp2) ss2) (hx2 : Rd w (.slice ax2 has2.length cx2) has2) (hy2 : Rd w (.slice ay2 hss2.length cy2) hss2) (hk2 : Rd w (.slice ak2 hks2.length ck2) hks2) (hd2 : Rd w (.slice ad2 dks2.length cd2) dks2) (hz2 : Rd w (.slice az2 sls2.length cz2) sls2) (bp1 : Byt ss1) (bx1 : Byt has1) (by1 : Byt hss1) (bk1 : Byt hks1) (bd1 : Byt dks1) (bz1 : Byt sls1) (bp2 : Byt ss2) (bx2 : Byt has2) (by2 : Byt hss2) (bk2 : Byt hks2) (bd2 : Byt dks2) (bz2 : Byt sls2) (usg1 : U32 sg1) (uon1 : U32 on1) (udp1 : U32 dp1) (udn1 : U32 dn1) (usg2 : U32 sg2) (uon2 : U32 on2) (udp2 : U32 dp2) (udn2 : U32 dn2) (lp1 : ss1.length ≤ 140737488351232) (lx1 : has1.length ≤ 140737488351232) (ly1 : hss1.length ≤ 140737488351232) (lk1 : hks1.length ≤ 140737488351232) (ld1 : dks1.length ≤ 140737488351232) (lz1 : sls1.length ≤ 140737488351232) (lp2 : ss2.length ≤ 140737488351232) (lx2 : has2.length ≤ 140737488351232) (ly2 : hss2.length ≤ 140737488351232) (lk2 : hks2.length ≤ 140737488351232) (ld2 : dks2.length ≤ 140737488351232) (lz2 : sls2.length ≤ 140737488351232) (hl1 : ss1.length + has1.length + hss1.length + hks1.length + dks1.length + sls1.length ≤ 3000) (hl2 : ss2.length + has2.length + hss2.length + hks2.length + dks2.length + sls2.length ≤ 3000) :
    Calls Try.prog 4 #[.agg #[.int .i64 fu1, .int .i64 fd1, .int .i64 tu1, .int .i64 td1, .slice ap1 ss1.length cp1, .bool hs1, .slice ax1 has1.length cx1, .slice ay1 hss1.length cy1, .slice ak1 hks1.length ck1, .int .u32 sg1, .bool hh1, .int .u32 on1, .slice ad1 dks1.length cd1, .int .u32 dp1, .int .u32 dn1, .slice az1 sls1.length cz1], .agg #[.int .i64 fu2, .int .i64 fd2, .int .i64 tu2, .int .i64 td2, .slice ap2 ss2.length cp2, .bool hs2, .slice ax2 has2.length cx2, .slice ay2 hss2.length cy2, .slice ak2 hks2.length ck2, .int .u32 sg2, .bool hh2, .int .u32 on2, .slice ad2 dks2.length cd2, .int .u32 dp2, .int .u32 dn2, .slice az2 sls2.length cz2], .bool true] w fun e w' => e = .returned (.bool true) ∧ Below w.heap.size w w' := by
  have d1 : decide (ss1.length + has1.length + hss1.length + hks1.length + dks1.length + sls1.length ≤ 3000) = true := by simpa using hl1
  have d2 : decide (ss2.length + has2.length + hss2.length + hks2.length + dks2.length + sls2.length ≤ 3000) = true := by simpa using hl2
  go_enter Try.func4, Try.ntmps4
  go_wp2_with fail
  obtain ⟨W1, X, hW, hX, hbx0, hoW1, hX1, hX2⟩ := new_block w (.cells #[.int .i64 fu1, .int .i64 fd1, .int .i64 tu1, .int .i64 td1, .slice ap1 ss1.length cp1, .bool hs1, .slice ax1 has1.length cx1, .slice ay1 hss1.length cy1, .slice ak1 hks1.length ck1, .int .u32 sg1, .bool hh1, .int .u32 on1, .slice ad1 dks1.length cd1, .int .u32 dp1, .int .u32 dn1, .slice az1 sls1.length cz1] 43)
  have hs1 : W1.heap.size = X + 1 := by rw [hW, hX]; simp
  rw [← hW, ← hX]
  clear hW hX
  obtain ⟨W, Y, hW, hY, hby, hoW2, hY1, hY2⟩ := new_block W1 (.cells #[.int .i64 fu2, .int .i64 fd2, .int .i64 tu2, .int .i64 td2, .slice ap2 ss2.length cp2, .bool hs2, .slice ax2 has2.length cx2, .slice ay2 hss2.length cy2, .slice ak2 hks2.length ck2, .int .u32 sg2, .bool hh2, .int .u32 on2, .slice ad2 dks2.length cd2, .int .u32 dp2, .int .u32 dn2, .slice az2 sls2.length cz2] 43)
  rw [← hW, ← hs1, ← hY]
  clear hW hY hs1
  have hbx := hoW2.at hbx0 (by simp)
  have hoW := hoW1.trans hoW2
  have hYw : w.heap.size ≤ Y := Nat.le_trans hoW1.size hY1
  have hXY : X ∉ [Y] := by simp; omega
  have hbel : ∀ w', Only w w' [Y] → Below w.heap.size w w' := fun w' h => h.below (Nat.le_refl _) (by simpa using hYw)
  have hno : ∀ {w1 w2 : World}, Only w1 w2 [] → Only w1 w2 [Y] := fun h => h.mono (fun k _ hk => by simp at hk)
  have Sx : ∀ w', Only W w' [] → w'.cell? ⟨X, 0, none⟩ = some (.int .i64 fu1) ∧ w'.cell? ⟨X, 1, none⟩ = some (.int .i64 fd1) ∧ w'.cell? ⟨X, 2, none⟩ = some (.int .i64 tu1) ∧ w'.cell? ⟨X, 3, none⟩ = some (.int .i64 td1) ∧ w'.cell? ⟨X, 4, none⟩ = some (.slice ap1 ss1.length cp1) ∧ w'.cell? ⟨X, 5, none⟩ = some (.bool hs1) ∧ w'.cell? ⟨X, 6, none⟩ = some (.slice ax1 has1.length cx1) ∧ w'.cell? ⟨X, 7, none⟩ = some (.slice ay1 hss1.length cy1) ∧ w'.cell? ⟨X, 8, none⟩ = some (.slice ak1 hks1.length ck1) ∧ w'.cell? ⟨X, 9, none⟩ = some (.int .u32 sg1) ∧ w'.cell? ⟨X, 10, none⟩ = some (.bool hh1) ∧ w'.cell? ⟨X, 11, none⟩ = some (.int .u32 on1) ∧ w'.cell? ⟨X, 12, none⟩ = some (.slice ad1 dks1.length cd1) ∧ w'.cell? ⟨X, 13, none⟩ = some (.int .u32 dp1) ∧ w'.cell? ⟨X, 14, none⟩ = some (.int .u32 dn1) ∧ w'.cell? ⟨X, 15, none⟩ = some (.slice az1 sls1.length cz1) := fun w' ho => ⟨ho.cell_in hbx (by simp) 0, ho.cell_in hbx (by simp) 1, ho.cell_in hbx (by simp) 2, ho.cell_in hbx (by simp) 3, ho.cell_in hbx (by simp) 4, ho.cell_in hbx (by simp) 5, ho.cell_in hbx (by simp) 6, ho.cell_in hbx (by simp) 7, ho.cell_in hbx (by simp) 8, ho.cell_in hbx (by simp) 9, ho.cell_in hbx (by simp) 10, ho.cell_in hbx (by simp) 11, ho.cell_in hbx (by simp) 12, ho.cell_in hbx (by simp) 13, ho.cell_in hbx (by simp) 14, ho.cell_in hbx (by simp) 15⟩
  have Sy : ∀ w', Only W w' [] → w'.cell? ⟨Y, 0, none⟩ = some (.int .i64 fu2) ∧ w'.cell? ⟨Y, 1, none⟩ = some (.int .i64 fd2) ∧ w'.cell? ⟨Y, 2, none⟩ = some (.int .i64 tu2) ∧ w'.cell? ⟨Y, 3, none⟩ = some (.int .i64 td2) ∧ w'.cell? ⟨Y, 4, none⟩ = some (.slice ap2 ss2.length cp2) ∧ w'.cell? ⟨Y, 5, none⟩ = some (.bool hs2) ∧ w'.cell? ⟨Y, 6, none⟩ = some (.slice ax2 has2.length cx2) ∧ w'.cell? ⟨Y, 7, none⟩ = some (.slice ay2 hss2.length cy2) ∧ w'.cell? ⟨Y, 8, none⟩ = some (.slice ak2 hks2.length ck2) ∧ w'.cell? ⟨Y, 9, none⟩ = some (.int .u32 sg2) ∧ w'.cell? ⟨Y, 10, none⟩ = some (.bool hh2) ∧ w'.cell? ⟨Y, 11, none⟩ = some (.int .u32 on2) ∧ w'.cell? ⟨Y, 12, none⟩ = some (.slice ad2 dks2.length cd2) ∧ w'.cell? ⟨Y, 13, none⟩ = some (.int .u32 dp2) ∧ w'.cell? ⟨Y, 14, none⟩ = some (.int .u32 dn2) ∧ w'.cell? ⟨Y, 15, none⟩ = some (.slice az2 sls2.length cz2) := fun w' ho => ⟨ho.cell_in hby (by simp) 0, ho.cell_in hby (by simp) 1, ho.cell_in hby (by simp) 2, ho.cell_in hby (by simp) 3, ho.cell_in hby (by simp) 4, ho.cell_in hby (by simp) 5, ho.cell_in hby (by simp) 6, ho.cell_in hby (by simp) 7, ho.cell_in hby (by simp) 8, ho.cell_in hby (by simp) 9, ho.cell_in hby (by simp) 10, ho.cell_in hby (by simp) 11, ho.cell_in hby (by simp) 12, ho.cell_in hby (by simp) 13, ho.cell_in hby (by simp) 14, ho.cell_in hby (by simp) 15⟩
  refine (awake14 _).mono ?_
  rintro e w1 ⟨rfl, h1⟩
  have sx := Sx _ h1
  go_wp2_with fail
  refine (short_any fu1 fd1 tu1 td1 sg1 on1 dp1 dn1 hs1 hh1 ss1 has1 hss1 hks1 dks1 sls1 ap1 ax1 ay1 ak1 ad1 az1 cp1 cx1 cy1 ck1 cd1 cz1 _ lp1 lx1 ly1 lk1 ld1 lz1).mono ?_
  rintro e w2 ⟨rfl, h2⟩
  have h3 := h1.trans h2
  clear sx
  have sy := Sy _ h3
  go_wp2_with fail
  refine (short_any fu2 fd2 tu2 td2 sg2 on2 dp2 dn2 hs2 hh2 ss2 has2 hss2 hks2 dks2 sls2 ap2 ax2 ay2 ak2 ad2 az2 cp2 cx2 cy2 ck2 cd2 cz2 _ lp2 lx2 ly2 lk2 ld2 lz2).mono ?_
  rintro e w4 ⟨rfl, h4⟩
  clear sy
  have h5 := h3.trans h4
  have sx := Sx _ h5
  have sy := Sy _ h5
  have hby4 := h5.at hby (by simp)
  have hbx4 := h5.at hbx (by simp)
  have f0 := free_in hby4 0
  have f1 := free_in hby4 1
  have f2 := free_in hby4 2
  have f3 := free_in hby4 3
  have f4 := free_in hby4 4
  have f5 := free_in hby4 5
  have f6 := free_in hby4 6
  have f7 := free_in hby4 7
  have f8 := free_in hby4 8
  have f9 := free_in hby4 9
  have f10 := free_in hby4 10
  have f11 := free_in hby4 11
  have f12 := free_in hby4 12
  have f13 := free_in hby4 13
  have f14 := free_in hby4 14
  have f15 := free_in hby4 15
  go_wp2_with fail
  have hE0 : ((((((((((((((((w4.setCell ⟨Y, 0, none⟩ (.int .i64 fu1)).setCell ⟨Y, 1, none⟩ (.int .i64 fd1)).setCell ⟨Y, 2, none⟩ (.int .i64 tu1)).setCell ⟨Y, 3, none⟩ (.int .i64 td1)).setCell ⟨Y, 4, none⟩ (.slice ap1 ss1.length cp1)).setCell ⟨Y, 5, none⟩ (.bool hs1)).setCell ⟨Y, 6, none⟩ (.slice ax1 has1.length cx1)).setCell ⟨Y, 7, none⟩ (.slice ay1 hss1.length cy1)).setCell ⟨Y, 8, none⟩ (.slice ak1 hks1.length ck1)).setCell ⟨Y, 9, none⟩ (.int .u32 sg1)).setCell ⟨Y, 10, none⟩ (.bool hh1)).setCell ⟨Y, 11, none⟩ (.int .u32 on1)).setCell ⟨Y, 12, none⟩ (.slice ad1 dks1.length cd1)).setCell ⟨Y, 13, none⟩ (.int .u32 dp1)).setCell ⟨Y, 14, none⟩ (.int .u32 dn1)).setCell ⟨Y, 15, none⟩ (.slice az1 sls1.length cz1)) = setAll w4 Y 0 [.int .i64 fu1, .int .i64 fd1, .int .i64 tu1, .int .i64 td1, .slice ap1 ss1.length cp1, .bool hs1, .slice ax1 has1.length cx1, .slice ay1 hss1.length cy1, .slice ak1 hks1.length ck1, .int .u32 sg1, .bool hh1, .int .u32 on1, .slice ad1 dks1.length cd1, .int .u32 dp1, .int .u32 dn1, .slice az1 sls1.length cz1] := by simp only [setAll_cons, setAll_nil, Nat.zero_add, Nat.reduceAdd]
  rw [hE0]
  clear hE0
  have hbS := setAll_full [.int .i64 fu1, .int .i64 fd1, .int .i64 tu1, .int .i64 td1, .slice ap1 ss1.length cp1, .bool hs1, .slice ax1 has1.length cx1, .slice ay1 hss1.length cy1, .slice ak1 hks1.length ck1, .int .u32 sg1, .bool hh1, .int .u32 on1, .slice ad1 dks1.length cd1, .int .u32 dp1, .int .u32 dn1, .slice az1 sls1.length cz1] hby4 rfl
  have hoS := setAll_only Y [.int .i64 fu1, .int .i64 fd1, .int .i64 tu1, .int .i64 td1, .slice ap1 ss1.length cp1, .bool hs1, .slice ax1 has1.length cx1, .slice ay1 hss1.length cy1, .slice ak1 hks1.length ck1, .int .u32 sg1, .bool hh1, .int .u32 on1, .slice ad1 dks1.length cd1, .int .u32 dp1, .int .u32 dn1, .slice az1 sls1.length cz1] w4 0
  generalize setAll w4 Y 0 [.int .i64 fu1, .int .i64 fd1, .int .i64 tu1, .int .i64 td1, .slice ap1 ss1.length cp1, .bool hs1, .slice ax1 has1.length cx1, .slice ay1 hss1.length cy1, .slice ak1 hks1.length ck1, .int .u32 sg1, .bool hh1, .int .u32 on1, .slice ad1 dks1.length cd1, .int .u32 dp1, .int .u32 dn1, .slice az1 sls1.length cz1] = wS at *
  clear sx sy
  have g14 := free_in hbS 14
  go_wp2_with fail
  have hoF := hoS.trans (Only.setCell wS ⟨Y, 14, none⟩ (.int .u32 dn2) [Y] (by simp))
  have hbF : (wS.setCell ⟨Y, 14, none⟩ (.int .u32 dn2)).heap[Y]? = some (.cells #[.int .i64 fu1, .int .i64 fd1, .int .i64 tu1, .int .i64 td1, .slice ap1 ss1.length cp1, .bool hs1, .slice ax1 has1.length cx1, .slice ay1 hss1.length cy1, .slice ak1 hks1.length ck1, .int .u32 sg1, .bool hh1, .int .u32 on1, .slice ad1 dks1.length cd1, .int .u32 dp1, .int .u32 dn2, .slice az1 sls1.length cz1] 43 (0, 0)) := set_at hbS _
  generalize wS.setCell ⟨Y, 14, none⟩ (.int .u32 dn2) = wF at *
  have hbxF := hoF.at hbx4 hXY
  clear hbS hoS g14 hby4 hbx4
  have hbxV := hbxF
  have hbyV := hbF
  have hoV := (hno (hoW.trans h5)).trans hoF
  have Tx : ∀ w', Only wF w' [] → w'.cell? ⟨X, 0, none⟩ = some (.int .i64 fu1) ∧ w'.cell? ⟨X, 1, none⟩ = some (.int .i64 fd1) ∧ w'.cell? ⟨X, 2, none⟩ = some (.int .i64 tu1) ∧ w'.cell? ⟨X, 3, none⟩ = some (.int .i64 td1) ∧ w'.cell? ⟨X, 4, none⟩ = some (.slice ap1 ss1.length cp1) ∧ w'.cell? ⟨X, 5, none⟩ = some (.bool hs1) ∧ w'.cell? ⟨X, 6, none⟩ = some (.slice ax1 has1.length cx1) ∧ w'.cell? ⟨X, 7, none⟩ = some (.slice ay1 hss1.length cy1) ∧ w'.cell? ⟨X, 8, none⟩ = some (.slice ak1 hks1.length ck1) ∧ w'.cell? ⟨X, 9, none⟩ = some (.int .u32 sg1) ∧ w'.cell? ⟨X, 10, none⟩ = some (.bool hh1) ∧ w'.cell? ⟨X, 11, none⟩ = some (.int .u32 on1) ∧ w'.cell? ⟨X, 12, none⟩ = some (.slice ad1 dks1.length cd1) ∧ w'.cell? ⟨X, 13, none⟩ = some (.int .u32 dp1) ∧ w'.cell? ⟨X, 14, none⟩ = some (.int .u32 dn1) ∧ w'.cell? ⟨X, 15, none⟩ = some (.slice az1 sls1.length cz1) := fun w' ho => ⟨ho.cell_in hbxF (by simp) 0, ho.cell_in hbxF (by simp) 1, ho.cell_in hbxF (by simp) 2, ho.cell_in hbxF (by simp) 3, ho.cell_in hbxF (by simp) 4, ho.cell_in hbxF (by simp) 5, ho.cell_in hbxF (by simp) 6, ho.cell_in hbxF (by simp) 7, ho.cell_in hbxF (by simp) 8, ho.cell_in hbxF (by simp) 9, ho.cell_in hbxF (by simp) 10, ho.cell_in hbxF (by simp) 11, ho.cell_in hbxF (by simp) 12, ho.cell_in hbxF (by simp) 13, ho.cell_in hbxF (by simp) 14, ho.cell_in hbxF (by simp) 15⟩
  have Ty : ∀ w', Only wF w' [] → w'.cell? ⟨Y, 0, none⟩ = some (.int .i64 fu1) ∧ w'.cell? ⟨Y, 1, none⟩ = some (.int .i64 fd1) ∧ w'.cell? ⟨Y, 2, none⟩ = some (.int .i64 tu1) ∧ w'.cell? ⟨Y, 3, none⟩ = some (.int .i64 td1) ∧ w'.cell? ⟨Y, 4, none⟩ = some (.slice ap1 ss1.length cp1) ∧ w'.cell? ⟨Y, 5, none⟩ = some (.bool hs1) ∧ w'.cell? ⟨Y, 6, none⟩ = some (.slice ax1 has1.length cx1) ∧ w'.cell? ⟨Y, 7, none⟩ = some (.slice ay1 hss1.length cy1) ∧ w'.cell? ⟨Y, 8, none⟩ = some (.slice ak1 hks1.length ck1) ∧ w'.cell? ⟨Y, 9, none⟩ = some (.int .u32 sg1) ∧ w'.cell? ⟨Y, 10, none⟩ = some (.bool hh1) ∧ w'.cell? ⟨Y, 11, none⟩ = some (.int .u32 on1) ∧ w'.cell? ⟨Y, 12, none⟩ = some (.slice ad1 dks1.length cd1) ∧ w'.cell? ⟨Y, 13, none⟩ = some (.int .u32 dp1) ∧ w'.cell? ⟨Y, 14, none⟩ = some (.int .u32 dn2) ∧ w'.cell? ⟨Y, 15, none⟩ = some (.slice az1 sls1.length cz1) := fun w' ho => ⟨ho.cell_in hbF (by simp) 0, ho.cell_in hbF (by simp) 1, ho.cell_in hbF (by simp) 2, ho.cell_in hbF (by simp) 3, ho.cell_in hbF (by simp) 4, ho.cell_in hbF (by simp) 5, ho.cell_in hbF (by simp) 6, ho.cell_in hbF (by simp) 7, ho.cell_in hbF (by simp) 8, ho.cell_in hbF (by simp) 9, ho.cell_in hbF (by simp) 10, ho.cell_in hbF (by simp) 11, ho.cell_in hbF (by simp) 12, ho.cell_in hbF (by simp) 13, ho.cell_in hbF (by simp) 14, ho.cell_in hbF (by simp) 15⟩
  have kp1 : Rd wF (.slice ap1 ss1.length cp1) ss1 := Src.off hp1 hoV (Src.off_new hp1 (by decide) (by simpa using hYw))
  have kx1 : Rd wF (.slice ax1 has1.length cx1) has1 := Src.off hx1 hoV (Src.off_new hx1 (by decide) (by simpa using hYw))
  have ky1 : Rd wF (.slice ay1 hss1.length cy1) hss1 := Src.off hy1 hoV (Src.off_new hy1 (by decide) (by simpa using hYw))
  have kk1 : Rd wF (.slice ak1 hks1.length ck1) hks1 := Src.off hk1 hoV (Src.off_new hk1 (by decide) (by simpa using hYw))
  have kd1 : Rd wF (.slice ad1 dks1.length cd1) dks1 := Src.off hd1 hoV (Src.off_new hd1 (by decide) (by simpa using hYw))
  have kz1 : Rd wF (.slice az1 sls1.length cz1) sls1 := Src.off hz1 hoV (Src.off_new hz1 (by decide) (by simpa using hYw))
  clear f0 f1 f2 f3 f4 f5 f6 f7 f8 f9 f10 f11 f12 f13 f14 f15
  obtain ⟨b, hb⟩ : ∃ b, decide ((envB fu1 fd1 tu1 td1 ss1 hs1 has1 hss1 hks1 sg1 hh1 on1 dks1 dp1 dn1 sls1) = (envB fu1 fd1 tu1 td1 ss1 hs1 has1 hss1 hks1 sg1 hh1 on1 dks1 dp1 dn2 sls1)) = b := ⟨_, rfl⟩
  have bE1 := (envB_byt fu1 fd1 tu1 td1 hs1 sg1 hh1 on1 dp1 dn1 bp1 bx1 by1 bk1 bd1 bz1)
  have bE2 := (envB_byt fu1 fd1 tu1 td1 hs1 sg1 hh1 on1 dp1 dn2 bp1 bx1 by1 bk1 bd1 bz1)
  have hod := Only.drew wF []
  refine wp_region_held_drew (S := fun w' => Only wF.drew w' []) (by kernel_rfl) (Only.refl _ _) (fun hHeld => ?_)
  refine wpAnyH_take (i := 0) (op_at rfl) (by kernel_rfl) (by kernel_rfl) (by kernel_rfl) (fun _ _ _ h => h) (yieldsIf_load_mid (by rfl) _ _ rfl X 0 rfl [.int .i64 fu1, .int .i64 fd1, .int .i64 tu1, .int .i64 td1, .slice ap1 ss1.length cp1, .bool hs1, .slice ax1 has1.length cx1, .slice ay1 hss1.length cy1, .slice ak1 hks1.length ck1, .int .u32 sg1, .bool hh1, .int .u32 on1, .slice ad1 dks1.length cd1, .int .u32 dp1, .int .u32 dn1, .slice az1 sls1.length cz1] _ (fun w' hS => range_of ((hod.trans hS).at hbxV (by simp))) Try.underlying43 (by rfl) info_env) (by assumption) ?_
  try simp only [Act.put, List.setIfInBounds_toArray, List.set_cons_zero, List.set_cons_succ]
  refine wpAnyH_take (i := 1) (op_at rfl) (by kernel_rfl) (by kernel_rfl) (by kernel_rfl) (fun _ _ _ h => h) (yieldsIf_load_mid (by rfl) _ _ rfl Y 0 rfl [.int .i64 fu1, .int .i64 fd1, .int .i64 tu1, .int .i64 td1, .slice ap1 ss1.length cp1, .bool hs1, .slice ax1 has1.length cx1, .slice ay1 hss1.length cy1, .slice ak1 hks1.length ck1, .int .u32 sg1, .bool hh1, .int .u32 on1, .slice ad1 dks1.length cd1, .int .u32 dp1, .int .u32 dn2, .slice az1 sls1.length cz1] _ (fun w' hS => range_of ((hod.trans hS).at hbyV (by simp))) Try.underlying43 (by rfl) info_env) (by assumption) ?_
  try simp only [Act.put, List.setIfInBounds_toArray, List.set_cons_zero, List.set_cons_succ]
  refine wpAnyH_take (i := 3) (op_at rfl) (by kernel_rfl) (by kernel_rfl) (by kernel_rfl) (fun _ _ _ h => h) (yieldsIf_load_mid (by rfl) _ _ rfl X 0 rfl [.int .i64 fu1, .int .i64 fd1, .int .i64 tu1, .int .i64 td1, .slice ap1 ss1.length cp1, .bool hs1, .slice ax1 has1.length cx1, .slice ay1 hss1.length cy1, .slice ak1 hks1.length ck1, .int .u32 sg1, .bool hh1, .int .u32 on1, .slice ad1 dks1.length cd1, .int .u32 dp1, .int .u32 dn1, .slice az1 sls1.length cz1] _ (fun w' hS => range_of ((hod.trans hS).at hbxV (by simp))) Try.underlying43 (by rfl) info_env) (by assumption) ?_
  try simp only [Act.put, List.setIfInBounds_toArray, List.set_cons_zero, List.set_cons_succ]
  refine wpAnyH_take (i := 6) (op_at rfl) (by kernel_rfl) (by kernel_rfl) (by kernel_rfl) (fun _ _ _ h => h) (yieldsIf_load_mid (by rfl) _ _ rfl Y 0 rfl [.int .i64 fu1, .int .i64 fd1, .int .i64 tu1, .int .i64 td1, .slice ap1 ss1.length cp1, .bool hs1, .slice ax1 has1.length cx1, .slice ay1 hss1.length cy1, .slice ak1 hks1.length ck1, .int .u32 sg1, .bool hh1, .int .u32 on1, .slice ad1 dks1.length cd1, .int .u32 dp1, .int .u32 dn2, .slice az1 sls1.length cz1] _ (fun w' hS => range_of ((hod.trans hS).at hbyV (by simp))) Try.underlying43 (by rfl) info_env) (by assumption) ?_
  try simp only [Act.put, List.setIfInBounds_toArray, List.set_cons_zero, List.set_cons_succ]
  refine wpAnyH_ready (rs := [2]) (by kernel_rfl) (by simp) (AllReadyH.cons (op_at rfl) (fun K hK => ?_) AllReadyH.nil)
  go_simp
  refine (same_any fu1 fd1 tu1 td1 sg1 on1 dp1 dn1 hs1 hh1 ss1 has1 hss1 hks1 dks1 sls1 ap1 ax1 ay1 ak1 ad1 az1 cp1 cx1 cy1 ck1 cd1 cz1 fu1 fd1 tu1 td1 sg1 on1 dp1 dn2 hs1 hh1 ss1 has1 hss1 hks1 dks1 sls1 ap1 ax1 ay1 ak1 ad1 az1 cp1 cx1 cy1 ck1 cd1 cz1 _ (kp1.new hod) (kx1.new hod) (ky1.new hod) (kk1.new hod) (kd1.new hod) (kz1.new hod) (kp1.new hod) (kx1.new hod) (ky1.new hod) (kk1.new hod) (kd1.new hod) (kz1.new hod) usg1 uon1 udp1 udn1 usg1 uon1 udp1 udn2 hl1 hl1 bE1 bE2 b hb).mono ?_
  rintro e w6 ⟨rfl, p3⟩
  go_wp2_with fail
  refine hK.out _ _ p3 (fun hHeld1 => ?_)
  clear hK K
  try simp only [Act.put, List.setIfInBounds_toArray, List.set_cons_zero, List.set_cons_succ]
  refine wpAnyH_more (S' := fun w' => Only w6 w' []) (fun w' h => Only.trans p3 h) _ _ _ _ ?_
  clear hHeld hHeld1
  have hHeld : Only w6 w6 [] := Only.refl _ _
  have p4 := hod.trans p3
  refine wpAnyH_ready (rs := [4]) (by kernel_rfl) (by simp) (AllReadyH.cons (op_at rfl) (fun K hK => ?_) AllReadyH.nil)
  go_simp
  refine (rfenv_any fu1 fd1 tu1 td1 sg1 on1 dp1 dn1 hs1 hh1 (.slice ap1 ss1.length cp1) (.slice ax1 has1.length cx1) (.slice ay1 hss1.length cy1) (.slice ak1 hks1.length ck1) (.slice ad1 dks1.length cd1) (.slice az1 sls1.length cz1) ss1 has1 hss1 hks1 dks1 sls1 _ (kp1.new p4) (kx1.new p4) (ky1.new p4) (kk1.new p4) (kd1.new p4) (kz1.new p4) usg1 uon1 udp1 udn1 (by omega)).mono fun e w1 hq => ?_
  obtain ⟨zs, a6, k6, Hzs, rfl, q1, q2, q3⟩ := hq.name
  clear hq
  go_wp2_with fail
  refine hK.out _ _ q3 (fun hHeld1 => ?_)
  clear hK K
  try simp only [Act.put, List.setIfInBounds_toArray, List.set_cons_zero, List.set_cons_succ]
  refine wpAnyH_more (S' := fun w' => Only w1 w' []) (fun w' h => Only.trans q3 h) _ _ _ _ ?_
  clear hHeld hHeld1
  have hHeld : Only w1 w1 [] := Only.refl _ _
  have q4 := p4.trans q3
  refine' wpAnyH_take (i := 5) (v := _) (op_at rfl) (by kernel_rfl) (by kernel_rfl) (by kernel_rfl) (fun _ _ _ h => h) (Or.inl ⟨by rfl, ?hy13⟩) (by assumption) ?rest13
  case hy13 =>
    intro w' hS
    have hs7 := run_str (P := Try.prog) (w := w') (S := 22) (T := 9) Try.underlying22 Try.underlying5 Try.underlying9 ((own_rd q1).new hS) rfl
    go_simp
    try with_reducible rfl
  try simp only [Act.put, List.setIfInBounds_toArray, List.set_cons_zero, List.set_cons_succ]
  refine wpAnyH_ready (rs := [7]) (by kernel_rfl) (by simp) (AllReadyH.cons (op_at rfl) (fun K hK => ?_) AllReadyH.nil)
  go_simp
  refine (rfenv_any fu1 fd1 tu1 td1 sg1 on1 dp1 dn2 hs1 hh1 (.slice ap1 ss1.length cp1) (.slice ax1 has1.length cx1) (.slice ay1 hss1.length cy1) (.slice ak1 hks1.length ck1) (.slice ad1 dks1.length cd1) (.slice az1 sls1.length cz1) ss1 has1 hss1 hks1 dks1 sls1 _ (kp1.new q4) (kx1.new q4) (ky1.new q4) (kk1.new q4) (kd1.new q4) (kz1.new q4) usg1 uon1 udp1 udn2 (by omega)).mono fun e w2 hq2 => ?_
  obtain ⟨us, a7, k7, Hus, rfl, r1, r2, r3⟩ := hq2.name
  clear hq2
  go_wp2_with fail
  refine hK.out _ _ r3 (fun hHeld1 => ?_)
  clear hK K
  try simp only [Act.put, List.setIfInBounds_toArray, List.set_cons_zero, List.set_cons_succ]
  refine wpAnyH_more (S' := fun w' => Only w2 w' []) (fun w' h => Only.trans r3 h) _ _ _ _ ?_
  clear hHeld hHeld1
  have hHeld : Only w2 w2 [] := Only.refl _ _
  have r4 := q4.trans r3
  refine' wpAnyH_take (i := 8) (v := _) (op_at rfl) (by kernel_rfl) (by kernel_rfl) (by kernel_rfl) (fun _ _ _ h => h) (Or.inl ⟨by rfl, ?hy14⟩) (by assumption) ?rest14
  case hy14 =>
    intro w' hS
    have hs9 := run_str (P := Try.prog) (w := w') (S := 22) (T := 9) Try.underlying22 Try.underlying5 Try.underlying9 ((own_rd r1).new hS) rfl
    go_simp
    try with_reducible rfl
  try simp only [Act.put, List.setIfInBounds_toArray, List.set_cons_zero, List.set_cons_succ]
  have hE : ((strOfNums zs).toList == (strOfNums us).toList) = b := by rw [Hzs.out, Hus.out, str_beq bE1 bE2, hb]
  refine' wpAnyH_take (i := 9) (v := _) (op_at rfl) (by kernel_rfl) (by kernel_rfl) (by kernel_rfl) (fun _ _ _ h => h) (Or.inl ⟨by rfl, ?hy15⟩) (by assumption) ?rest15
  case hy15 =>
    intro w' hS
    go_simp
    try with_reducible rfl
  try simp only [Act.put, List.setIfInBounds_toArray, List.set_cons_zero, List.set_cons_succ]
  refine' wpAnyH_take (i := 10) (v := _) (op_at rfl) (by kernel_rfl) (by kernel_rfl) (by kernel_rfl) (fun _ _ _ h => h) (Or.inl ⟨by rfl, ?hy16⟩) (by assumption) ?rest16
  case hy16 =>
    intro w' hS
    go_simp
    try with_reducible rfl
  try simp only [Act.put, List.setIfInBounds_toArray, List.set_cons_zero, List.set_cons_succ]
  refine' wpAnyH_take (i := 11) (v := _) (op_at rfl) (by kernel_rfl) (by kernel_rfl) (by kernel_rfl) (fun _ _ _ h => h) (Or.inl ⟨by rfl, ?hy17⟩) (by assumption) ?rest17
  case hy17 =>
    intro w' hS
    go_simp
    try with_reducible rfl
  try simp only [Act.put, List.setIfInBounds_toArray, List.set_cons_zero, List.set_cons_succ]
  refine' wpAnyH_take (i := 12) (v := _) (op_at rfl) (by kernel_rfl) (by kernel_rfl) (by kernel_rfl) (fun _ _ _ h => h) (Or.inl ⟨by rfl, ?hy18⟩) (by assumption) ?rest18
  case hy18 =>
    intro w' hS
    go_simp
    try with_reducible rfl
  try simp only [Act.put, List.setIfInBounds_toArray, List.set_cons_zero, List.set_cons_succ]
  refine' wpAnyH_take (i := 13) (v := _) (op_at rfl) (by kernel_rfl) (by kernel_rfl) (by kernel_rfl) (fun _ _ _ h => h) (Or.inl ⟨by rfl, ?hy19⟩) (by assumption) ?rest19
  case hy19 =>
    intro w' hS
    go_simp
    try with_reducible rfl
  try simp only [Act.put, List.setIfInBounds_toArray, List.set_cons_zero, List.set_cons_succ]
  refine' wpAnyH_take (i := 14) (v := _) (op_at rfl) (by kernel_rfl) (by kernel_rfl) (by kernel_rfl) (fun _ _ _ h => h) (Or.inl ⟨by rfl, ?hy20⟩) (by assumption) ?rest20
  case hy20 =>
    intro w' hS
    go_simp
    try with_reducible rfl
  try simp only [Act.put, List.setIfInBounds_toArray, List.set_cons_zero, List.set_cons_succ]
  refine wpAnyH_take (i := 15) (op_at rfl) (by kernel_rfl) (by kernel_rfl) (by kernel_rfl) (fun _ _ _ h => h) (yieldsIf_load_mid (by rfl) _ _ rfl X 0 rfl [.int .i64 fu1, .int .i64 fd1, .int .i64 tu1, .int .i64 td1, .slice ap1 ss1.length cp1, .bool hs1, .slice ax1 has1.length cx1, .slice ay1 hss1.length cy1, .slice ak1 hks1.length ck1, .int .u32 sg1, .bool hh1, .int .u32 on1, .slice ad1 dks1.length cd1, .int .u32 dp1, .int .u32 dn1, .slice az1 sls1.length cz1] _ (fun w' hS => range_of ((r4.trans hS).at hbxV (by simp))) Try.underlying43 (by rfl) info_env) (by assumption) ?_
  try simp only [Act.put, List.setIfInBounds_toArray, List.set_cons_zero, List.set_cons_succ]
  refine wpAnyH_take (i := 16) (op_at rfl) (by kernel_rfl) (by kernel_rfl) (by kernel_rfl) (fun _ _ _ h => h) (yieldsIf_load_mid (by rfl) _ _ rfl Y 0 rfl [.int .i64 fu1, .int .i64 fd1, .int .i64 tu1, .int .i64 td1, .slice ap1 ss1.length cp1, .bool hs1, .slice ax1 has1.length cx1, .slice ay1 hss1.length cy1, .slice ak1 hks1.length ck1, .int .u32 sg1, .bool hh1, .int .u32 on1, .slice ad1 dks1.length cd1, .int .u32 dp1, .int .u32 dn2, .slice az1 sls1.length cz1] _ (fun w' hS => range_of ((r4.trans hS).at hbyV (by simp))) Try.underlying43 (by rfl) info_env) (by assumption) ?_
  try simp only [Act.put, List.setIfInBounds_toArray, List.set_cons_zero, List.set_cons_succ]
  refine' wpAnyH_take (i := 18) (v := _) (op_at rfl) (by kernel_rfl) (by kernel_rfl) (by kernel_rfl) (fun _ _ _ h => h) (Or.inl ⟨by rfl, ?hy21⟩) (by assumption) ?rest21
  case hy21 =>
    intro w' hS
    go_simp
    try with_reducible rfl
  try simp only [Act.put, List.setIfInBounds_toArray, List.set_cons_zero, List.set_cons_succ]
  refine' wpAnyH_take (i := 19) (v := _) (op_at rfl) (by kernel_rfl) (by kernel_rfl) (by kernel_rfl) (fun _ _ _ h => h) (Or.inl ⟨by rfl, ?hy22⟩) (by assumption) ?rest22
  case hy22 =>
    intro w' hS
    go_simp
    try with_reducible rfl
  try simp only [Act.put, List.setIfInBounds_toArray, List.set_cons_zero, List.set_cons_succ]
  refine' wpAnyH_take (i := 20) (v := _) (op_at rfl) (by kernel_rfl) (by kernel_rfl) (by kernel_rfl) (fun _ _ _ h => h) (Or.inl ⟨by rfl, ?hy23⟩) (by assumption) ?rest23
  case hy23 =>
    intro w' hS
    have cx := cell_in ((r4.trans hS).at hbxV (by simp)) 14
    go_simp
    try with_reducible rfl
  try simp only [Act.put, List.setIfInBounds_toArray, List.set_cons_zero, List.set_cons_succ]
  refine' wpAnyH_take (i := 21) (v := _) (op_at rfl) (by kernel_rfl) (by kernel_rfl) (by kernel_rfl) (fun _ _ _ h => h) (Or.inl ⟨by rfl, ?hy24⟩) (by assumption) ?rest24
  case hy24 =>
    intro w' hS
    go_simp
    try with_reducible rfl
  try simp only [Act.put, List.setIfInBounds_toArray, List.set_cons_zero, List.set_cons_succ]
  refine' wpAnyH_take (i := 22) (v := _) (op_at rfl) (by kernel_rfl) (by kernel_rfl) (by kernel_rfl) (fun _ _ _ h => h) (Or.inl ⟨by rfl, ?hy25⟩) (by assumption) ?rest25
  case hy25 =>
    intro w' hS
    go_simp
    try with_reducible rfl
  try simp only [Act.put, List.setIfInBounds_toArray, List.set_cons_zero, List.set_cons_succ]
  refine' wpAnyH_take (i := 23) (v := _) (op_at rfl) (by kernel_rfl) (by kernel_rfl) (by kernel_rfl) (fun _ _ _ h => h) (Or.inl ⟨by rfl, ?hy26⟩) (by assumption) ?rest26
  case hy26 =>
    intro w' hS
    have cy := cell_in ((r4.trans hS).at hbyV (by simp)) 14
    go_simp
    try with_reducible rfl
  try simp only [Act.put, List.setIfInBounds_toArray, List.set_cons_zero, List.set_cons_succ]
  have hN : (dn1 == dn2) = b := by
    rw [← hb]
    by_cases e : dn1 = dn2
    · subst e
      simp
    · rw [decide_eq_false (fun h => e (envB_dn udn1 udn2 h))]
      simpa using e
  refine' wpAnyH_take (i := 24) (v := _) (op_at rfl) (by kernel_rfl) (by kernel_rfl) (by kernel_rfl) (fun _ _ _ h => h) (Or.inl ⟨by rfl, ?hy27⟩) (by assumption) ?rest27
  case hy27 =>
    intro w' hS
    go_simp
    try with_reducible rfl
  try simp only [Act.put, List.setIfInBounds_toArray, List.set_cons_zero, List.set_cons_succ]
  refine wpAnyH_ready (rs := [17]) (by kernel_rfl) (by simp) (AllReadyH.cons (op_at rfl) (fun K hK => ?_) AllReadyH.nil)
  go_simp
  refine (same_any fu1 fd1 tu1 td1 sg1 on1 dp1 dn1 hs1 hh1 ss1 has1 hss1 hks1 dks1 sls1 ap1 ax1 ay1 ak1 ad1 az1 cp1 cx1 cy1 ck1 cd1 cz1 fu1 fd1 tu1 td1 sg1 on1 dp1 dn2 hs1 hh1 ss1 has1 hss1 hks1 dks1 sls1 ap1 ax1 ay1 ak1 ad1 az1 cp1 cx1 cy1 ck1 cd1 cz1 _ (kp1.new r4) (kx1.new r4) (ky1.new r4) (kk1.new r4) (kd1.new r4) (kz1.new r4) (kp1.new r4) (kx1.new r4) (ky1.new r4) (kk1.new r4) (kd1.new r4) (kz1.new r4) usg1 uon1 udp1 udn1 usg1 uon1 udp1 udn2 hl1 hl1 bE1 bE2 b hb).mono ?_
  rintro e w7 ⟨rfl, p5⟩
  go_wp2_with fail
  refine hK.out _ _ p5 (fun hHeld1 => ?_)
  clear hK K
  try simp only [Act.put, List.setIfInBounds_toArray, List.set_cons_zero, List.set_cons_succ]
  refine wpAnyH_more (S' := fun w' => Only w7 w' []) (fun w' h => Only.trans p5 h) _ _ _ _ ?_
  clear hHeld hHeld1
  have hHeld : Only w7 w7 [] := Only.refl _ _
  have p6 := r4.trans p5
  refine' wpAnyH_take (i := 25) (v := _) (op_at rfl) (by kernel_rfl) (by kernel_rfl) (by kernel_rfl) (fun _ _ _ h => h) (Or.inl ⟨by rfl, ?hy28⟩) (by assumption) ?rest28
  case hy28 =>
    intro w' hS
    go_simp
    try with_reducible rfl
  try simp only [Act.put, List.setIfInBounds_toArray, List.set_cons_zero, List.set_cons_succ]
  refine' wpAnyH_take (i := 26) (v := _) (op_at rfl) (by kernel_rfl) (by kernel_rfl) (by kernel_rfl) (fun _ _ _ h => h) (Or.inl ⟨by rfl, ?hy29⟩) (by assumption) ?rest29
  case hy29 =>
    intro w' hS
    go_simp
    try with_reducible rfl
  try simp only [Act.put, List.setIfInBounds_toArray, List.set_cons_zero, List.set_cons_succ]
  refine' wpAnyH_take (i := 27) (v := _) (op_at rfl) (by kernel_rfl) (by kernel_rfl) (by kernel_rfl) (fun _ _ _ h => h) (Or.inl ⟨by rfl, ?hy30⟩) (by assumption) ?rest30
  case hy30 =>
    intro w' hS
    go_simp
    try with_reducible rfl
  try simp only [Act.put, List.setIfInBounds_toArray, List.set_cons_zero, List.set_cons_succ]
  refine' wpAnyH_take (i := 28) (v := _) (op_at rfl) (by kernel_rfl) (by kernel_rfl) (by kernel_rfl) (fun _ _ _ h => h) (Or.inl ⟨by rfl, ?hy31⟩) (by assumption) ?rest31
  case hy31 =>
    intro w' hS
    go_simp
    try with_reducible rfl
  try simp only [Act.put, List.setIfInBounds_toArray, List.set_cons_zero, List.set_cons_succ]
  refine wpAnyH_done (by kernel_rfl) ?_ _
  go_wp2_with fail
  go_ret
  exact ⟨rfl, hbel _ (hoV.trans (hno p6))⟩
set_option maxRecDepth 100000 in
set_option maxHeartbeats 20000000 in
theorem apart_bail2 (fu1 fd1 tu1 td1 sg1 on1 dp1 dn1 : Int) (hs1 hh1 : Bool) (ss1 has1 hss1 hks1 dks1 sls1 : List Int) (ap1 ax1 ay1 ak1 ad1 az1 : Option Addr) (cp1 cx1 cy1 ck1 cd1 cz1 : Nat) (fu2 fd2 tu2 td2 sg2 on2 dp2 dn2 : Int) (hs2 hh2 : Bool) (ss2 has2 hss2 hks2 dks2 sls2 : List Int) (ap2 ax2 ay2 ak2 ad2 az2 : Option Addr) (cp2 cx2 cy2 ck2 cd2 cz2 : Nat) (near : Bool) (w : World) (hp1 : Rd w (.slice ap1 ss1.length cp1) ss1) (hx1 : Rd w (.slice ax1 has1.length cx1) has1) (hy1 : Rd w (.slice ay1 hss1.length cy1) hss1) (hk1 : Rd w (.slice ak1 hks1.length ck1) hks1) (hd1 : Rd w (.slice ad1 dks1.length cd1) dks1) (hz1 : Rd w (.slice az1 sls1.length cz1) sls1) (hp2 : Rd w (.slice ap2 ss2.length cp2) ss2) (hx2 : Rd w (.slice ax2 has2.length cx2) has2) (hy2 : Rd w (.slice ay2 hss2.length cy2) hss2) (hk2 : Rd w (.slice ak2 hks2.length ck2) hks2) (hd2 : Rd w (.slice ad2 dks2.length cd2) dks2) (hz2 : Rd w (.slice az2 sls2.length cz2) sls2) (bp1 : Byt ss1) (bx1 : Byt has1) (by1 : Byt hss1) (bk1 : Byt hks1) (bd1 : Byt dks1) (bz1 : Byt sls1) (bp2 : Byt ss2) (bx2 : Byt has2) (by2 : Byt hss2) (bk2 : Byt hks2) (bd2 : Byt dks2) (bz2 : Byt sls2) (usg1 : U32 sg1) (uon1 : U32 on1) (udp1 : U32 dp1) (udn1 : U32 dn1) (usg2 : U32 sg2) (uon2 : U32 on2) (udp2 : U32 dp2) (udn2 : U32 dn2) (lp1 : ss1.length ≤ 140737488351232) (lx1 : has1.length ≤ 140737488351232) (ly1 : hss1.length ≤ 140737488351232) (lk1 : hks1.length ≤ 140737488351232) (ld1 : dks1.length ≤ 140737488351232) (lz1 : sls1.length ≤ 140737488351232) (lp2 : ss2.length ≤ 140737488351232) (lx2 : has2.length ≤ 140737488351232) (ly2 : hss2.length ≤ 140737488351232) (lk2 : hks2.length ≤ 140737488351232) (ld2 : dks2.length ≤ 140737488351232) (lz2 : sls2.length ≤ 140737488351232) (hl1 : ss1.length + has1.length + hss1.length + hks1.length + dks1.length + sls1.length ≤ 3000) (hl2 : ¬ ss2.length + has2.length + hss2.length + hks2.length + dks2.length + sls2.length ≤ 3000) :
    Calls Try.prog 4 #[.agg #[.int .i64 fu1, .int .i64 fd1, .int .i64 tu1, .int .i64 td1, .slice ap1 ss1.length cp1, .bool hs1, .slice ax1 has1.length cx1, .slice ay1 hss1.length cy1, .slice ak1 hks1.length ck1, .int .u32 sg1, .bool hh1, .int .u32 on1, .slice ad1 dks1.length cd1, .int .u32 dp1, .int .u32 dn1, .slice az1 sls1.length cz1], .agg #[.int .i64 fu2, .int .i64 fd2, .int .i64 tu2, .int .i64 td2, .slice ap2 ss2.length cp2, .bool hs2, .slice ax2 has2.length cx2, .slice ay2 hss2.length cy2, .slice ak2 hks2.length ck2, .int .u32 sg2, .bool hh2, .int .u32 on2, .slice ad2 dks2.length cd2, .int .u32 dp2, .int .u32 dn2, .slice az2 sls2.length cz2], .bool near] w fun e w' => e = .returned (.bool true) ∧ Below w.heap.size w w' := by
  have d1 : decide (ss1.length + has1.length + hss1.length + hks1.length + dks1.length + sls1.length ≤ 3000) = true := by simpa using hl1
  have d2 : decide (ss2.length + has2.length + hss2.length + hks2.length + dks2.length + sls2.length ≤ 3000) = false := by simpa using hl2
  go_enter Try.func4, Try.ntmps4
  go_wp2_with fail
  obtain ⟨W1, X, hW, hX, hbx0, hoW1, hX1, hX2⟩ := new_block w (.cells #[.int .i64 fu1, .int .i64 fd1, .int .i64 tu1, .int .i64 td1, .slice ap1 ss1.length cp1, .bool hs1, .slice ax1 has1.length cx1, .slice ay1 hss1.length cy1, .slice ak1 hks1.length ck1, .int .u32 sg1, .bool hh1, .int .u32 on1, .slice ad1 dks1.length cd1, .int .u32 dp1, .int .u32 dn1, .slice az1 sls1.length cz1] 43)
  have hs1 : W1.heap.size = X + 1 := by rw [hW, hX]; simp
  rw [← hW, ← hX]
  clear hW hX
  obtain ⟨W, Y, hW, hY, hby, hoW2, hY1, hY2⟩ := new_block W1 (.cells #[.int .i64 fu2, .int .i64 fd2, .int .i64 tu2, .int .i64 td2, .slice ap2 ss2.length cp2, .bool hs2, .slice ax2 has2.length cx2, .slice ay2 hss2.length cy2, .slice ak2 hks2.length ck2, .int .u32 sg2, .bool hh2, .int .u32 on2, .slice ad2 dks2.length cd2, .int .u32 dp2, .int .u32 dn2, .slice az2 sls2.length cz2] 43)
  rw [← hW, ← hs1, ← hY]
  clear hW hY hs1
  have hbx := hoW2.at hbx0 (by simp)
  have hoW := hoW1.trans hoW2
  have hYw : w.heap.size ≤ Y := Nat.le_trans hoW1.size hY1
  have hXY : X ∉ [Y] := by simp; omega
  have hbel : ∀ w', Only w w' [Y] → Below w.heap.size w w' := fun w' h => h.below (Nat.le_refl _) (by simpa using hYw)
  have hno : ∀ {w1 w2 : World}, Only w1 w2 [] → Only w1 w2 [Y] := fun h => h.mono (fun k _ hk => by simp at hk)
  have Sx : ∀ w', Only W w' [] → w'.cell? ⟨X, 0, none⟩ = some (.int .i64 fu1) ∧ w'.cell? ⟨X, 1, none⟩ = some (.int .i64 fd1) ∧ w'.cell? ⟨X, 2, none⟩ = some (.int .i64 tu1) ∧ w'.cell? ⟨X, 3, none⟩ = some (.int .i64 td1) ∧ w'.cell? ⟨X, 4, none⟩ = some (.slice ap1 ss1.length cp1) ∧ w'.cell? ⟨X, 5, none⟩ = some (.bool hs1) ∧ w'.cell? ⟨X, 6, none⟩ = some (.slice ax1 has1.length cx1) ∧ w'.cell? ⟨X, 7, none⟩ = some (.slice ay1 hss1.length cy1) ∧ w'.cell? ⟨X, 8, none⟩ = some (.slice ak1 hks1.length ck1) ∧ w'.cell? ⟨X, 9, none⟩ = some (.int .u32 sg1) ∧ w'.cell? ⟨X, 10, none⟩ = some (.bool hh1) ∧ w'.cell? ⟨X, 11, none⟩ = some (.int .u32 on1) ∧ w'.cell? ⟨X, 12, none⟩ = some (.slice ad1 dks1.length cd1) ∧ w'.cell? ⟨X, 13, none⟩ = some (.int .u32 dp1) ∧ w'.cell? ⟨X, 14, none⟩ = some (.int .u32 dn1) ∧ w'.cell? ⟨X, 15, none⟩ = some (.slice az1 sls1.length cz1) := fun w' ho => ⟨ho.cell_in hbx (by simp) 0, ho.cell_in hbx (by simp) 1, ho.cell_in hbx (by simp) 2, ho.cell_in hbx (by simp) 3, ho.cell_in hbx (by simp) 4, ho.cell_in hbx (by simp) 5, ho.cell_in hbx (by simp) 6, ho.cell_in hbx (by simp) 7, ho.cell_in hbx (by simp) 8, ho.cell_in hbx (by simp) 9, ho.cell_in hbx (by simp) 10, ho.cell_in hbx (by simp) 11, ho.cell_in hbx (by simp) 12, ho.cell_in hbx (by simp) 13, ho.cell_in hbx (by simp) 14, ho.cell_in hbx (by simp) 15⟩
  have Sy : ∀ w', Only W w' [] → w'.cell? ⟨Y, 0, none⟩ = some (.int .i64 fu2) ∧ w'.cell? ⟨Y, 1, none⟩ = some (.int .i64 fd2) ∧ w'.cell? ⟨Y, 2, none⟩ = some (.int .i64 tu2) ∧ w'.cell? ⟨Y, 3, none⟩ = some (.int .i64 td2) ∧ w'.cell? ⟨Y, 4, none⟩ = some (.slice ap2 ss2.length cp2) ∧ w'.cell? ⟨Y, 5, none⟩ = some (.bool hs2) ∧ w'.cell? ⟨Y, 6, none⟩ = some (.slice ax2 has2.length cx2) ∧ w'.cell? ⟨Y, 7, none⟩ = some (.slice ay2 hss2.length cy2) ∧ w'.cell? ⟨Y, 8, none⟩ = some (.slice ak2 hks2.length ck2) ∧ w'.cell? ⟨Y, 9, none⟩ = some (.int .u32 sg2) ∧ w'.cell? ⟨Y, 10, none⟩ = some (.bool hh2) ∧ w'.cell? ⟨Y, 11, none⟩ = some (.int .u32 on2) ∧ w'.cell? ⟨Y, 12, none⟩ = some (.slice ad2 dks2.length cd2) ∧ w'.cell? ⟨Y, 13, none⟩ = some (.int .u32 dp2) ∧ w'.cell? ⟨Y, 14, none⟩ = some (.int .u32 dn2) ∧ w'.cell? ⟨Y, 15, none⟩ = some (.slice az2 sls2.length cz2) := fun w' ho => ⟨ho.cell_in hby (by simp) 0, ho.cell_in hby (by simp) 1, ho.cell_in hby (by simp) 2, ho.cell_in hby (by simp) 3, ho.cell_in hby (by simp) 4, ho.cell_in hby (by simp) 5, ho.cell_in hby (by simp) 6, ho.cell_in hby (by simp) 7, ho.cell_in hby (by simp) 8, ho.cell_in hby (by simp) 9, ho.cell_in hby (by simp) 10, ho.cell_in hby (by simp) 11, ho.cell_in hby (by simp) 12, ho.cell_in hby (by simp) 13, ho.cell_in hby (by simp) 14, ho.cell_in hby (by simp) 15⟩
  refine (awake14 _).mono ?_
  rintro e w1 ⟨rfl, h1⟩
  have sx := Sx _ h1
  go_wp2_with fail
  refine (short_any fu1 fd1 tu1 td1 sg1 on1 dp1 dn1 hs1 hh1 ss1 has1 hss1 hks1 dks1 sls1 ap1 ax1 ay1 ak1 ad1 az1 cp1 cx1 cy1 ck1 cd1 cz1 _ lp1 lx1 ly1 lk1 ld1 lz1).mono ?_
  rintro e w2 ⟨rfl, h2⟩
  have h3 := h1.trans h2
  clear sx
  have sy := Sy _ h3
  go_wp2_with fail
  refine (short_any fu2 fd2 tu2 td2 sg2 on2 dp2 dn2 hs2 hh2 ss2 has2 hss2 hks2 dks2 sls2 ap2 ax2 ay2 ak2 ad2 az2 cp2 cx2 cy2 ck2 cd2 cz2 _ lp2 lx2 ly2 lk2 ld2 lz2).mono ?_
  rintro e w4 ⟨rfl, h4⟩
  clear sy
  have h5 := h3.trans h4
  go_wp2_with fail
  refine (awake14 _).mono ?_
  rintro e w9 ⟨rfl, h9⟩
  go_wp2_with fail
  go_ret
  exact ⟨rfl, hbel _ (hno ((hoW.trans h5).trans h9))⟩
set_option maxRecDepth 100000 in
set_option maxHeartbeats 20000000 in
theorem apart_bail1 (fu1 fd1 tu1 td1 sg1 on1 dp1 dn1 : Int) (hs1 hh1 : Bool) (ss1 has1 hss1 hks1 dks1 sls1 : List Int) (ap1 ax1 ay1 ak1 ad1 az1 : Option Addr) (cp1 cx1 cy1 ck1 cd1 cz1 : Nat) (fu2 fd2 tu2 td2 sg2 on2 dp2 dn2 : Int) (hs2 hh2 : Bool) (ss2 has2 hss2 hks2 dks2 sls2 : List Int) (ap2 ax2 ay2 ak2 ad2 az2 : Option Addr) (cp2 cx2 cy2 ck2 cd2 cz2 : Nat) (near : Bool) (w : World) (hp1 : Rd w (.slice ap1 ss1.length cp1) ss1) (hx1 : Rd w (.slice ax1 has1.length cx1) has1) (hy1 : Rd w (.slice ay1 hss1.length cy1) hss1) (hk1 : Rd w (.slice ak1 hks1.length ck1) hks1) (hd1 : Rd w (.slice ad1 dks1.length cd1) dks1) (hz1 : Rd w (.slice az1 sls1.length cz1) sls1) (hp2 : Rd w (.slice ap2 ss2.length cp2) ss2) (hx2 : Rd w (.slice ax2 has2.length cx2) has2) (hy2 : Rd w (.slice ay2 hss2.length cy2) hss2) (hk2 : Rd w (.slice ak2 hks2.length ck2) hks2) (hd2 : Rd w (.slice ad2 dks2.length cd2) dks2) (hz2 : Rd w (.slice az2 sls2.length cz2) sls2) (bp1 : Byt ss1) (bx1 : Byt has1) (by1 : Byt hss1) (bk1 : Byt hks1) (bd1 : Byt dks1) (bz1 : Byt sls1) (bp2 : Byt ss2) (bx2 : Byt has2) (by2 : Byt hss2) (bk2 : Byt hks2) (bd2 : Byt dks2) (bz2 : Byt sls2) (usg1 : U32 sg1) (uon1 : U32 on1) (udp1 : U32 dp1) (udn1 : U32 dn1) (usg2 : U32 sg2) (uon2 : U32 on2) (udp2 : U32 dp2) (udn2 : U32 dn2) (lp1 : ss1.length ≤ 140737488351232) (lx1 : has1.length ≤ 140737488351232) (ly1 : hss1.length ≤ 140737488351232) (lk1 : hks1.length ≤ 140737488351232) (ld1 : dks1.length ≤ 140737488351232) (lz1 : sls1.length ≤ 140737488351232) (lp2 : ss2.length ≤ 140737488351232) (lx2 : has2.length ≤ 140737488351232) (ly2 : hss2.length ≤ 140737488351232) (lk2 : hks2.length ≤ 140737488351232) (ld2 : dks2.length ≤ 140737488351232) (lz2 : sls2.length ≤ 140737488351232) (hl1 : ¬ ss1.length + has1.length + hss1.length + hks1.length + dks1.length + sls1.length ≤ 3000) :
    Calls Try.prog 4 #[.agg #[.int .i64 fu1, .int .i64 fd1, .int .i64 tu1, .int .i64 td1, .slice ap1 ss1.length cp1, .bool hs1, .slice ax1 has1.length cx1, .slice ay1 hss1.length cy1, .slice ak1 hks1.length ck1, .int .u32 sg1, .bool hh1, .int .u32 on1, .slice ad1 dks1.length cd1, .int .u32 dp1, .int .u32 dn1, .slice az1 sls1.length cz1], .agg #[.int .i64 fu2, .int .i64 fd2, .int .i64 tu2, .int .i64 td2, .slice ap2 ss2.length cp2, .bool hs2, .slice ax2 has2.length cx2, .slice ay2 hss2.length cy2, .slice ak2 hks2.length ck2, .int .u32 sg2, .bool hh2, .int .u32 on2, .slice ad2 dks2.length cd2, .int .u32 dp2, .int .u32 dn2, .slice az2 sls2.length cz2], .bool near] w fun e w' => e = .returned (.bool true) ∧ Below w.heap.size w w' := by
  have d1 : decide (ss1.length + has1.length + hss1.length + hks1.length + dks1.length + sls1.length ≤ 3000) = false := by simpa using hl1
  go_enter Try.func4, Try.ntmps4
  go_wp2_with fail
  obtain ⟨W1, X, hW, hX, hbx0, hoW1, hX1, hX2⟩ := new_block w (.cells #[.int .i64 fu1, .int .i64 fd1, .int .i64 tu1, .int .i64 td1, .slice ap1 ss1.length cp1, .bool hs1, .slice ax1 has1.length cx1, .slice ay1 hss1.length cy1, .slice ak1 hks1.length ck1, .int .u32 sg1, .bool hh1, .int .u32 on1, .slice ad1 dks1.length cd1, .int .u32 dp1, .int .u32 dn1, .slice az1 sls1.length cz1] 43)
  have hs1 : W1.heap.size = X + 1 := by rw [hW, hX]; simp
  rw [← hW, ← hX]
  clear hW hX
  obtain ⟨W, Y, hW, hY, hby, hoW2, hY1, hY2⟩ := new_block W1 (.cells #[.int .i64 fu2, .int .i64 fd2, .int .i64 tu2, .int .i64 td2, .slice ap2 ss2.length cp2, .bool hs2, .slice ax2 has2.length cx2, .slice ay2 hss2.length cy2, .slice ak2 hks2.length ck2, .int .u32 sg2, .bool hh2, .int .u32 on2, .slice ad2 dks2.length cd2, .int .u32 dp2, .int .u32 dn2, .slice az2 sls2.length cz2] 43)
  rw [← hW, ← hs1, ← hY]
  clear hW hY hs1
  have hbx := hoW2.at hbx0 (by simp)
  have hoW := hoW1.trans hoW2
  have hYw : w.heap.size ≤ Y := Nat.le_trans hoW1.size hY1
  have hXY : X ∉ [Y] := by simp; omega
  have hbel : ∀ w', Only w w' [Y] → Below w.heap.size w w' := fun w' h => h.below (Nat.le_refl _) (by simpa using hYw)
  have hno : ∀ {w1 w2 : World}, Only w1 w2 [] → Only w1 w2 [Y] := fun h => h.mono (fun k _ hk => by simp at hk)
  have Sx : ∀ w', Only W w' [] → w'.cell? ⟨X, 0, none⟩ = some (.int .i64 fu1) ∧ w'.cell? ⟨X, 1, none⟩ = some (.int .i64 fd1) ∧ w'.cell? ⟨X, 2, none⟩ = some (.int .i64 tu1) ∧ w'.cell? ⟨X, 3, none⟩ = some (.int .i64 td1) ∧ w'.cell? ⟨X, 4, none⟩ = some (.slice ap1 ss1.length cp1) ∧ w'.cell? ⟨X, 5, none⟩ = some (.bool hs1) ∧ w'.cell? ⟨X, 6, none⟩ = some (.slice ax1 has1.length cx1) ∧ w'.cell? ⟨X, 7, none⟩ = some (.slice ay1 hss1.length cy1) ∧ w'.cell? ⟨X, 8, none⟩ = some (.slice ak1 hks1.length ck1) ∧ w'.cell? ⟨X, 9, none⟩ = some (.int .u32 sg1) ∧ w'.cell? ⟨X, 10, none⟩ = some (.bool hh1) ∧ w'.cell? ⟨X, 11, none⟩ = some (.int .u32 on1) ∧ w'.cell? ⟨X, 12, none⟩ = some (.slice ad1 dks1.length cd1) ∧ w'.cell? ⟨X, 13, none⟩ = some (.int .u32 dp1) ∧ w'.cell? ⟨X, 14, none⟩ = some (.int .u32 dn1) ∧ w'.cell? ⟨X, 15, none⟩ = some (.slice az1 sls1.length cz1) := fun w' ho => ⟨ho.cell_in hbx (by simp) 0, ho.cell_in hbx (by simp) 1, ho.cell_in hbx (by simp) 2, ho.cell_in hbx (by simp) 3, ho.cell_in hbx (by simp) 4, ho.cell_in hbx (by simp) 5, ho.cell_in hbx (by simp) 6, ho.cell_in hbx (by simp) 7, ho.cell_in hbx (by simp) 8, ho.cell_in hbx (by simp) 9, ho.cell_in hbx (by simp) 10, ho.cell_in hbx (by simp) 11, ho.cell_in hbx (by simp) 12, ho.cell_in hbx (by simp) 13, ho.cell_in hbx (by simp) 14, ho.cell_in hbx (by simp) 15⟩
  have Sy : ∀ w', Only W w' [] → w'.cell? ⟨Y, 0, none⟩ = some (.int .i64 fu2) ∧ w'.cell? ⟨Y, 1, none⟩ = some (.int .i64 fd2) ∧ w'.cell? ⟨Y, 2, none⟩ = some (.int .i64 tu2) ∧ w'.cell? ⟨Y, 3, none⟩ = some (.int .i64 td2) ∧ w'.cell? ⟨Y, 4, none⟩ = some (.slice ap2 ss2.length cp2) ∧ w'.cell? ⟨Y, 5, none⟩ = some (.bool hs2) ∧ w'.cell? ⟨Y, 6, none⟩ = some (.slice ax2 has2.length cx2) ∧ w'.cell? ⟨Y, 7, none⟩ = some (.slice ay2 hss2.length cy2) ∧ w'.cell? ⟨Y, 8, none⟩ = some (.slice ak2 hks2.length ck2) ∧ w'.cell? ⟨Y, 9, none⟩ = some (.int .u32 sg2) ∧ w'.cell? ⟨Y, 10, none⟩ = some (.bool hh2) ∧ w'.cell? ⟨Y, 11, none⟩ = some (.int .u32 on2) ∧ w'.cell? ⟨Y, 12, none⟩ = some (.slice ad2 dks2.length cd2) ∧ w'.cell? ⟨Y, 13, none⟩ = some (.int .u32 dp2) ∧ w'.cell? ⟨Y, 14, none⟩ = some (.int .u32 dn2) ∧ w'.cell? ⟨Y, 15, none⟩ = some (.slice az2 sls2.length cz2) := fun w' ho => ⟨ho.cell_in hby (by simp) 0, ho.cell_in hby (by simp) 1, ho.cell_in hby (by simp) 2, ho.cell_in hby (by simp) 3, ho.cell_in hby (by simp) 4, ho.cell_in hby (by simp) 5, ho.cell_in hby (by simp) 6, ho.cell_in hby (by simp) 7, ho.cell_in hby (by simp) 8, ho.cell_in hby (by simp) 9, ho.cell_in hby (by simp) 10, ho.cell_in hby (by simp) 11, ho.cell_in hby (by simp) 12, ho.cell_in hby (by simp) 13, ho.cell_in hby (by simp) 14, ho.cell_in hby (by simp) 15⟩
  refine (awake14 _).mono ?_
  rintro e w1 ⟨rfl, h1⟩
  have sx := Sx _ h1
  go_wp2_with fail
  refine (short_any fu1 fd1 tu1 td1 sg1 on1 dp1 dn1 hs1 hh1 ss1 has1 hss1 hks1 dks1 sls1 ap1 ax1 ay1 ak1 ad1 az1 cp1 cx1 cy1 ck1 cd1 cz1 _ lp1 lx1 ly1 lk1 ld1 lz1).mono ?_
  rintro e w2 ⟨rfl, h2⟩
  have h3 := h1.trans h2
  go_wp2_with fail
  refine (awake14 _).mono ?_
  rintro e w9 ⟨rfl, h9⟩
  go_wp2_with fail
  go_ret
  exact ⟨rfl, hbel _ (hno ((hoW.trans h3).trans h9))⟩

theorem apart_walk (fu1 fd1 tu1 td1 sg1 on1 dp1 dn1 : Int) (hs1 hh1 : Bool) (ss1 has1 hss1 hks1 dks1 sls1 : List Int) (ap1 ax1 ay1 ak1 ad1 az1 : Option Addr) (cp1 cx1 cy1 ck1 cd1 cz1 : Nat) (fu2 fd2 tu2 td2 sg2 on2 dp2 dn2 : Int) (hs2 hh2 : Bool) (ss2 has2 hss2 hks2 dks2 sls2 : List Int) (ap2 ax2 ay2 ak2 ad2 az2 : Option Addr) (cp2 cx2 cy2 ck2 cd2 cz2 : Nat) (near : Bool) (w : World) (hp1 : Rd w (.slice ap1 ss1.length cp1) ss1) (hx1 : Rd w (.slice ax1 has1.length cx1) has1) (hy1 : Rd w (.slice ay1 hss1.length cy1) hss1) (hk1 : Rd w (.slice ak1 hks1.length ck1) hks1) (hd1 : Rd w (.slice ad1 dks1.length cd1) dks1) (hz1 : Rd w (.slice az1 sls1.length cz1) sls1) (hp2 : Rd w (.slice ap2 ss2.length cp2) ss2) (hx2 : Rd w (.slice ax2 has2.length cx2) has2) (hy2 : Rd w (.slice ay2 hss2.length cy2) hss2) (hk2 : Rd w (.slice ak2 hks2.length ck2) hks2) (hd2 : Rd w (.slice ad2 dks2.length cd2) dks2) (hz2 : Rd w (.slice az2 sls2.length cz2) sls2) (bp1 : Byt ss1) (bx1 : Byt has1) (by1 : Byt hss1) (bk1 : Byt hks1) (bd1 : Byt dks1) (bz1 : Byt sls1) (bp2 : Byt ss2) (bx2 : Byt has2) (by2 : Byt hss2) (bk2 : Byt hks2) (bd2 : Byt dks2) (bz2 : Byt sls2) (usg1 : U32 sg1) (uon1 : U32 on1) (udp1 : U32 dp1) (udn1 : U32 dn1) (usg2 : U32 sg2) (uon2 : U32 on2) (udp2 : U32 dp2) (udn2 : U32 dn2) (lp1 : ss1.length ≤ 140737488351232) (lx1 : has1.length ≤ 140737488351232) (ly1 : hss1.length ≤ 140737488351232) (lk1 : hks1.length ≤ 140737488351232) (ld1 : dks1.length ≤ 140737488351232) (lz1 : sls1.length ≤ 140737488351232) (lp2 : ss2.length ≤ 140737488351232) (lx2 : has2.length ≤ 140737488351232) (ly2 : hss2.length ≤ 140737488351232) (lk2 : hks2.length ≤ 140737488351232) (ld2 : dks2.length ≤ 140737488351232) (lz2 : sls2.length ≤ 140737488351232) :
    Calls Try.prog 4 #[.agg #[.int .i64 fu1, .int .i64 fd1, .int .i64 tu1, .int .i64 td1, .slice ap1 ss1.length cp1, .bool hs1, .slice ax1 has1.length cx1, .slice ay1 hss1.length cy1, .slice ak1 hks1.length ck1, .int .u32 sg1, .bool hh1, .int .u32 on1, .slice ad1 dks1.length cd1, .int .u32 dp1, .int .u32 dn1, .slice az1 sls1.length cz1], .agg #[.int .i64 fu2, .int .i64 fd2, .int .i64 tu2, .int .i64 td2, .slice ap2 ss2.length cp2, .bool hs2, .slice ax2 has2.length cx2, .slice ay2 hss2.length cy2, .slice ak2 hks2.length ck2, .int .u32 sg2, .bool hh2, .int .u32 on2, .slice ad2 dks2.length cd2, .int .u32 dp2, .int .u32 dn2, .slice az2 sls2.length cz2], .bool near] w fun e w' => e = .returned (.bool true) ∧ Below w.heap.size w w' := by
  by_cases hl1 : ss1.length + has1.length + hss1.length + hks1.length + dks1.length + sls1.length ≤ 3000
  · by_cases hl2 : ss2.length + has2.length + hss2.length + hks2.length + dks2.length + sls2.length ≤ 3000
    · cases near
      · exact apart_far fu1 fd1 tu1 td1 sg1 on1 dp1 dn1 hs1 hh1 ss1 has1 hss1 hks1 dks1 sls1 ap1 ax1 ay1 ak1 ad1 az1 cp1 cx1 cy1 ck1 cd1 cz1 fu2 fd2 tu2 td2 sg2 on2 dp2 dn2 hs2 hh2 ss2 has2 hss2 hks2 dks2 sls2 ap2 ax2 ay2 ak2 ad2 az2 cp2 cx2 cy2 ck2 cd2 cz2 w hp1 hx1 hy1 hk1 hd1 hz1 hp2 hx2 hy2 hk2 hd2 hz2 bp1 bx1 by1 bk1 bd1 bz1 bp2 bx2 by2 bk2 bd2 bz2 usg1 uon1 udp1 udn1 usg2 uon2 udp2 udn2 lp1 lx1 ly1 lk1 ld1 lz1 lp2 lx2 ly2 lk2 ld2 lz2 hl1 hl2
      · exact apart_near fu1 fd1 tu1 td1 sg1 on1 dp1 dn1 hs1 hh1 ss1 has1 hss1 hks1 dks1 sls1 ap1 ax1 ay1 ak1 ad1 az1 cp1 cx1 cy1 ck1 cd1 cz1 fu2 fd2 tu2 td2 sg2 on2 dp2 dn2 hs2 hh2 ss2 has2 hss2 hks2 dks2 sls2 ap2 ax2 ay2 ak2 ad2 az2 cp2 cx2 cy2 ck2 cd2 cz2 w hp1 hx1 hy1 hk1 hd1 hz1 hp2 hx2 hy2 hk2 hd2 hz2 bp1 bx1 by1 bk1 bd1 bz1 bp2 bx2 by2 bk2 bd2 bz2 usg1 uon1 udp1 udn1 usg2 uon2 udp2 udn2 lp1 lx1 ly1 lk1 ld1 lz1 lp2 lx2 ly2 lk2 ld2 lz2 hl1 hl2
    · exact apart_bail2 fu1 fd1 tu1 td1 sg1 on1 dp1 dn1 hs1 hh1 ss1 has1 hss1 hks1 dks1 sls1 ap1 ax1 ay1 ak1 ad1 az1 cp1 cx1 cy1 ck1 cd1 cz1 fu2 fd2 tu2 td2 sg2 on2 dp2 dn2 hs2 hh2 ss2 has2 hss2 hks2 dks2 sls2 ap2 ax2 ay2 ak2 ad2 az2 cp2 cx2 cy2 ck2 cd2 cz2 near w hp1 hx1 hy1 hk1 hd1 hz1 hp2 hx2 hy2 hk2 hd2 hz2 bp1 bx1 by1 bk1 bd1 bz1 bp2 bx2 by2 bk2 bd2 bz2 usg1 uon1 udp1 udn1 usg2 uon2 udp2 udn2 lp1 lx1 ly1 lk1 ld1 lz1 lp2 lx2 ly2 lk2 ld2 lz2 hl1 hl2
  · exact apart_bail1 fu1 fd1 tu1 td1 sg1 on1 dp1 dn1 hs1 hh1 ss1 has1 hss1 hks1 dks1 sls1 ap1 ax1 ay1 ak1 ad1 az1 cp1 cx1 cy1 ck1 cd1 cz1 fu2 fd2 tu2 td2 sg2 on2 dp2 dn2 hs2 hh2 ss2 has2 hss2 hks2 dks2 sls2 ap2 ax2 ay2 ak2 ad2 az2 cp2 cx2 cy2 ck2 cd2 cz2 near w hp1 hx1 hy1 hk1 hd1 hz1 hp2 hx2 hy2 hk2 hd2 hz2 bp1 bx1 by1 bk1 bd1 bz1 bp2 bx2 by2 bk2 bd2 bz2 usg1 uon1 udp1 udn1 usg2 uon2 udp2 udn2 lp1 lx1 ly1 lk1 ld1 lz1 lp2 lx2 ly2 lk2 ld2 lz2 hl1
end Go.Proofs.Ytemlpjfngaemdaa
