/- short, Same and bytes.Equal of layer 14. -/
import Derived.Test.YtemlpjfngaemdaaEnvP
import Derived.Test.YtemlpjfngaemdaaOpenZ
import Derived.Test.YtemlpjfngaemdaaRegion
namespace Go.Proofs.Ytemlpjfngaemdaa
open Go.RowKit Go.Pw
set_option linter.unusedVariables false

/-- The last number of the head tells two envelopes apart that are the same but for it. -/
theorem envB_dn {fu fd tu td : Int} {ss : List Int} {hs : Bool} {has hss hks : List Int} {sg : Int} {hh : Bool} {on : Int} {dks : List Int} {dp a b : Int} {sls : List Int} (ha : U32 a) (hb : U32 b) (h : envB fu fd tu td ss hs has hss hks sg hh on dks dp a sls = envB fu fd tu td ss hs has hss hks sg hh on dks dp b sls) : a = b := by
  simp only [envB, headB, List.append_assoc, List.append_cancel_left_eq, List.append_cancel_right_eq] at h
  have e : ∀ n : Int, U32 n → ofbe (be n 4) = n := fun n hn => by
    rw [ofbe_be _ _ hn.1, pow4]
    exact Int.emod_eq_of_lt hn.1 hn.2
  rw [← e a ha, ← e b hb, h]

theorem wrap_le (a b : Nat) (ha : a ≤ 900000000000000000) (hb : b ≤ 900000000000000000) : IntKind.i64.wrap ((a : Int) + (b : Int)) = ((a + b : Nat) : Int) := by
  simp [IntKind.wrap, IntKind.bits, IntKind.signed]; omega

theorem frame_byt (u d : Int) (ss : List Int) : Byt (whoB u d) := by
  intro x hx; simp only [whoB, List.mem_append] at hx; rcases hx with h | h <;> exact be_byt _ _ x h

set_option maxRecDepth 100000 in
set_option maxHeartbeats 800000 in
theorem short_any (fu1 fd1 tu1 td1 sg1 on1 dp1 dn1 : Int) (hs1 hh1 : Bool) (ss1 has1 hss1 hks1 dks1 sls1 : List Int) (ap1 ax1 ay1 ak1 ad1 az1 : Option Addr) (cp1 cx1 cy1 ck1 cd1 cz1 : Nat) (w : World) (lp1 : ss1.length ≤ 140737488351232) (lx1 : has1.length ≤ 140737488351232) (ly1 : hss1.length ≤ 140737488351232) (lk1 : hks1.length ≤ 140737488351232) (ld1 : dks1.length ≤ 140737488351232) (lz1 : sls1.length ≤ 140737488351232) :
    Calls Try.prog 19 #[.agg #[.int .i64 fu1, .int .i64 fd1, .int .i64 tu1, .int .i64 td1, .slice ap1 ss1.length cp1, .bool hs1, .slice ax1 has1.length cx1, .slice ay1 hss1.length cy1, .slice ak1 hks1.length ck1, .int .u32 sg1, .bool hh1, .int .u32 on1, .slice ad1 dks1.length cd1, .int .u32 dp1, .int .u32 dn1, .slice az1 sls1.length cz1]] w fun e w' => e = .returned (.bool (decide (ss1.length + has1.length + hss1.length + hks1.length + dks1.length + sls1.length ≤ 3000))) ∧ Only w w' [] := by
  go_enter Try.func19, Try.ntmps19
  go_wp2_with fail
  obtain ⟨W, X, hW, hX, hb, hoW, hX1, hX2⟩ := new_block w (.cells #[.int .i64 fu1, .int .i64 fd1, .int .i64 tu1, .int .i64 td1, .slice ap1 ss1.length cp1, .bool hs1, .slice ax1 has1.length cx1, .slice ay1 hss1.length cy1, .slice ak1 hks1.length ck1, .int .u32 sg1, .bool hh1, .int .u32 on1, .slice ad1 dks1.length cd1, .int .u32 dp1, .int .u32 dn1, .slice az1 sls1.length cz1] 43)
  rw [← hW, ← hX]
  clear hW hX
  have c4_ := cell_in hb 4
  have c6_ := cell_in hb 6
  have c7_ := cell_in hb 7
  have c8_ := cell_in hb 8
  have c12_ := cell_in hb 12
  have c15_ := cell_in hb 15
  have k0 := wrap_le (ss1.length) hks1.length (by omega) (by omega)
  have k1 := wrap_le (ss1.length + hks1.length) has1.length (by omega) (by omega)
  have k2 := wrap_le (ss1.length + hks1.length + has1.length) hss1.length (by omega) (by omega)
  have k3 := wrap_le (ss1.length + hks1.length + has1.length + hss1.length) dks1.length (by omega) (by omega)
  have k4 := wrap_le (ss1.length + hks1.length + has1.length + hss1.length + dks1.length) sls1.length (by omega) (by omega)
  go_wp2_with fail
  go_ret
  refine ⟨?_, hoW⟩
  show Ending.returned (.bool (decide ((ss1.length : Int) + (hks1.length : Int) + (has1.length : Int) + (hss1.length : Int) + (dks1.length : Int) + (sls1.length : Int) ≤ 3000))) = _
  congr 2
  simp only [decide_eq_decide]
  omega

set_option maxRecDepth 100000 in
set_option maxHeartbeats 800000 in
theorem equal_any (ao bo : Option Addr) (c d : Nat) (xs ys : List Int) (w : World) (hx : Rd w (.slice ao xs.length c) xs) (hy : Rd w (.slice bo ys.length d) ys) (bx : Byt xs) (by_ : Byt ys) :
    Calls Try.prog 48 #[.slice ao xs.length c, .slice bo ys.length d] w fun e w' => e = .returned (.bool (decide (xs = ys))) ∧ w' = w := by
  have s1 := run_str (P := Try.prog) (S := 22) (T := 9) Try.underlying22 Try.underlying5 Try.underlying9 hx rfl
  have s2 := run_str (P := Try.prog) (S := 22) (T := 9) Try.underlying22 Try.underlying5 Try.underlying9 hy rfl
  go_enter Try.func48, Try.ntmps48
  go_wp2_with fail
  go_ret
  refine ⟨?_, rfl⟩
  show Ending.returned (.bool ((strOfNums xs).toList == (strOfNums ys).toList)) = _
  rw [str_beq bx by_]

theorem info_env : (Try.prog.info? 43).map (·.size) = some 16 := by kernel_rfl

set_option maxRecDepth 100000 in
set_option maxHeartbeats 3200000 in
theorem same_any (fu1 fd1 tu1 td1 sg1 on1 dp1 dn1 : Int) (hs1 hh1 : Bool) (ss1 has1 hss1 hks1 dks1 sls1 : List Int) (ap1 ax1 ay1 ak1 ad1 az1 : Option Addr) (cp1 cx1 cy1 ck1 cd1 cz1 : Nat) (fu2 fd2 tu2 td2 sg2 on2 dp2 dn2 : Int) (hs2 hh2 : Bool) (ss2 has2 hss2 hks2 dks2 sls2 : List Int) (ap2 ax2 ay2 ak2 ad2 az2 : Option Addr) (cp2 cx2 cy2 ck2 cd2 cz2 : Nat) (w : World) (hp1 : Rd w (.slice ap1 ss1.length cp1) ss1) (hx1 : Rd w (.slice ax1 has1.length cx1) has1) (hy1 : Rd w (.slice ay1 hss1.length cy1) hss1) (hk1 : Rd w (.slice ak1 hks1.length ck1) hks1) (hd1 : Rd w (.slice ad1 dks1.length cd1) dks1) (hz1 : Rd w (.slice az1 sls1.length cz1) sls1) (hp2 : Rd w (.slice ap2 ss2.length cp2) ss2) (hx2 : Rd w (.slice ax2 has2.length cx2) has2) (hy2 : Rd w (.slice ay2 hss2.length cy2) hss2) (hk2 : Rd w (.slice ak2 hks2.length ck2) hks2) (hd2 : Rd w (.slice ad2 dks2.length cd2) dks2) (hz2 : Rd w (.slice az2 sls2.length cz2) sls2) (usg1 : U32 sg1) (uon1 : U32 on1) (udp1 : U32 dp1) (udn1 : U32 dn1) (usg2 : U32 sg2) (uon2 : U32 on2) (udp2 : U32 dp2) (udn2 : U32 dn2) (hl1 : ss1.length + has1.length + hss1.length + hks1.length + dks1.length + sls1.length ≤ 3000) (hl2 : ss2.length + has2.length + hss2.length + hks2.length + dks2.length + sls2.length ≤ 3000) (bx : Byt (envB fu1 fd1 tu1 td1 ss1 hs1 has1 hss1 hks1 sg1 hh1 on1 dks1 dp1 dn1 sls1)) (by_ : Byt (envB fu2 fd2 tu2 td2 ss2 hs2 has2 hss2 hks2 sg2 hh2 on2 dks2 dp2 dn2 sls2)) (b : Bool) (hb : decide ((envB fu1 fd1 tu1 td1 ss1 hs1 has1 hss1 hks1 sg1 hh1 on1 dks1 dp1 dn1 sls1) = (envB fu2 fd2 tu2 td2 ss2 hs2 has2 hss2 hks2 sg2 hh2 on2 dks2 dp2 dn2 sls2)) = b) :
    Calls Try.prog 20 #[.agg #[.int .i64 fu1, .int .i64 fd1, .int .i64 tu1, .int .i64 td1, .slice ap1 ss1.length cp1, .bool hs1, .slice ax1 has1.length cx1, .slice ay1 hss1.length cy1, .slice ak1 hks1.length ck1, .int .u32 sg1, .bool hh1, .int .u32 on1, .slice ad1 dks1.length cd1, .int .u32 dp1, .int .u32 dn1, .slice az1 sls1.length cz1], .agg #[.int .i64 fu2, .int .i64 fd2, .int .i64 tu2, .int .i64 td2, .slice ap2 ss2.length cp2, .bool hs2, .slice ax2 has2.length cx2, .slice ay2 hss2.length cy2, .slice ak2 hks2.length ck2, .int .u32 sg2, .bool hh2, .int .u32 on2, .slice ad2 dks2.length cd2, .int .u32 dp2, .int .u32 dn2, .slice az2 sls2.length cz2]] w fun e w' => e = .returned (.bool b) ∧ Only w w' [] := by
  go_enter Try.func20, Try.ntmps20
  go_wp2_with fail
  obtain ⟨W1, X, hW, hX, hbx0, hoW1, hX1, hX2⟩ := new_block w (.cells #[.int .i64 fu1, .int .i64 fd1, .int .i64 tu1, .int .i64 td1, .slice ap1 ss1.length cp1, .bool hs1, .slice ax1 has1.length cx1, .slice ay1 hss1.length cy1, .slice ak1 hks1.length ck1, .int .u32 sg1, .bool hh1, .int .u32 on1, .slice ad1 dks1.length cd1, .int .u32 dp1, .int .u32 dn1, .slice az1 sls1.length cz1] 43)
  have hs1 : W1.heap.size = X + 1 := by rw [hW, hX]; simp
  rw [← hW, ← hX]
  clear hW hX
  obtain ⟨W, Y, hW, hY, hby, hoW2, hY1, hY2⟩ := new_block W1 (.cells #[.int .i64 fu2, .int .i64 fd2, .int .i64 tu2, .int .i64 td2, .slice ap2 ss2.length cp2, .bool hs2, .slice ax2 has2.length cx2, .slice ay2 hss2.length cy2, .slice ak2 hks2.length ck2, .int .u32 sg2, .bool hh2, .int .u32 on2, .slice ad2 dks2.length cd2, .int .u32 dp2, .int .u32 dn2, .slice az2 sls2.length cz2] 43)
  rw [← hW, ← hs1, ← hY]
  clear hW hY hs1
  have hbx := hoW2.at hbx0 (by simp)
  have hoW := hoW1.trans hoW2
  have Sx : ∀ w', Only W w' [] → w'.cell? ⟨X, 0, none⟩ = some (.int .i64 fu1) ∧ w'.cell? ⟨X, 1, none⟩ = some (.int .i64 fd1) ∧ w'.cell? ⟨X, 2, none⟩ = some (.int .i64 tu1) ∧ w'.cell? ⟨X, 3, none⟩ = some (.int .i64 td1) ∧ w'.cell? ⟨X, 4, none⟩ = some (.slice ap1 ss1.length cp1) ∧ w'.cell? ⟨X, 5, none⟩ = some (.bool hs1) ∧ w'.cell? ⟨X, 6, none⟩ = some (.slice ax1 has1.length cx1) ∧ w'.cell? ⟨X, 7, none⟩ = some (.slice ay1 hss1.length cy1) ∧ w'.cell? ⟨X, 8, none⟩ = some (.slice ak1 hks1.length ck1) ∧ w'.cell? ⟨X, 9, none⟩ = some (.int .u32 sg1) ∧ w'.cell? ⟨X, 10, none⟩ = some (.bool hh1) ∧ w'.cell? ⟨X, 11, none⟩ = some (.int .u32 on1) ∧ w'.cell? ⟨X, 12, none⟩ = some (.slice ad1 dks1.length cd1) ∧ w'.cell? ⟨X, 13, none⟩ = some (.int .u32 dp1) ∧ w'.cell? ⟨X, 14, none⟩ = some (.int .u32 dn1) ∧ w'.cell? ⟨X, 15, none⟩ = some (.slice az1 sls1.length cz1) := fun w' ho => ⟨ho.cell_in hbx (by simp) 0, ho.cell_in hbx (by simp) 1, ho.cell_in hbx (by simp) 2, ho.cell_in hbx (by simp) 3, ho.cell_in hbx (by simp) 4, ho.cell_in hbx (by simp) 5, ho.cell_in hbx (by simp) 6, ho.cell_in hbx (by simp) 7, ho.cell_in hbx (by simp) 8, ho.cell_in hbx (by simp) 9, ho.cell_in hbx (by simp) 10, ho.cell_in hbx (by simp) 11, ho.cell_in hbx (by simp) 12, ho.cell_in hbx (by simp) 13, ho.cell_in hbx (by simp) 14, ho.cell_in hbx (by simp) 15⟩
  have Sy : ∀ w', Only W w' [] → w'.cell? ⟨Y, 0, none⟩ = some (.int .i64 fu2) ∧ w'.cell? ⟨Y, 1, none⟩ = some (.int .i64 fd2) ∧ w'.cell? ⟨Y, 2, none⟩ = some (.int .i64 tu2) ∧ w'.cell? ⟨Y, 3, none⟩ = some (.int .i64 td2) ∧ w'.cell? ⟨Y, 4, none⟩ = some (.slice ap2 ss2.length cp2) ∧ w'.cell? ⟨Y, 5, none⟩ = some (.bool hs2) ∧ w'.cell? ⟨Y, 6, none⟩ = some (.slice ax2 has2.length cx2) ∧ w'.cell? ⟨Y, 7, none⟩ = some (.slice ay2 hss2.length cy2) ∧ w'.cell? ⟨Y, 8, none⟩ = some (.slice ak2 hks2.length ck2) ∧ w'.cell? ⟨Y, 9, none⟩ = some (.int .u32 sg2) ∧ w'.cell? ⟨Y, 10, none⟩ = some (.bool hh2) ∧ w'.cell? ⟨Y, 11, none⟩ = some (.int .u32 on2) ∧ w'.cell? ⟨Y, 12, none⟩ = some (.slice ad2 dks2.length cd2) ∧ w'.cell? ⟨Y, 13, none⟩ = some (.int .u32 dp2) ∧ w'.cell? ⟨Y, 14, none⟩ = some (.int .u32 dn2) ∧ w'.cell? ⟨Y, 15, none⟩ = some (.slice az2 sls2.length cz2) := fun w' ho => ⟨ho.cell_in hby (by simp) 0, ho.cell_in hby (by simp) 1, ho.cell_in hby (by simp) 2, ho.cell_in hby (by simp) 3, ho.cell_in hby (by simp) 4, ho.cell_in hby (by simp) 5, ho.cell_in hby (by simp) 6, ho.cell_in hby (by simp) 7, ho.cell_in hby (by simp) 8, ho.cell_in hby (by simp) 9, ho.cell_in hby (by simp) 10, ho.cell_in hby (by simp) 11, ho.cell_in hby (by simp) 12, ho.cell_in hby (by simp) 13, ho.cell_in hby (by simp) 14, ho.cell_in hby (by simp) 15⟩
  have hod := Only.drew W []
  refine wp_region_held_drew (S := fun w' => Only W.drew w' []) (by kernel_rfl) (Only.refl _ _) (fun hHeld => ?_)
  refine wpAnyH_take (i := 0) (op_at rfl) (by kernel_rfl) (by kernel_rfl) (by kernel_rfl) (fun _ _ _ h => h) (yieldsIf_load_mid (by rfl) _ _ rfl X 0 rfl [.int .i64 fu1, .int .i64 fd1, .int .i64 tu1, .int .i64 td1, .slice ap1 ss1.length cp1, .bool hs1, .slice ax1 has1.length cx1, .slice ay1 hss1.length cy1, .slice ak1 hks1.length ck1, .int .u32 sg1, .bool hh1, .int .u32 on1, .slice ad1 dks1.length cd1, .int .u32 dp1, .int .u32 dn1, .slice az1 sls1.length cz1] _ (fun w' hS => range_of ((hod.trans hS).at hbx (by simp))) Try.underlying43 (by rfl) info_env) (by assumption) ?_
  try simp only [Act.put, List.setIfInBounds_toArray, List.set_cons_zero, List.set_cons_succ]
  refine wpAnyH_take (i := 2) (op_at rfl) (by kernel_rfl) (by kernel_rfl) (by kernel_rfl) (fun _ _ _ h => h) (yieldsIf_load_mid (by rfl) _ _ rfl Y 0 rfl [.int .i64 fu2, .int .i64 fd2, .int .i64 tu2, .int .i64 td2, .slice ap2 ss2.length cp2, .bool hs2, .slice ax2 has2.length cx2, .slice ay2 hss2.length cy2, .slice ak2 hks2.length ck2, .int .u32 sg2, .bool hh2, .int .u32 on2, .slice ad2 dks2.length cd2, .int .u32 dp2, .int .u32 dn2, .slice az2 sls2.length cz2] _ (fun w' hS => range_of ((hod.trans hS).at hby (by simp))) Try.underlying43 (by rfl) info_env) (by assumption) ?_
  try simp only [Act.put, List.setIfInBounds_toArray, List.set_cons_zero, List.set_cons_succ]
  refine wpAnyH_ready (rs := [1]) (by kernel_rfl) (by simp) (AllReadyH.cons (op_at rfl) (fun K hK => ?_) AllReadyH.nil)
  go_simp
  refine (encode_any fu1 fd1 tu1 td1 sg1 on1 dp1 dn1 hs1 hh1 (.slice ap1 ss1.length cp1) (.slice ax1 has1.length cx1) (.slice ay1 hss1.length cy1) (.slice ak1 hks1.length ck1) (.slice ad1 dks1.length cd1) (.slice az1 sls1.length cz1) ss1 has1 hss1 hks1 dks1 sls1 _ (hp1.new (hoW.trans hod)) (hx1.new (hoW.trans hod)) (hy1.new (hoW.trans hod)) (hk1.new (hoW.trans hod)) (hd1.new (hoW.trans hod)) (hz1.new (hoW.trans hod)) usg1 uon1 udp1 udn1 (by omega)).mono fun e w1 hq => ?_
  obtain ⟨zs, a6, k6, Hzs, rfl, q1, q2, q3⟩ := hq.name
  clear hq
  go_wp2_with fail
  refine hK.out _ _ q3 (fun hHeld1 => ?_)
  clear hK K
  try simp only [Act.put, List.setIfInBounds_toArray, List.set_cons_zero, List.set_cons_succ]
  refine wpAnyH_more (S' := fun w' => Only w1 w' []) (fun w' h => Only.trans q3 h) _ _ _ _ ?_
  clear hHeld hHeld1
  have hHeld : Only w1 w1 [] := Only.refl _ _
  have q4 := hod.trans q3
  refine wpAnyH_ready (rs := [3]) (by kernel_rfl) (by simp) (AllReadyH.cons (op_at rfl) (fun K hK => ?_) AllReadyH.nil)
  go_simp
  refine (encode_any fu2 fd2 tu2 td2 sg2 on2 dp2 dn2 hs2 hh2 (.slice ap2 ss2.length cp2) (.slice ax2 has2.length cx2) (.slice ay2 hss2.length cy2) (.slice ak2 hks2.length ck2) (.slice ad2 dks2.length cd2) (.slice az2 sls2.length cz2) ss2 has2 hss2 hks2 dks2 sls2 _ (hp2.new (hoW.trans q4)) (hx2.new (hoW.trans q4)) (hy2.new (hoW.trans q4)) (hk2.new (hoW.trans q4)) (hd2.new (hoW.trans q4)) (hz2.new (hoW.trans q4)) usg2 uon2 udp2 udn2 (by omega)).mono fun e w2 hq2 => ?_
  obtain ⟨us, a7, k7, Hus, rfl, r1, r2, r3⟩ := hq2.name
  clear hq2
  go_wp2_with fail
  refine hK.out _ _ r3 (fun hHeld1 => ?_)
  clear hK K
  try simp only [Act.put, List.setIfInBounds_toArray, List.set_cons_zero, List.set_cons_succ]
  refine wpAnyH_more (S' := fun w' => Only w2 w' []) (fun w' h => Only.trans r3 h) _ _ _ _ ?_
  clear hHeld hHeld1
  have hHeld : Only w2 w2 [] := Only.refl _ _
  have r4 := q4.trans r3
  refine wpAnyH_ready (rs := [4]) (by kernel_rfl) (by simp) (AllReadyH.cons (op_at rfl) (fun K hK => ?_) AllReadyH.nil)
  go_simp
  refine (equal_any _ _ _ _ zs us _ ((own_rd q1).new r3) (own_rd r1) (by rw [Hzs.out]; exact bx) (by rw [Hus.out]; exact by_)).mono ?_
  rintro e w3 ⟨rfl, rfl⟩
  go_wp2_with fail
  refine hK.out _ _ (Only.refl _ _) (fun hHeld1 => ?_)
  clear hK K
  try simp only [Act.put, List.setIfInBounds_toArray, List.set_cons_zero, List.set_cons_succ]
  refine wpAnyH_more (S' := fun w' => Only w3 w' []) (fun w' h => Only.trans (Only.refl _ _) h) _ _ _ _ ?_
  clear hHeld hHeld1
  have hHeld : Only w3 w3 [] := Only.refl _ _
  refine' wpAnyH_take (i := 5) (v := _) (op_at rfl) (by kernel_rfl) (by kernel_rfl) (by kernel_rfl) (fun _ _ _ h => h) (Or.inl ⟨by rfl, ?hy1⟩) (by assumption) ?rest1
  case hy1 =>
    intro w' hS
    go_simp
    try with_reducible rfl
  try simp only [Act.put, List.setIfInBounds_toArray, List.set_cons_zero, List.set_cons_succ]
  refine wpAnyH_done (by kernel_rfl) ?_ _
  go_wp2_with fail
  go_ret
  exact ⟨by rw [← hb, ← Hzs.out, ← Hus.out]; rfl, hoW.trans r4⟩

end Go.Proofs.Ytemlpjfngaemdaa
