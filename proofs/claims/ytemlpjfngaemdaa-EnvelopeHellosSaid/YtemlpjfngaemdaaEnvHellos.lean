/- EnvelopeHellos returns true for every Hello: its bytes are the document's and are read back; with a byte more they are none. No condition. -/
import Derived.Test.YtemlpjfngaemdaaEnvH
import Derived.Test.YtemlpjfngaemdaaBy
import Derived.Test.YtemlpjfngaemdaaApp
import Derived.Test.YtemlpjfngaemdaaEnvS
import Derived.Test.YtemlpjfngaemdaaOpenE
import Derived.Test.YtemlpjfngaemdaaSEnvelopeHellos
namespace Go.Proofs.Ytemlpjfngaemdaa
open Go.RowKit Go.Pw
set_option linter.unusedVariables false

theorem info_hello : (Try.prog.info? 39).map (·.size) = some 6 := by kernel_rfl

set_option maxRecDepth 100000 in
set_option maxHeartbeats 12800000 in
theorem hellos_y (sg on : Int) (ags sgs ks : List Int) (aa az ak : Option Addr) (ca cz ck : Nat) (w : World) (hga : Rd w (.slice aa ags.length ca) ags) (hgs : Rd w (.slice az sgs.length cz) sgs) (hgk : Rd w (.slice ak ks.length ck) ks) (ba : Byt ags) (bs : Byt sgs) (bk : Byt ks) (usg : U32 sg) (uon : U32 on) (la : ags.length ≤ 140737488351232) (ls : sgs.length ≤ 140737488351232) (lk : ks.length ≤ 140737488351232) :
    Calls Try.prog 9 #[.agg #[.slice aa ags.length ca, .slice az sgs.length cz, .slice ak ks.length ck, .int .u32 sg, .bool true, .int .u32 on]] w fun e w' => e = .returned (.bool true) ∧ Below w.heap.size w w' := by
  obtain ⟨i0, hi, hz0, hz1, hz2⟩ := info_parts Try.info5
  have k0 := wrap_le ks.length ags.length (by omega) (by omega)
  have k1 := wrap_le (ks.length + ags.length) sgs.length (by omega) (by omega)
  by_cases hl : 2000 < ks.length + ags.length + sgs.length
  · have d0 : decide ((2000 : Int) < ((ks.length + ags.length + sgs.length : Nat) : Int)) = true := by simp; omega
    have d0' : decide ((2000 : Int) < (ks.length : Int) + (ags.length : Int) + (sgs.length : Int)) = true := by simp; omega
    go_enter Try.func9, Try.ntmps9
    go_wp2_with fail
    obtain ⟨W, X, hW, hX, hbX, hoW, hX1, hX2⟩ := new_block w (.cells #[.slice aa ags.length ca, .slice az sgs.length cz, .slice ak ks.length ck, .int .u32 sg, .bool true, .int .u32 on] 39)
    rw [← hW, ← hX]
    clear hW hX
    refine (awake14 _).mono ?_
    rintro e w1 ⟨rfl, h1⟩
    have hX1' := h1.at hbX (by simp)
    have c0 := cell_in hX1' 0
    have c1 := cell_in hX1' 1
    have c2 := cell_in hX1' 2
    go_wp2_with fail
    refine (awake14 _).mono ?_
    rintro e w2 ⟨rfl, h2⟩
    go_wp2_with fail
    go_ret
    exact ⟨rfl, ((hoW.trans h1).trans h2).below (Nat.le_refl _) (by simp)⟩
  · have d0 : decide ((2000 : Int) < ((ks.length + ags.length + sgs.length : Nat) : Int)) = false := by simp; omega
    have d0' : decide ((2000 : Int) < (ks.length : Int) + (ags.length : Int) + (sgs.length : Int)) = false := by simp; omega
    go_enter Try.func9, Try.ntmps9
    go_wp2_with fail
    obtain ⟨W, X, hW, hX, hbX, hoW, hX1, hX2⟩ := new_block w (.cells #[.slice aa ags.length ca, .slice az sgs.length cz, .slice ak ks.length ck, .int .u32 sg, .bool true, .int .u32 on] 39)
    rw [← hW, ← hX]
    clear hW hX
    refine (awake14 _).mono ?_
    rintro e w1 ⟨rfl, h1⟩
    have hX1' := h1.at hbX (by simp)
    have c0 := cell_in hX1' 0
    have c1 := cell_in hX1' 1
    have c2 := cell_in hX1' 2
    have c3 := cell_in hX1' 3
    have c4 := cell_in hX1' 4
    have c5 := cell_in hX1' 5
    go_wp2_with fail
    have o1 := hoW.trans h1
    refine (enchello_any _ _ _ ags sgs ks sg on true _ (hga.new o1) (hgs.new o1) (hgk.new o1) usg uon (by omega)).mono fun e w2 hq => ?_
    obtain ⟨ys, a1, q1, Hys, rfl, g1, g2, g3⟩ := hq.name
    clear hq c0 c1 c2 c3 c4 c5 k0 k1 d0 d0' hbX
    have hyb : Byt ys := by rw [Hys.out]; exact byt_hello _ _ _ ba bs bk
    have hyl : ys.length ≤ 2100 := by rw [Hys.out]; have := helloB_len ags sgs ks sg true on; omega
    have hpy : pH (ys, false) = (⟨ags, sgs, ks, sg, true, on⟩, [], false) := by
      have := pH_be ags sgs ks [] sg true on (by omega) (by omega) (by omega) usg uon
      rw [List.append_nil, ← Hys.out] at this
      exact this
    have hpz : pH (ys ++ [0], false) = (⟨ags, sgs, ks, sg, true, on⟩, [0], false) := by
      have := pH_be ags sgs ks [0] sg true on (by omega) (by omega) (by omega) usg uon
      rw [← Hys.out] at this
      exact this
    have Hpz := Lib.hid hpz
    clear hpz
    go_wp2_with fail
    refine (dechello_any _ ys w2 (own_rd g1) hyb (by omega)).mono ?_
    rintro e w3 ⟨a, s, hd, ho3, hcase⟩
    rw [hpy] at hd
    simp only [Prod.mk.injEq] at hd
    obtain ⟨rfl, rfl⟩ := hd
    clear hpy
    rcases hcase with ⟨_, va, vs, vk, rfl, hg⟩ | ⟨h0, _⟩
    case inr => simp [Ends] at h0
    obtain ⟨⟨aa', ca', rfl⟩, _⟩ := id hg.ga
    obtain ⟨⟨az', cz', rfl⟩, _⟩ := id hg.gs
    obtain ⟨⟨ak', ck', rfl⟩, _⟩ := id hg.gk
    simp only at hg ⊢
    have hb3 := heap_alloc_new w3 (.cells #[.slice aa' ags.length ca', .slice az' sgs.length cz', .slice ak' ks.length ck', .int .u32 sg, .bool true, .int .u32 on] 39)
    have oA := Only.alloc w3 (.cells #[.slice aa' ags.length ca', .slice az' sgs.length cz', .slice ak' ks.length ck', .int .u32 sg, .bool true, .int .u32 on] 39) []
    have oB := Only.alloc (w3.alloc (.cells #[.slice aa' ags.length ca', .slice az' sgs.length cz', .slice ak' ks.length ck', .int .u32 sg, .bool true, .int .u32 on] 39)) (.cells #[.int .u8 0] 5) []
    have hb4 := heap_alloc_new (w3.alloc (.cells #[.slice aa' ags.length ca', .slice az' sgs.length cz', .slice ak' ks.length ck', .int .u32 sg, .bool true, .int .u32 on] 39)) (.cells #[.int .u8 0] 5)
    have hsz : (w3.alloc (.cells #[.slice aa' ags.length ca', .slice az' sgs.length cz', .slice ak' ks.length ck', .int .u32 sg, .bool true, .int .u32 on] 39)).heap.size = w3.heap.size + 1 := by simp
    rw [hsz] at hb4
    have Ho4 := Lib.hid (oA.trans oB)
    have Hr4 := Lib.hid (own_new (own_new g1 ho3 (by simp)) (oA.trans oB) (by simp))
    have Hs4 := Lib.hid (src_block (n := 1) hb4 rfl ⟨rfl, by decide⟩)
    have Hb3 := Lib.hid (oB.at hb3 (by simp))
    clear hb3 hb4 oA oB hsz
    go_wp2_with (at_builtin; refine wpList_append_keep rfl _ _ 22 rfl 5 i0 (.int .u8 0) 1 1 Try.underlying22 hi hz0 hz1 hz2 rfl (by decide) (.slice a1 ys.length q1) ys.length (ys.map (.int .u8)) rfl Hr4.out _ 1 [.int .u8 0] rfl Hs4.out (by simp [Value.oneCell']) (by decide) (by unfold maxLen; omega) (by omega) ?_; intro v5 w5 r1 r2 r3 r4; obtain ⟨a5, k5, rfl⟩ := own_slice r1)
    have hzl : (ys ++ [0]).length = ys.length + 1 := by simp
    have hr5 : Rd w5 (.slice a5 (ys.length + 1) k5) (ys ++ [0]) := by have := own_src r1; simpa [Rd] using this
    have hzb : Byt (ys ++ [0]) := hyb.app (by intro x hx; simp at hx; subst hx; decide)
    have hbk : ∀ k ∈ (Value.slice a1 ys.length q1).ownBlock.toList, w1.heap.size ≤ k ∧ k < w2.heap.size := fun k hk => by
      have hk' : (Value.slice a1 ys.length q1).ownBlock = some k := by simpa using hk
      refine ⟨?_, (g1.lt k hk').2⟩
      rcases g2 k hk' with h | h
      · simp [Value.ownBlock] at h
      · exact h
    have o35 : Only w3 w5 (Value.slice a1 ys.length q1).ownBlock.toList := (Ho4.out.mono (by simp)).trans (Only.grown r2 (fun k hk => by simp [hk]))
    have hXw1 := (Array.getElem?_eq_some_iff.1 hX1').1
    have hbX5 := o35.at ((g3.trans ho3).at hX1' (by simp)) (fun hm => by have := (hbk X hm).1; omega)
    have hw23 := ho3.size
    have hw12 := g3.size
    have hbY5 : w5.heap[w3.heap.size]? = some (.cells #[.slice aa' ags.length ca', .slice az' sgs.length cz', .slice ak' ks.length ck', .int .u32 sg, .bool true, .int .u32 on] 39 (0, 0)) := (Only.grown r2 (L := (Value.slice a1 ys.length q1).ownBlock.toList) (fun k hk => by simp [hk])).at Hb3.out (fun hm => by have := (hbk _ hm).2; omega)
    have hg5 := hg.next o35 (fun k hk => (hbk k hk).2)
    have o15 : Only w w5 [] := (o1.trans (g3.trans ho3)).new o35 (fun k hk => by have := (hbk k hk).1; have := o1.size; omega)
    have hYX : w3.heap.size ≠ X := by have := g3.size; omega
    clear hg r1 r2 r3 Ho4 Hr4 Hs4 Hb3 hX1' g1 g2 hyb o35
    refine (dechello_any _ (ys ++ [0]) w5 hr5 hzb (by omega)).mono ?_
    rintro e w6 ⟨a, s, hd, ho6, hcase⟩
    rw [Hpz.out] at hd
    simp only [Prod.mk.injEq] at hd
    obtain ⟨rfl, rfl⟩ := hd
    rcases hcase with ⟨h0, _⟩ | ⟨_, rfl⟩
    case inl => simp [Ends] at h0
    generalize w3.heap.size = Y at *
    have hbX6 := ho6.at hbX5 (by simp)
    have oZ := Only.alloc w6 (.cells #[.slice none 0 0, .slice none 0 0, .slice none 0 0, .int .u32 0, .bool false, .int .u32 0] 39) []
    have oV := o15.trans (ho6.trans oZ)
    have hbXz := oZ.at hbX6 (by simp)
    have hbYz := (ho6.trans oZ).at hbY5 (by simp)
    have ry := r4.off (ho6.trans oZ) (fun _ _ _ => by simp)
    have hgz := hg5.next (ho6.trans oZ) (by simp)
    clear hbX5 hbX6 hbY5 r4 hg5 hr5 hzb Hpz hzl hbk
    have HbXz := Lib.hid hbXz
    have e4 := cell_in hbXz 4
    go_wp2_with fail
    have hbXV := hbXz
    have hbYV := hbYz
    have oVV := oV
    have kys := ry
    have hgV := hgz
    have kga : Rd _ _ ags := hga.new oVV
    have kgs : Rd _ _ sgs := hgs.new oVV
    have kgk : Rd _ _ ks := hgk.new oVV
    generalize w6.alloc (.cells #[.slice none 0 0, .slice none 0 0, .slice none 0 0, .int .u32 0, .bool false, .int .u32 0] 39) = V at *
    clear e4 HbXz hbXz hbYz ry hgz oV oZ
    have hod := Only.drew V []
    refine wp_region_held_drew (S := fun w' => Only V.drew w' []) (by kernel_rfl) (Only.refl _ _) (fun hHeld => ?_)
    refine' wpAnyH_take (i := 0) (v := _) (op_at rfl) (by kernel_rfl) (by kernel_rfl) (by kernel_rfl) (fun _ _ _ h => h) (Or.inl ⟨by rfl, ?hy1⟩) (by assumption) ?rest1
    case hy1 =>
      intro w' hS
      go_simp
      try with_reducible rfl
    try simp only [Act.put, List.setIfInBounds_toArray, List.set_cons_zero, List.set_cons_succ]
    refine' wpAnyH_take (i := 1) (v := _) (op_at rfl) (by kernel_rfl) (by kernel_rfl) (by kernel_rfl) (fun _ _ _ h => h) (Or.inl ⟨by rfl, ?hy2⟩) (by assumption) ?rest2
    case hy2 =>
      intro w' hS
      have hs := run_str (P := Try.prog) (w := w') (S := 22) (T := 9) Try.underlying22 Try.underlying5 Try.underlying9 (Rd.new kys (hod.trans hS)) rfl
      go_simp
      try with_reducible rfl
    try simp only [Act.put, List.setIfInBounds_toArray, List.set_cons_zero, List.set_cons_succ]
    refine wpAnyH_take (i := 2) (op_at rfl) (by kernel_rfl) (by kernel_rfl) (by kernel_rfl) (fun _ _ _ h => h) (yieldsIf_load_mid (by rfl) _ _ rfl X 0 rfl [.slice aa ags.length ca, .slice az sgs.length cz, .slice ak ks.length ck, .int .u32 sg, .bool true, .int .u32 on] _ (fun w' hS => range_of ((hod.trans hS).at hbXV (by simp))) Try.underlying39 (by rfl) info_hello) (by assumption) ?_
    try simp only [Act.put, List.setIfInBounds_toArray, List.set_cons_zero, List.set_cons_succ]
    refine wpAnyH_ready (rs := [3]) (by kernel_rfl) (by simp) (AllReadyH.cons (op_at rfl) (fun K hK => ?_) AllReadyH.nil)
    go_simp
    refine (rfhello_any (.slice none 0 0) _ _ _ [] ags sgs ks sg on true _ (Rd.nil _) (kga.new hod) (kgs.new hod) (kgk.new hod) usg uon (by simp; omega)).mono fun e w7 hq => ?_
    obtain ⟨zs, a6, k6, Hzs, rfl, p1, p2, p3⟩ := hq.name
    clear hq
    go_wp2_with fail
    refine hK.out _ _ p3 (fun hHeld1 => ?_)
    clear hK K
    try simp only [Act.put, List.setIfInBounds_toArray, List.set_cons_zero, List.set_cons_succ]
    refine wpAnyH_more (S' := fun w' => Only w7 w' []) (fun w' h => Only.trans p3 h) _ _ _ _ ?_
    clear hHeld hHeld1
    have hHeld : Only w7 w7 [] := Only.refl _ _
    have p4 := hod.trans p3
    have hzy : zs = ys := by rw [Hzs.out, Hys.out]; rfl
    subst hzy
    refine' wpAnyH_take (i := 4) (v := _) (op_at rfl) (by kernel_rfl) (by kernel_rfl) (by kernel_rfl) (fun _ _ _ h => h) (Or.inl ⟨by rfl, ?hy3⟩) (by assumption) ?rest3
    case hy3 =>
      intro w' hS
      have hs := run_str (P := Try.prog) (w := w') (S := 22) (T := 9) Try.underlying22 Try.underlying5 Try.underlying9 ((own_rd p1).new hS) rfl
      go_simp
      try with_reducible rfl
    try simp only [Act.put, List.setIfInBounds_toArray, List.set_cons_zero, List.set_cons_succ]
    refine' wpAnyH_take (i := 5) (v := _) (op_at rfl) (by kernel_rfl) (by kernel_rfl) (by kernel_rfl) (fun _ _ _ h => h) (Or.inl ⟨by rfl, ?hy4⟩) (by assumption) ?rest4
    case hy4 =>
      intro w' hS
      go_simp
      try with_reducible rfl
    try simp only [Act.put, List.setIfInBounds_toArray, List.set_cons_zero, List.set_cons_succ]
    refine' wpAnyH_take (i := 6) (v := _) (op_at rfl) (by kernel_rfl) (by kernel_rfl) (by kernel_rfl) (fun _ _ _ h => h) (Or.inl ⟨by rfl, ?hy5⟩) (by assumption) ?rest5
    case hy5 =>
      intro w' hS
      go_simp
      try with_reducible rfl
    try simp only [Act.put, List.setIfInBounds_toArray, List.set_cons_zero, List.set_cons_succ]
    refine' wpAnyH_take (i := 7) (v := _) (op_at rfl) (by kernel_rfl) (by kernel_rfl) (by kernel_rfl) (fun _ _ _ h => h) (Or.inl ⟨by rfl, ?hy6⟩) (by assumption) ?rest6
    case hy6 =>
      intro w' hS
      go_simp
      try with_reducible rfl
    try simp only [Act.put, List.setIfInBounds_toArray, List.set_cons_zero, List.set_cons_succ]
    refine' wpAnyH_take (i := 8) (v := _) (op_at rfl) (by kernel_rfl) (by kernel_rfl) (by kernel_rfl) (fun _ _ _ h => h) (Or.inl ⟨by rfl, ?hy7⟩) (by assumption) ?rest7
    case hy7 =>
      intro w' hS
      go_simp
      try with_reducible rfl
    try simp only [Act.put, List.setIfInBounds_toArray, List.set_cons_zero, List.set_cons_succ]
    refine' wpAnyH_take (i := 9) (v := _) (op_at rfl) (by kernel_rfl) (by kernel_rfl) (by kernel_rfl) (fun _ _ _ h => h) (Or.inl ⟨by rfl, ?hy8⟩) (by assumption) ?rest8
    case hy8 =>
      intro w' hS
      go_simp
      try with_reducible rfl
    try simp only [Act.put, List.setIfInBounds_toArray, List.set_cons_zero, List.set_cons_succ]
    refine' wpAnyH_take (i := 10) (v := _) (op_at rfl) (by kernel_rfl) (by kernel_rfl) (by kernel_rfl) (fun _ _ _ h => h) (Or.inl ⟨by rfl, ?hy9⟩) (by assumption) ?rest9
    case hy9 =>
      intro w' hS
      go_simp
      try with_reducible rfl
    try simp only [Act.put, List.setIfInBounds_toArray, List.set_cons_zero, List.set_cons_succ]
    refine' wpAnyH_take (i := 11) (v := _) (op_at rfl) (by kernel_rfl) (by kernel_rfl) (by kernel_rfl) (fun _ _ _ h => h) (Or.inl ⟨by rfl, ?hy10⟩) (by assumption) ?rest10
    case hy10 =>
      intro w' hS
      go_simp
      try with_reducible rfl
    try simp only [Act.put, List.setIfInBounds_toArray, List.set_cons_zero, List.set_cons_succ]
    refine' wpAnyH_take (i := 12) (v := _) (op_at rfl) (by kernel_rfl) (by kernel_rfl) (by kernel_rfl) (fun _ _ _ h => h) (Or.inl ⟨by rfl, ?hy11⟩) (by assumption) ?rest11
    case hy11 =>
      intro w' hS
      have q := cell_in ((p4.trans hS).at hbYV (by simp)) 3
      go_simp
      try with_reducible rfl
    try simp only [Act.put, List.setIfInBounds_toArray, List.set_cons_zero, List.set_cons_succ]
    refine' wpAnyH_take (i := 13) (v := _) (op_at rfl) (by kernel_rfl) (by kernel_rfl) (by kernel_rfl) (fun _ _ _ h => h) (Or.inl ⟨by rfl, ?hy12⟩) (by assumption) ?rest12
    case hy12 =>
      intro w' hS
      go_simp
      try with_reducible rfl
    try simp only [Act.put, List.setIfInBounds_toArray, List.set_cons_zero, List.set_cons_succ]
    refine' wpAnyH_take (i := 14) (v := _) (op_at rfl) (by kernel_rfl) (by kernel_rfl) (by kernel_rfl) (fun _ _ _ h => h) (Or.inl ⟨by rfl, ?hy13⟩) (by assumption) ?rest13
    case hy13 =>
      intro w' hS
      have q := cell_in ((p4.trans hS).at hbXV (by simp)) 3
      go_simp
      try with_reducible rfl
    try simp only [Act.put, List.setIfInBounds_toArray, List.set_cons_zero, List.set_cons_succ]
    refine' wpAnyH_take (i := 15) (v := _) (op_at rfl) (by kernel_rfl) (by kernel_rfl) (by kernel_rfl) (fun _ _ _ h => h) (Or.inl ⟨by rfl, ?hy14⟩) (by assumption) ?rest14
    case hy14 =>
      intro w' hS
      go_simp
      try with_reducible rfl
    try simp only [Act.put, List.setIfInBounds_toArray, List.set_cons_zero, List.set_cons_succ]
    refine' wpAnyH_take (i := 16) (v := _) (op_at rfl) (by kernel_rfl) (by kernel_rfl) (by kernel_rfl) (fun _ _ _ h => h) (Or.inl ⟨by rfl, ?hy15⟩) (by assumption) ?rest15
    case hy15 =>
      intro w' hS
      go_simp
      try with_reducible rfl
    try simp only [Act.put, List.setIfInBounds_toArray, List.set_cons_zero, List.set_cons_succ]
    refine' wpAnyH_take (i := 17) (v := _) (op_at rfl) (by kernel_rfl) (by kernel_rfl) (by kernel_rfl) (fun _ _ _ h => h) (Or.inl ⟨by rfl, ?hy16⟩) (by assumption) ?rest16
    case hy16 =>
      intro w' hS
      go_simp
      try with_reducible rfl
    try simp only [Act.put, List.setIfInBounds_toArray, List.set_cons_zero, List.set_cons_succ]
    refine' wpAnyH_take (i := 18) (v := _) (op_at rfl) (by kernel_rfl) (by kernel_rfl) (by kernel_rfl) (fun _ _ _ h => h) (Or.inl ⟨by rfl, ?hy17⟩) (by assumption) ?rest17
    case hy17 =>
      intro w' hS
      go_simp
      try with_reducible rfl
    try simp only [Act.put, List.setIfInBounds_toArray, List.set_cons_zero, List.set_cons_succ]
    refine' wpAnyH_take (i := 19) (v := _) (op_at rfl) (by kernel_rfl) (by kernel_rfl) (by kernel_rfl) (fun _ _ _ h => h) (Or.inl ⟨by rfl, ?hy18⟩) (by assumption) ?rest18
    case hy18 =>
      intro w' hS
      have q := cell_in ((p4.trans hS).at hbYV (by simp)) 4
      go_simp
      try with_reducible rfl
    try simp only [Act.put, List.setIfInBounds_toArray, List.set_cons_zero, List.set_cons_succ]
    refine' wpAnyH_take (i := 20) (v := _) (op_at rfl) (by kernel_rfl) (by kernel_rfl) (by kernel_rfl) (fun _ _ _ h => h) (Or.inl ⟨by rfl, ?hy19⟩) (by assumption) ?rest19
    case hy19 =>
      intro w' hS
      go_simp
      try with_reducible rfl
    try simp only [Act.put, List.setIfInBounds_toArray, List.set_cons_zero, List.set_cons_succ]
    refine' wpAnyH_take (i := 21) (v := _) (op_at rfl) (by kernel_rfl) (by kernel_rfl) (by kernel_rfl) (fun _ _ _ h => h) (Or.inl ⟨by rfl, ?hy20⟩) (by assumption) ?rest20
    case hy20 =>
      intro w' hS
      have q := cell_in ((p4.trans hS).at hbXV (by simp)) 4
      go_simp
      try with_reducible rfl
    try simp only [Act.put, List.setIfInBounds_toArray, List.set_cons_zero, List.set_cons_succ]
    refine' wpAnyH_take (i := 22) (v := _) (op_at rfl) (by kernel_rfl) (by kernel_rfl) (by kernel_rfl) (fun _ _ _ h => h) (Or.inl ⟨by rfl, ?hy21⟩) (by assumption) ?rest21
    case hy21 =>
      intro w' hS
      go_simp
      try with_reducible rfl
    try simp only [Act.put, List.setIfInBounds_toArray, List.set_cons_zero, List.set_cons_succ]
    refine' wpAnyH_take (i := 23) (v := _) (op_at rfl) (by kernel_rfl) (by kernel_rfl) (by kernel_rfl) (fun _ _ _ h => h) (Or.inl ⟨by rfl, ?hy22⟩) (by assumption) ?rest22
    case hy22 =>
      intro w' hS
      go_simp
      try with_reducible rfl
    try simp only [Act.put, List.setIfInBounds_toArray, List.set_cons_zero, List.set_cons_succ]
    refine' wpAnyH_take (i := 24) (v := _) (op_at rfl) (by kernel_rfl) (by kernel_rfl) (by kernel_rfl) (fun _ _ _ h => h) (Or.inl ⟨by rfl, ?hy23⟩) (by assumption) ?rest23
    case hy23 =>
      intro w' hS
      go_simp
      try with_reducible rfl
    try simp only [Act.put, List.setIfInBounds_toArray, List.set_cons_zero, List.set_cons_succ]
    refine' wpAnyH_take (i := 25) (v := _) (op_at rfl) (by kernel_rfl) (by kernel_rfl) (by kernel_rfl) (fun _ _ _ h => h) (Or.inl ⟨by rfl, ?hy24⟩) (by assumption) ?rest24
    case hy24 =>
      intro w' hS
      go_simp
      try with_reducible rfl
    try simp only [Act.put, List.setIfInBounds_toArray, List.set_cons_zero, List.set_cons_succ]
    refine' wpAnyH_take (i := 26) (v := _) (op_at rfl) (by kernel_rfl) (by kernel_rfl) (by kernel_rfl) (fun _ _ _ h => h) (Or.inl ⟨by rfl, ?hy25⟩) (by assumption) ?rest25
    case hy25 =>
      intro w' hS
      have q := cell_in ((p4.trans hS).at hbYV (by simp)) 5
      go_simp
      try with_reducible rfl
    try simp only [Act.put, List.setIfInBounds_toArray, List.set_cons_zero, List.set_cons_succ]
    refine' wpAnyH_take (i := 27) (v := _) (op_at rfl) (by kernel_rfl) (by kernel_rfl) (by kernel_rfl) (fun _ _ _ h => h) (Or.inl ⟨by rfl, ?hy26⟩) (by assumption) ?rest26
    case hy26 =>
      intro w' hS
      go_simp
      try with_reducible rfl
    try simp only [Act.put, List.setIfInBounds_toArray, List.set_cons_zero, List.set_cons_succ]
    refine' wpAnyH_take (i := 28) (v := _) (op_at rfl) (by kernel_rfl) (by kernel_rfl) (by kernel_rfl) (fun _ _ _ h => h) (Or.inl ⟨by rfl, ?hy27⟩) (by assumption) ?rest27
    case hy27 =>
      intro w' hS
      have q := cell_in ((p4.trans hS).at hbXV (by simp)) 5
      go_simp
      try with_reducible rfl
    try simp only [Act.put, List.setIfInBounds_toArray, List.set_cons_zero, List.set_cons_succ]
    refine' wpAnyH_take (i := 29) (v := _) (op_at rfl) (by kernel_rfl) (by kernel_rfl) (by kernel_rfl) (fun _ _ _ h => h) (Or.inl ⟨by rfl, ?hy28⟩) (by assumption) ?rest28
    case hy28 =>
      intro w' hS
      go_simp
      try with_reducible rfl
    try simp only [Act.put, List.setIfInBounds_toArray, List.set_cons_zero, List.set_cons_succ]
    refine' wpAnyH_take (i := 30) (v := _) (op_at rfl) (by kernel_rfl) (by kernel_rfl) (by kernel_rfl) (fun _ _ _ h => h) (Or.inl ⟨by rfl, ?hy29⟩) (by assumption) ?rest29
    case hy29 =>
      intro w' hS
      go_simp
      try with_reducible rfl
    try simp only [Act.put, List.setIfInBounds_toArray, List.set_cons_zero, List.set_cons_succ]
    refine' wpAnyH_take (i := 31) (v := _) (op_at rfl) (by kernel_rfl) (by kernel_rfl) (by kernel_rfl) (fun _ _ _ h => h) (Or.inl ⟨by rfl, ?hy30⟩) (by assumption) ?rest30
    case hy30 =>
      intro w' hS
      go_simp
      try with_reducible rfl
    try simp only [Act.put, List.setIfInBounds_toArray, List.set_cons_zero, List.set_cons_succ]
    refine' wpAnyH_take (i := 32) (v := _) (op_at rfl) (by kernel_rfl) (by kernel_rfl) (by kernel_rfl) (fun _ _ _ h => h) (Or.inl ⟨by rfl, ?hy31⟩) (by assumption) ?rest31
    case hy31 =>
      intro w' hS
      go_simp
      try with_reducible rfl
    try simp only [Act.put, List.setIfInBounds_toArray, List.set_cons_zero, List.set_cons_succ]
    refine' wpAnyH_take (i := 33) (v := _) (op_at rfl) (by kernel_rfl) (by kernel_rfl) (by kernel_rfl) (fun _ _ _ h => h) (Or.inl ⟨by rfl, ?hy32⟩) (by assumption) ?rest32
    case hy32 =>
      intro w' hS
      have q := cell_in ((p4.trans hS).at hbYV (by simp)) 2
      go_simp
      try with_reducible rfl
    try simp only [Act.put, List.setIfInBounds_toArray, List.set_cons_zero, List.set_cons_succ]
    refine' wpAnyH_take (i := 34) (v := _) (op_at rfl) (by kernel_rfl) (by kernel_rfl) (by kernel_rfl) (fun _ _ _ h => h) (Or.inl ⟨by rfl, ?hy33⟩) (by assumption) ?rest33
    case hy33 =>
      intro w' hS
      have hs := run_str (P := Try.prog) (w := w') (S := 22) (T := 9) Try.underlying22 Try.underlying5 Try.underlying9 (Rd.new hgV.gk.2.1 (p4.trans hS)) rfl
      go_simp
      try with_reducible rfl
    try simp only [Act.put, List.setIfInBounds_toArray, List.set_cons_zero, List.set_cons_succ]
    refine' wpAnyH_take (i := 35) (v := _) (op_at rfl) (by kernel_rfl) (by kernel_rfl) (by kernel_rfl) (fun _ _ _ h => h) (Or.inl ⟨by rfl, ?hy34⟩) (by assumption) ?rest34
    case hy34 =>
      intro w' hS
      go_simp
      try with_reducible rfl
    try simp only [Act.put, List.setIfInBounds_toArray, List.set_cons_zero, List.set_cons_succ]
    refine' wpAnyH_take (i := 36) (v := _) (op_at rfl) (by kernel_rfl) (by kernel_rfl) (by kernel_rfl) (fun _ _ _ h => h) (Or.inl ⟨by rfl, ?hy35⟩) (by assumption) ?rest35
    case hy35 =>
      intro w' hS
      have q := cell_in ((p4.trans hS).at hbXV (by simp)) 2
      go_simp
      try with_reducible rfl
    try simp only [Act.put, List.setIfInBounds_toArray, List.set_cons_zero, List.set_cons_succ]
    refine' wpAnyH_take (i := 37) (v := _) (op_at rfl) (by kernel_rfl) (by kernel_rfl) (by kernel_rfl) (fun _ _ _ h => h) (Or.inl ⟨by rfl, ?hy36⟩) (by assumption) ?rest36
    case hy36 =>
      intro w' hS
      have hs := run_str (P := Try.prog) (w := w') (S := 22) (T := 9) Try.underlying22 Try.underlying5 Try.underlying9 (Rd.new kgk (p4.trans hS)) rfl
      go_simp
      try with_reducible rfl
    try simp only [Act.put, List.setIfInBounds_toArray, List.set_cons_zero, List.set_cons_succ]
    refine' wpAnyH_take (i := 38) (v := _) (op_at rfl) (by kernel_rfl) (by kernel_rfl) (by kernel_rfl) (fun _ _ _ h => h) (Or.inl ⟨by rfl, ?hy37⟩) (by assumption) ?rest37
    case hy37 =>
      intro w' hS
      go_simp
      try with_reducible rfl
    try simp only [Act.put, List.setIfInBounds_toArray, List.set_cons_zero, List.set_cons_succ]
    refine' wpAnyH_take (i := 39) (v := _) (op_at rfl) (by kernel_rfl) (by kernel_rfl) (by kernel_rfl) (fun _ _ _ h => h) (Or.inl ⟨by rfl, ?hy38⟩) (by assumption) ?rest38
    case hy38 =>
      intro w' hS
      go_simp
      try with_reducible rfl
    try simp only [Act.put, List.setIfInBounds_toArray, List.set_cons_zero, List.set_cons_succ]
    refine' wpAnyH_take (i := 40) (v := _) (op_at rfl) (by kernel_rfl) (by kernel_rfl) (by kernel_rfl) (fun _ _ _ h => h) (Or.inl ⟨by rfl, ?hy39⟩) (by assumption) ?rest39
    case hy39 =>
      intro w' hS
      go_simp
      try with_reducible rfl
    try simp only [Act.put, List.setIfInBounds_toArray, List.set_cons_zero, List.set_cons_succ]
    refine' wpAnyH_take (i := 41) (v := _) (op_at rfl) (by kernel_rfl) (by kernel_rfl) (by kernel_rfl) (fun _ _ _ h => h) (Or.inl ⟨by rfl, ?hy40⟩) (by assumption) ?rest40
    case hy40 =>
      intro w' hS
      go_simp
      try with_reducible rfl
    try simp only [Act.put, List.setIfInBounds_toArray, List.set_cons_zero, List.set_cons_succ]
    refine' wpAnyH_take (i := 42) (v := _) (op_at rfl) (by kernel_rfl) (by kernel_rfl) (by kernel_rfl) (fun _ _ _ h => h) (Or.inl ⟨by rfl, ?hy41⟩) (by assumption) ?rest41
    case hy41 =>
      intro w' hS
      go_simp
      try with_reducible rfl
    try simp only [Act.put, List.setIfInBounds_toArray, List.set_cons_zero, List.set_cons_succ]
    refine' wpAnyH_take (i := 43) (v := _) (op_at rfl) (by kernel_rfl) (by kernel_rfl) (by kernel_rfl) (fun _ _ _ h => h) (Or.inl ⟨by rfl, ?hy42⟩) (by assumption) ?rest42
    case hy42 =>
      intro w' hS
      have q := cell_in ((p4.trans hS).at hbYV (by simp)) 0
      go_simp
      try with_reducible rfl
    try simp only [Act.put, List.setIfInBounds_toArray, List.set_cons_zero, List.set_cons_succ]
    refine' wpAnyH_take (i := 44) (v := _) (op_at rfl) (by kernel_rfl) (by kernel_rfl) (by kernel_rfl) (fun _ _ _ h => h) (Or.inl ⟨by rfl, ?hy43⟩) (by assumption) ?rest43
    case hy43 =>
      intro w' hS
      have hs := run_str (P := Try.prog) (w := w') (S := 22) (T := 9) Try.underlying22 Try.underlying5 Try.underlying9 (Rd.new hgV.ga.2.1 (p4.trans hS)) rfl
      go_simp
      try with_reducible rfl
    try simp only [Act.put, List.setIfInBounds_toArray, List.set_cons_zero, List.set_cons_succ]
    refine' wpAnyH_take (i := 45) (v := _) (op_at rfl) (by kernel_rfl) (by kernel_rfl) (by kernel_rfl) (fun _ _ _ h => h) (Or.inl ⟨by rfl, ?hy44⟩) (by assumption) ?rest44
    case hy44 =>
      intro w' hS
      go_simp
      try with_reducible rfl
    try simp only [Act.put, List.setIfInBounds_toArray, List.set_cons_zero, List.set_cons_succ]
    refine' wpAnyH_take (i := 46) (v := _) (op_at rfl) (by kernel_rfl) (by kernel_rfl) (by kernel_rfl) (fun _ _ _ h => h) (Or.inl ⟨by rfl, ?hy45⟩) (by assumption) ?rest45
    case hy45 =>
      intro w' hS
      go_simp
      try with_reducible rfl
    try simp only [Act.put, List.setIfInBounds_toArray, List.set_cons_zero, List.set_cons_succ]
    refine' wpAnyH_take (i := 47) (v := _) (op_at rfl) (by kernel_rfl) (by kernel_rfl) (by kernel_rfl) (fun _ _ _ h => h) (Or.inl ⟨by rfl, ?hy46⟩) (by assumption) ?rest46
    case hy46 =>
      intro w' hS
      have q := cell_in ((p4.trans hS).at hbXV (by simp)) 0
      go_simp
      try with_reducible rfl
    try simp only [Act.put, List.setIfInBounds_toArray, List.set_cons_zero, List.set_cons_succ]
    refine' wpAnyH_take (i := 48) (v := _) (op_at rfl) (by kernel_rfl) (by kernel_rfl) (by kernel_rfl) (fun _ _ _ h => h) (Or.inl ⟨by rfl, ?hy47⟩) (by assumption) ?rest47
    case hy47 =>
      intro w' hS
      have hs := run_str (P := Try.prog) (w := w') (S := 22) (T := 9) Try.underlying22 Try.underlying5 Try.underlying9 (Rd.new kga (p4.trans hS)) rfl
      go_simp
      try with_reducible rfl
    try simp only [Act.put, List.setIfInBounds_toArray, List.set_cons_zero, List.set_cons_succ]
    refine' wpAnyH_take (i := 49) (v := _) (op_at rfl) (by kernel_rfl) (by kernel_rfl) (by kernel_rfl) (fun _ _ _ h => h) (Or.inl ⟨by rfl, ?hy48⟩) (by assumption) ?rest48
    case hy48 =>
      intro w' hS
      go_simp
      try with_reducible rfl
    try simp only [Act.put, List.setIfInBounds_toArray, List.set_cons_zero, List.set_cons_succ]
    refine' wpAnyH_take (i := 50) (v := _) (op_at rfl) (by kernel_rfl) (by kernel_rfl) (by kernel_rfl) (fun _ _ _ h => h) (Or.inl ⟨by rfl, ?hy49⟩) (by assumption) ?rest49
    case hy49 =>
      intro w' hS
      go_simp
      try with_reducible rfl
    try simp only [Act.put, List.setIfInBounds_toArray, List.set_cons_zero, List.set_cons_succ]
    refine' wpAnyH_take (i := 51) (v := _) (op_at rfl) (by kernel_rfl) (by kernel_rfl) (by kernel_rfl) (fun _ _ _ h => h) (Or.inl ⟨by rfl, ?hy50⟩) (by assumption) ?rest50
    case hy50 =>
      intro w' hS
      go_simp
      try with_reducible rfl
    try simp only [Act.put, List.setIfInBounds_toArray, List.set_cons_zero, List.set_cons_succ]
    refine' wpAnyH_take (i := 52) (v := _) (op_at rfl) (by kernel_rfl) (by kernel_rfl) (by kernel_rfl) (fun _ _ _ h => h) (Or.inl ⟨by rfl, ?hy51⟩) (by assumption) ?rest51
    case hy51 =>
      intro w' hS
      go_simp
      try with_reducible rfl
    try simp only [Act.put, List.setIfInBounds_toArray, List.set_cons_zero, List.set_cons_succ]
    refine' wpAnyH_take (i := 53) (v := _) (op_at rfl) (by kernel_rfl) (by kernel_rfl) (by kernel_rfl) (fun _ _ _ h => h) (Or.inl ⟨by rfl, ?hy52⟩) (by assumption) ?rest52
    case hy52 =>
      intro w' hS
      go_simp
      try with_reducible rfl
    try simp only [Act.put, List.setIfInBounds_toArray, List.set_cons_zero, List.set_cons_succ]
    refine' wpAnyH_take (i := 54) (v := _) (op_at rfl) (by kernel_rfl) (by kernel_rfl) (by kernel_rfl) (fun _ _ _ h => h) (Or.inl ⟨by rfl, ?hy53⟩) (by assumption) ?rest53
    case hy53 =>
      intro w' hS
      have q := cell_in ((p4.trans hS).at hbYV (by simp)) 1
      go_simp
      try with_reducible rfl
    try simp only [Act.put, List.setIfInBounds_toArray, List.set_cons_zero, List.set_cons_succ]
    refine' wpAnyH_take (i := 55) (v := _) (op_at rfl) (by kernel_rfl) (by kernel_rfl) (by kernel_rfl) (fun _ _ _ h => h) (Or.inl ⟨by rfl, ?hy54⟩) (by assumption) ?rest54
    case hy54 =>
      intro w' hS
      have hs := run_str (P := Try.prog) (w := w') (S := 22) (T := 9) Try.underlying22 Try.underlying5 Try.underlying9 (Rd.new hgV.gs.2.1 (p4.trans hS)) rfl
      go_simp
      try with_reducible rfl
    try simp only [Act.put, List.setIfInBounds_toArray, List.set_cons_zero, List.set_cons_succ]
    refine' wpAnyH_take (i := 56) (v := _) (op_at rfl) (by kernel_rfl) (by kernel_rfl) (by kernel_rfl) (fun _ _ _ h => h) (Or.inl ⟨by rfl, ?hy55⟩) (by assumption) ?rest55
    case hy55 =>
      intro w' hS
      go_simp
      try with_reducible rfl
    try simp only [Act.put, List.setIfInBounds_toArray, List.set_cons_zero, List.set_cons_succ]
    refine' wpAnyH_take (i := 57) (v := _) (op_at rfl) (by kernel_rfl) (by kernel_rfl) (by kernel_rfl) (fun _ _ _ h => h) (Or.inl ⟨by rfl, ?hy56⟩) (by assumption) ?rest56
    case hy56 =>
      intro w' hS
      go_simp
      try with_reducible rfl
    try simp only [Act.put, List.setIfInBounds_toArray, List.set_cons_zero, List.set_cons_succ]
    refine' wpAnyH_take (i := 58) (v := _) (op_at rfl) (by kernel_rfl) (by kernel_rfl) (by kernel_rfl) (fun _ _ _ h => h) (Or.inl ⟨by rfl, ?hy57⟩) (by assumption) ?rest57
    case hy57 =>
      intro w' hS
      have q := cell_in ((p4.trans hS).at hbXV (by simp)) 1
      go_simp
      try with_reducible rfl
    try simp only [Act.put, List.setIfInBounds_toArray, List.set_cons_zero, List.set_cons_succ]
    refine' wpAnyH_take (i := 59) (v := _) (op_at rfl) (by kernel_rfl) (by kernel_rfl) (by kernel_rfl) (fun _ _ _ h => h) (Or.inl ⟨by rfl, ?hy58⟩) (by assumption) ?rest58
    case hy58 =>
      intro w' hS
      have hs := run_str (P := Try.prog) (w := w') (S := 22) (T := 9) Try.underlying22 Try.underlying5 Try.underlying9 (Rd.new kgs (p4.trans hS)) rfl
      go_simp
      try with_reducible rfl
    try simp only [Act.put, List.setIfInBounds_toArray, List.set_cons_zero, List.set_cons_succ]
    refine' wpAnyH_take (i := 60) (v := _) (op_at rfl) (by kernel_rfl) (by kernel_rfl) (by kernel_rfl) (fun _ _ _ h => h) (Or.inl ⟨by rfl, ?hy59⟩) (by assumption) ?rest59
    case hy59 =>
      intro w' hS
      go_simp
      try with_reducible rfl
    try simp only [Act.put, List.setIfInBounds_toArray, List.set_cons_zero, List.set_cons_succ]
    refine' wpAnyH_take (i := 61) (v := _) (op_at rfl) (by kernel_rfl) (by kernel_rfl) (by kernel_rfl) (fun _ _ _ h => h) (Or.inl ⟨by rfl, ?hy60⟩) (by assumption) ?rest60
    case hy60 =>
      intro w' hS
      go_simp
      try with_reducible rfl
    try simp only [Act.put, List.setIfInBounds_toArray, List.set_cons_zero, List.set_cons_succ]
    refine' wpAnyH_take (i := 62) (v := _) (op_at rfl) (by kernel_rfl) (by kernel_rfl) (by kernel_rfl) (fun _ _ _ h => h) (Or.inl ⟨by rfl, ?hy61⟩) (by assumption) ?rest61
    case hy61 =>
      intro w' hS
      go_simp
      try with_reducible rfl
    try simp only [Act.put, List.setIfInBounds_toArray, List.set_cons_zero, List.set_cons_succ]
    refine' wpAnyH_take (i := 63) (v := _) (op_at rfl) (by kernel_rfl) (by kernel_rfl) (by kernel_rfl) (fun _ _ _ h => h) (Or.inl ⟨by rfl, ?hy62⟩) (by assumption) ?rest62
    case hy62 =>
      intro w' hS
      go_simp
      try with_reducible rfl
    try simp only [Act.put, List.setIfInBounds_toArray, List.set_cons_zero, List.set_cons_succ]
    refine' wpAnyH_take (i := 64) (v := _) (op_at rfl) (by kernel_rfl) (by kernel_rfl) (by kernel_rfl) (fun _ _ _ h => h) (Or.inl ⟨by rfl, ?hy63⟩) (by assumption) ?rest63
    case hy63 =>
      intro w' hS
      go_simp
      try with_reducible rfl
    try simp only [Act.put, List.setIfInBounds_toArray, List.set_cons_zero, List.set_cons_succ]
    refine' wpAnyH_take (i := 65) (v := _) (op_at rfl) (by kernel_rfl) (by kernel_rfl) (by kernel_rfl) (fun _ _ _ h => h) (Or.inl ⟨by rfl, ?hy64⟩) (by assumption) ?rest64
    case hy64 =>
      intro w' hS
      go_simp
      try with_reducible rfl
    try simp only [Act.put, List.setIfInBounds_toArray, List.set_cons_zero, List.set_cons_succ]
    refine' wpAnyH_take (i := 66) (v := _) (op_at rfl) (by kernel_rfl) (by kernel_rfl) (by kernel_rfl) (fun _ _ _ h => h) (Or.inl ⟨by rfl, ?hy65⟩) (by assumption) ?rest65
    case hy65 =>
      intro w' hS
      go_simp
      try with_reducible rfl
    try simp only [Act.put, List.setIfInBounds_toArray, List.set_cons_zero, List.set_cons_succ]
    refine wpAnyH_done (by kernel_rfl) ?_ _
    go_wp2_with fail
    go_ret
    exact ⟨rfl, (oVV.trans p4).below (Nat.le_refl _) (by simp)⟩

set_option maxRecDepth 100000 in
set_option maxHeartbeats 12800000 in
theorem hellos_n (sg on : Int) (ags sgs ks : List Int) (aa az ak : Option Addr) (ca cz ck : Nat) (w : World) (hga : Rd w (.slice aa ags.length ca) ags) (hgs : Rd w (.slice az sgs.length cz) sgs) (hgk : Rd w (.slice ak ks.length ck) ks) (ba : Byt ags) (bs : Byt sgs) (bk : Byt ks) (usg : U32 sg) (uon : U32 on) (la : ags.length ≤ 140737488351232) (ls : sgs.length ≤ 140737488351232) (lk : ks.length ≤ 140737488351232) :
    Calls Try.prog 9 #[.agg #[.slice aa ags.length ca, .slice az sgs.length cz, .slice ak ks.length ck, .int .u32 sg, .bool false, .int .u32 on]] w fun e w' => e = .returned (.bool true) ∧ Below w.heap.size w w' := by
  obtain ⟨i0, hi, hz0, hz1, hz2⟩ := info_parts Try.info5
  have k0 := wrap_le ks.length ags.length (by omega) (by omega)
  have k1 := wrap_le (ks.length + ags.length) sgs.length (by omega) (by omega)
  by_cases hl : 2000 < ks.length + ags.length + sgs.length
  · have d0 : decide ((2000 : Int) < ((ks.length + ags.length + sgs.length : Nat) : Int)) = true := by simp; omega
    have d0' : decide ((2000 : Int) < (ks.length : Int) + (ags.length : Int) + (sgs.length : Int)) = true := by simp; omega
    go_enter Try.func9, Try.ntmps9
    go_wp2_with fail
    obtain ⟨W, X, hW, hX, hbX, hoW, hX1, hX2⟩ := new_block w (.cells #[.slice aa ags.length ca, .slice az sgs.length cz, .slice ak ks.length ck, .int .u32 sg, .bool false, .int .u32 on] 39)
    rw [← hW, ← hX]
    clear hW hX
    refine (awake14 _).mono ?_
    rintro e w1 ⟨rfl, h1⟩
    have hX1' := h1.at hbX (by simp)
    have c0 := cell_in hX1' 0
    have c1 := cell_in hX1' 1
    have c2 := cell_in hX1' 2
    go_wp2_with fail
    refine (awake14 _).mono ?_
    rintro e w2 ⟨rfl, h2⟩
    go_wp2_with fail
    go_ret
    exact ⟨rfl, ((hoW.trans h1).trans h2).below (Nat.le_refl _) (by simp)⟩
  · have d0 : decide ((2000 : Int) < ((ks.length + ags.length + sgs.length : Nat) : Int)) = false := by simp; omega
    have d0' : decide ((2000 : Int) < (ks.length : Int) + (ags.length : Int) + (sgs.length : Int)) = false := by simp; omega
    go_enter Try.func9, Try.ntmps9
    go_wp2_with fail
    obtain ⟨W, X, hW, hX, hbX, hoW, hX1, hX2⟩ := new_block w (.cells #[.slice aa ags.length ca, .slice az sgs.length cz, .slice ak ks.length ck, .int .u32 sg, .bool false, .int .u32 on] 39)
    rw [← hW, ← hX]
    clear hW hX
    refine (awake14 _).mono ?_
    rintro e w1 ⟨rfl, h1⟩
    have hX1' := h1.at hbX (by simp)
    have c0 := cell_in hX1' 0
    have c1 := cell_in hX1' 1
    have c2 := cell_in hX1' 2
    have c3 := cell_in hX1' 3
    have c4 := cell_in hX1' 4
    have c5 := cell_in hX1' 5
    go_wp2_with fail
    have o1 := hoW.trans h1
    refine (enchello_any _ _ _ ags sgs ks sg on false _ (hga.new o1) (hgs.new o1) (hgk.new o1) usg uon (by omega)).mono fun e w2 hq => ?_
    obtain ⟨ys, a1, q1, Hys, rfl, g1, g2, g3⟩ := hq.name
    clear hq c0 c1 c2 c3 c4 c5 k0 k1 d0 d0' hbX
    have hyb : Byt ys := by rw [Hys.out]; exact byt_hello _ _ _ ba bs bk
    have hyl : ys.length ≤ 2100 := by rw [Hys.out]; have := helloB_len ags sgs ks sg false on; omega
    have hpy : pH (ys, false) = (⟨ags, sgs, ks, sg, false, 0⟩, [], false) := by
      have := pH_be ags sgs ks [] sg false on (by omega) (by omega) (by omega) usg uon
      rw [List.append_nil, ← Hys.out] at this
      exact this
    have hpz : pH (ys ++ [0], false) = (⟨ags, sgs, ks, sg, false, 0⟩, [0], false) := by
      have := pH_be ags sgs ks [0] sg false on (by omega) (by omega) (by omega) usg uon
      rw [← Hys.out] at this
      exact this
    have Hpz := Lib.hid hpz
    clear hpz
    go_wp2_with fail
    refine (dechello_any _ ys w2 (own_rd g1) hyb (by omega)).mono ?_
    rintro e w3 ⟨a, s, hd, ho3, hcase⟩
    rw [hpy] at hd
    simp only [Prod.mk.injEq] at hd
    obtain ⟨rfl, rfl⟩ := hd
    clear hpy
    rcases hcase with ⟨_, va, vs, vk, rfl, hg⟩ | ⟨h0, _⟩
    case inr => simp [Ends] at h0
    obtain ⟨⟨aa', ca', rfl⟩, _⟩ := id hg.ga
    obtain ⟨⟨az', cz', rfl⟩, _⟩ := id hg.gs
    obtain ⟨⟨ak', ck', rfl⟩, _⟩ := id hg.gk
    simp only at hg ⊢
    have hb3 := heap_alloc_new w3 (.cells #[.slice aa' ags.length ca', .slice az' sgs.length cz', .slice ak' ks.length ck', .int .u32 sg, .bool false, .int .u32 0] 39)
    have oA := Only.alloc w3 (.cells #[.slice aa' ags.length ca', .slice az' sgs.length cz', .slice ak' ks.length ck', .int .u32 sg, .bool false, .int .u32 0] 39) []
    have oB := Only.alloc (w3.alloc (.cells #[.slice aa' ags.length ca', .slice az' sgs.length cz', .slice ak' ks.length ck', .int .u32 sg, .bool false, .int .u32 0] 39)) (.cells #[.int .u8 0] 5) []
    have hb4 := heap_alloc_new (w3.alloc (.cells #[.slice aa' ags.length ca', .slice az' sgs.length cz', .slice ak' ks.length ck', .int .u32 sg, .bool false, .int .u32 0] 39)) (.cells #[.int .u8 0] 5)
    have hsz : (w3.alloc (.cells #[.slice aa' ags.length ca', .slice az' sgs.length cz', .slice ak' ks.length ck', .int .u32 sg, .bool false, .int .u32 0] 39)).heap.size = w3.heap.size + 1 := by simp
    rw [hsz] at hb4
    have Ho4 := Lib.hid (oA.trans oB)
    have Hr4 := Lib.hid (own_new (own_new g1 ho3 (by simp)) (oA.trans oB) (by simp))
    have Hs4 := Lib.hid (src_block (n := 1) hb4 rfl ⟨rfl, by decide⟩)
    have Hb3 := Lib.hid (oB.at hb3 (by simp))
    clear hb3 hb4 oA oB hsz
    go_wp2_with (at_builtin; refine wpList_append_keep rfl _ _ 22 rfl 5 i0 (.int .u8 0) 1 1 Try.underlying22 hi hz0 hz1 hz2 rfl (by decide) (.slice a1 ys.length q1) ys.length (ys.map (.int .u8)) rfl Hr4.out _ 1 [.int .u8 0] rfl Hs4.out (by simp [Value.oneCell']) (by decide) (by unfold maxLen; omega) (by omega) ?_; intro v5 w5 r1 r2 r3 r4; obtain ⟨a5, k5, rfl⟩ := own_slice r1)
    have hzl : (ys ++ [0]).length = ys.length + 1 := by simp
    have hr5 : Rd w5 (.slice a5 (ys.length + 1) k5) (ys ++ [0]) := by have := own_src r1; simpa [Rd] using this
    have hzb : Byt (ys ++ [0]) := hyb.app (by intro x hx; simp at hx; subst hx; decide)
    have hbk : ∀ k ∈ (Value.slice a1 ys.length q1).ownBlock.toList, w1.heap.size ≤ k ∧ k < w2.heap.size := fun k hk => by
      have hk' : (Value.slice a1 ys.length q1).ownBlock = some k := by simpa using hk
      refine ⟨?_, (g1.lt k hk').2⟩
      rcases g2 k hk' with h | h
      · simp [Value.ownBlock] at h
      · exact h
    have o35 : Only w3 w5 (Value.slice a1 ys.length q1).ownBlock.toList := (Ho4.out.mono (by simp)).trans (Only.grown r2 (fun k hk => by simp [hk]))
    have hXw1 := (Array.getElem?_eq_some_iff.1 hX1').1
    have hbX5 := o35.at ((g3.trans ho3).at hX1' (by simp)) (fun hm => by have := (hbk X hm).1; omega)
    have hw23 := ho3.size
    have hw12 := g3.size
    have hbY5 : w5.heap[w3.heap.size]? = some (.cells #[.slice aa' ags.length ca', .slice az' sgs.length cz', .slice ak' ks.length ck', .int .u32 sg, .bool false, .int .u32 0] 39 (0, 0)) := (Only.grown r2 (L := (Value.slice a1 ys.length q1).ownBlock.toList) (fun k hk => by simp [hk])).at Hb3.out (fun hm => by have := (hbk _ hm).2; omega)
    have hg5 := hg.next o35 (fun k hk => (hbk k hk).2)
    have o15 : Only w w5 [] := (o1.trans (g3.trans ho3)).new o35 (fun k hk => by have := (hbk k hk).1; have := o1.size; omega)
    have hYX : w3.heap.size ≠ X := by have := g3.size; omega
    clear hg r1 r2 r3 Ho4 Hr4 Hs4 Hb3 hX1' g1 g2 hyb o35
    refine (dechello_any _ (ys ++ [0]) w5 hr5 hzb (by omega)).mono ?_
    rintro e w6 ⟨a, s, hd, ho6, hcase⟩
    rw [Hpz.out] at hd
    simp only [Prod.mk.injEq] at hd
    obtain ⟨rfl, rfl⟩ := hd
    rcases hcase with ⟨h0, _⟩ | ⟨_, rfl⟩
    case inl => simp [Ends] at h0
    generalize w3.heap.size = Y at *
    have hbX6 := ho6.at hbX5 (by simp)
    have oZ := Only.alloc w6 (.cells #[.slice none 0 0, .slice none 0 0, .slice none 0 0, .int .u32 0, .bool false, .int .u32 0] 39) []
    have oV := o15.trans (ho6.trans oZ)
    have hbXz := oZ.at hbX6 (by simp)
    have hbYz := (ho6.trans oZ).at hbY5 (by simp)
    have ry := r4.off (ho6.trans oZ) (fun _ _ _ => by simp)
    have hgz := hg5.next (ho6.trans oZ) (by simp)
    have HbYa : ∀ k, (Value.slice a1 ys.length q1).ownBlock = some k → w1.heap.size ≤ k := fun k hk => (hbk k (by simp [hk])).1
    clear hbX5 hbX6 hbY5 r4 hg5 hr5 hzb Hpz hzl hbk
    have HbXz := Lib.hid hbXz
    have e4 := cell_in hbXz 4
    have e5 := cell_in hbXz 5
    have f5 := free_in hbXz 5
    go_wp2_with fail
    have hbXV : ((w6.alloc (.cells #[.slice none 0 0, .slice none 0 0, .slice none 0 0, .int .u32 0, .bool false, .int .u32 0] 39)).setCell ⟨X, 5, none⟩ (.int .u32 0)).heap[X]? = some (.cells #[.slice aa ags.length ca, .slice az sgs.length cz, .slice ak ks.length ck, .int .u32 sg, .bool false, .int .u32 0] 39 (0, 0)) := set_at HbXz.out _
    have oS := Only.setCell (w6.alloc (.cells #[.slice none 0 0, .slice none 0 0, .slice none 0 0, .int .u32 0, .bool false, .int .u32 0] 39)) ⟨X, 5, none⟩ (.int .u32 0) [X] (by simp)
    have hXw : ∀ k ∈ [X], w.heap.size ≤ k := by simpa using hX1
    have hbYV := oS.at hbYz (by simpa using hYX)
    have oVV := oV.new oS hXw
    have kys : Rd _ (.slice a1 ys.length q1) ys := ry.off oS (fun hm k hk hkX => by simp at hkX; subst hkX; exact absurd (HbYa k hk) (by omega))
    have hgV := hgz.next oS (fun k hk => by simp at hk; subst hk; omega)
    have kga : Rd _ _ ags := Src.off hga oVV (fun _ _ _ => by simp)
    have kgs : Rd _ _ sgs := Src.off hgs oVV (fun _ _ _ => by simp)
    have kgk : Rd _ _ ks := Src.off hgk oVV (fun _ _ _ => by simp)
    generalize (w6.alloc (.cells #[.slice none 0 0, .slice none 0 0, .slice none 0 0, .int .u32 0, .bool false, .int .u32 0] 39)).setCell ⟨X, 5, none⟩ (.int .u32 0) = V at *
    clear HbYa oS
    clear e4 e5 f5 HbXz hbXz hbYz ry hgz oV oZ
    have hod := Only.drew V []
    refine wp_region_held_drew (S := fun w' => Only V.drew w' []) (by kernel_rfl) (Only.refl _ _) (fun hHeld => ?_)
    refine' wpAnyH_take (i := 0) (v := _) (op_at rfl) (by kernel_rfl) (by kernel_rfl) (by kernel_rfl) (fun _ _ _ h => h) (Or.inl ⟨by rfl, ?hy66⟩) (by assumption) ?rest66
    case hy66 =>
      intro w' hS
      go_simp
      try with_reducible rfl
    try simp only [Act.put, List.setIfInBounds_toArray, List.set_cons_zero, List.set_cons_succ]
    refine' wpAnyH_take (i := 1) (v := _) (op_at rfl) (by kernel_rfl) (by kernel_rfl) (by kernel_rfl) (fun _ _ _ h => h) (Or.inl ⟨by rfl, ?hy67⟩) (by assumption) ?rest67
    case hy67 =>
      intro w' hS
      have hs := run_str (P := Try.prog) (w := w') (S := 22) (T := 9) Try.underlying22 Try.underlying5 Try.underlying9 (Rd.new kys (hod.trans hS)) rfl
      go_simp
      try with_reducible rfl
    try simp only [Act.put, List.setIfInBounds_toArray, List.set_cons_zero, List.set_cons_succ]
    refine wpAnyH_take (i := 2) (op_at rfl) (by kernel_rfl) (by kernel_rfl) (by kernel_rfl) (fun _ _ _ h => h) (yieldsIf_load_mid (by rfl) _ _ rfl X 0 rfl [.slice aa ags.length ca, .slice az sgs.length cz, .slice ak ks.length ck, .int .u32 sg, .bool false, .int .u32 0] _ (fun w' hS => range_of ((hod.trans hS).at hbXV (by simp))) Try.underlying39 (by rfl) info_hello) (by assumption) ?_
    try simp only [Act.put, List.setIfInBounds_toArray, List.set_cons_zero, List.set_cons_succ]
    refine wpAnyH_ready (rs := [3]) (by kernel_rfl) (by simp) (AllReadyH.cons (op_at rfl) (fun K hK => ?_) AllReadyH.nil)
    go_simp
    refine (rfhello_any (.slice none 0 0) _ _ _ [] ags sgs ks sg 0 false _ (Rd.nil _) (kga.new hod) (kgs.new hod) (kgk.new hod) usg ⟨by decide, by decide⟩ (by simp; omega)).mono fun e w7 hq => ?_
    obtain ⟨zs, a6, k6, Hzs, rfl, p1, p2, p3⟩ := hq.name
    clear hq
    go_wp2_with fail
    refine hK.out _ _ p3 (fun hHeld1 => ?_)
    clear hK K
    try simp only [Act.put, List.setIfInBounds_toArray, List.set_cons_zero, List.set_cons_succ]
    refine wpAnyH_more (S' := fun w' => Only w7 w' []) (fun w' h => Only.trans p3 h) _ _ _ _ ?_
    clear hHeld hHeld1
    have hHeld : Only w7 w7 [] := Only.refl _ _
    have p4 := hod.trans p3
    have hzy : zs = ys := by rw [Hzs.out, Hys.out]; simp [helloB]
    subst hzy
    refine' wpAnyH_take (i := 4) (v := _) (op_at rfl) (by kernel_rfl) (by kernel_rfl) (by kernel_rfl) (fun _ _ _ h => h) (Or.inl ⟨by rfl, ?hy68⟩) (by assumption) ?rest68
    case hy68 =>
      intro w' hS
      have hs := run_str (P := Try.prog) (w := w') (S := 22) (T := 9) Try.underlying22 Try.underlying5 Try.underlying9 ((own_rd p1).new hS) rfl
      go_simp
      try with_reducible rfl
    try simp only [Act.put, List.setIfInBounds_toArray, List.set_cons_zero, List.set_cons_succ]
    refine' wpAnyH_take (i := 5) (v := _) (op_at rfl) (by kernel_rfl) (by kernel_rfl) (by kernel_rfl) (fun _ _ _ h => h) (Or.inl ⟨by rfl, ?hy69⟩) (by assumption) ?rest69
    case hy69 =>
      intro w' hS
      go_simp
      try with_reducible rfl
    try simp only [Act.put, List.setIfInBounds_toArray, List.set_cons_zero, List.set_cons_succ]
    refine' wpAnyH_take (i := 6) (v := _) (op_at rfl) (by kernel_rfl) (by kernel_rfl) (by kernel_rfl) (fun _ _ _ h => h) (Or.inl ⟨by rfl, ?hy70⟩) (by assumption) ?rest70
    case hy70 =>
      intro w' hS
      go_simp
      try with_reducible rfl
    try simp only [Act.put, List.setIfInBounds_toArray, List.set_cons_zero, List.set_cons_succ]
    refine' wpAnyH_take (i := 7) (v := _) (op_at rfl) (by kernel_rfl) (by kernel_rfl) (by kernel_rfl) (fun _ _ _ h => h) (Or.inl ⟨by rfl, ?hy71⟩) (by assumption) ?rest71
    case hy71 =>
      intro w' hS
      go_simp
      try with_reducible rfl
    try simp only [Act.put, List.setIfInBounds_toArray, List.set_cons_zero, List.set_cons_succ]
    refine' wpAnyH_take (i := 8) (v := _) (op_at rfl) (by kernel_rfl) (by kernel_rfl) (by kernel_rfl) (fun _ _ _ h => h) (Or.inl ⟨by rfl, ?hy72⟩) (by assumption) ?rest72
    case hy72 =>
      intro w' hS
      go_simp
      try with_reducible rfl
    try simp only [Act.put, List.setIfInBounds_toArray, List.set_cons_zero, List.set_cons_succ]
    refine' wpAnyH_take (i := 9) (v := _) (op_at rfl) (by kernel_rfl) (by kernel_rfl) (by kernel_rfl) (fun _ _ _ h => h) (Or.inl ⟨by rfl, ?hy73⟩) (by assumption) ?rest73
    case hy73 =>
      intro w' hS
      go_simp
      try with_reducible rfl
    try simp only [Act.put, List.setIfInBounds_toArray, List.set_cons_zero, List.set_cons_succ]
    refine' wpAnyH_take (i := 10) (v := _) (op_at rfl) (by kernel_rfl) (by kernel_rfl) (by kernel_rfl) (fun _ _ _ h => h) (Or.inl ⟨by rfl, ?hy74⟩) (by assumption) ?rest74
    case hy74 =>
      intro w' hS
      go_simp
      try with_reducible rfl
    try simp only [Act.put, List.setIfInBounds_toArray, List.set_cons_zero, List.set_cons_succ]
    refine' wpAnyH_take (i := 11) (v := _) (op_at rfl) (by kernel_rfl) (by kernel_rfl) (by kernel_rfl) (fun _ _ _ h => h) (Or.inl ⟨by rfl, ?hy75⟩) (by assumption) ?rest75
    case hy75 =>
      intro w' hS
      go_simp
      try with_reducible rfl
    try simp only [Act.put, List.setIfInBounds_toArray, List.set_cons_zero, List.set_cons_succ]
    refine' wpAnyH_take (i := 12) (v := _) (op_at rfl) (by kernel_rfl) (by kernel_rfl) (by kernel_rfl) (fun _ _ _ h => h) (Or.inl ⟨by rfl, ?hy76⟩) (by assumption) ?rest76
    case hy76 =>
      intro w' hS
      have q := cell_in ((p4.trans hS).at hbYV (by simp)) 3
      go_simp
      try with_reducible rfl
    try simp only [Act.put, List.setIfInBounds_toArray, List.set_cons_zero, List.set_cons_succ]
    refine' wpAnyH_take (i := 13) (v := _) (op_at rfl) (by kernel_rfl) (by kernel_rfl) (by kernel_rfl) (fun _ _ _ h => h) (Or.inl ⟨by rfl, ?hy77⟩) (by assumption) ?rest77
    case hy77 =>
      intro w' hS
      go_simp
      try with_reducible rfl
    try simp only [Act.put, List.setIfInBounds_toArray, List.set_cons_zero, List.set_cons_succ]
    refine' wpAnyH_take (i := 14) (v := _) (op_at rfl) (by kernel_rfl) (by kernel_rfl) (by kernel_rfl) (fun _ _ _ h => h) (Or.inl ⟨by rfl, ?hy78⟩) (by assumption) ?rest78
    case hy78 =>
      intro w' hS
      have q := cell_in ((p4.trans hS).at hbXV (by simp)) 3
      go_simp
      try with_reducible rfl
    try simp only [Act.put, List.setIfInBounds_toArray, List.set_cons_zero, List.set_cons_succ]
    refine' wpAnyH_take (i := 15) (v := _) (op_at rfl) (by kernel_rfl) (by kernel_rfl) (by kernel_rfl) (fun _ _ _ h => h) (Or.inl ⟨by rfl, ?hy79⟩) (by assumption) ?rest79
    case hy79 =>
      intro w' hS
      go_simp
      try with_reducible rfl
    try simp only [Act.put, List.setIfInBounds_toArray, List.set_cons_zero, List.set_cons_succ]
    refine' wpAnyH_take (i := 16) (v := _) (op_at rfl) (by kernel_rfl) (by kernel_rfl) (by kernel_rfl) (fun _ _ _ h => h) (Or.inl ⟨by rfl, ?hy80⟩) (by assumption) ?rest80
    case hy80 =>
      intro w' hS
      go_simp
      try with_reducible rfl
    try simp only [Act.put, List.setIfInBounds_toArray, List.set_cons_zero, List.set_cons_succ]
    refine' wpAnyH_take (i := 17) (v := _) (op_at rfl) (by kernel_rfl) (by kernel_rfl) (by kernel_rfl) (fun _ _ _ h => h) (Or.inl ⟨by rfl, ?hy81⟩) (by assumption) ?rest81
    case hy81 =>
      intro w' hS
      go_simp
      try with_reducible rfl
    try simp only [Act.put, List.setIfInBounds_toArray, List.set_cons_zero, List.set_cons_succ]
    refine' wpAnyH_take (i := 18) (v := _) (op_at rfl) (by kernel_rfl) (by kernel_rfl) (by kernel_rfl) (fun _ _ _ h => h) (Or.inl ⟨by rfl, ?hy82⟩) (by assumption) ?rest82
    case hy82 =>
      intro w' hS
      go_simp
      try with_reducible rfl
    try simp only [Act.put, List.setIfInBounds_toArray, List.set_cons_zero, List.set_cons_succ]
    refine' wpAnyH_take (i := 19) (v := _) (op_at rfl) (by kernel_rfl) (by kernel_rfl) (by kernel_rfl) (fun _ _ _ h => h) (Or.inl ⟨by rfl, ?hy83⟩) (by assumption) ?rest83
    case hy83 =>
      intro w' hS
      have q := cell_in ((p4.trans hS).at hbYV (by simp)) 4
      go_simp
      try with_reducible rfl
    try simp only [Act.put, List.setIfInBounds_toArray, List.set_cons_zero, List.set_cons_succ]
    refine' wpAnyH_take (i := 20) (v := _) (op_at rfl) (by kernel_rfl) (by kernel_rfl) (by kernel_rfl) (fun _ _ _ h => h) (Or.inl ⟨by rfl, ?hy84⟩) (by assumption) ?rest84
    case hy84 =>
      intro w' hS
      go_simp
      try with_reducible rfl
    try simp only [Act.put, List.setIfInBounds_toArray, List.set_cons_zero, List.set_cons_succ]
    refine' wpAnyH_take (i := 21) (v := _) (op_at rfl) (by kernel_rfl) (by kernel_rfl) (by kernel_rfl) (fun _ _ _ h => h) (Or.inl ⟨by rfl, ?hy85⟩) (by assumption) ?rest85
    case hy85 =>
      intro w' hS
      have q := cell_in ((p4.trans hS).at hbXV (by simp)) 4
      go_simp
      try with_reducible rfl
    try simp only [Act.put, List.setIfInBounds_toArray, List.set_cons_zero, List.set_cons_succ]
    refine' wpAnyH_take (i := 22) (v := _) (op_at rfl) (by kernel_rfl) (by kernel_rfl) (by kernel_rfl) (fun _ _ _ h => h) (Or.inl ⟨by rfl, ?hy86⟩) (by assumption) ?rest86
    case hy86 =>
      intro w' hS
      go_simp
      try with_reducible rfl
    try simp only [Act.put, List.setIfInBounds_toArray, List.set_cons_zero, List.set_cons_succ]
    refine' wpAnyH_take (i := 23) (v := _) (op_at rfl) (by kernel_rfl) (by kernel_rfl) (by kernel_rfl) (fun _ _ _ h => h) (Or.inl ⟨by rfl, ?hy87⟩) (by assumption) ?rest87
    case hy87 =>
      intro w' hS
      go_simp
      try with_reducible rfl
    try simp only [Act.put, List.setIfInBounds_toArray, List.set_cons_zero, List.set_cons_succ]
    refine' wpAnyH_take (i := 24) (v := _) (op_at rfl) (by kernel_rfl) (by kernel_rfl) (by kernel_rfl) (fun _ _ _ h => h) (Or.inl ⟨by rfl, ?hy88⟩) (by assumption) ?rest88
    case hy88 =>
      intro w' hS
      go_simp
      try with_reducible rfl
    try simp only [Act.put, List.setIfInBounds_toArray, List.set_cons_zero, List.set_cons_succ]
    refine' wpAnyH_take (i := 25) (v := _) (op_at rfl) (by kernel_rfl) (by kernel_rfl) (by kernel_rfl) (fun _ _ _ h => h) (Or.inl ⟨by rfl, ?hy89⟩) (by assumption) ?rest89
    case hy89 =>
      intro w' hS
      go_simp
      try with_reducible rfl
    try simp only [Act.put, List.setIfInBounds_toArray, List.set_cons_zero, List.set_cons_succ]
    refine' wpAnyH_take (i := 26) (v := _) (op_at rfl) (by kernel_rfl) (by kernel_rfl) (by kernel_rfl) (fun _ _ _ h => h) (Or.inl ⟨by rfl, ?hy90⟩) (by assumption) ?rest90
    case hy90 =>
      intro w' hS
      have q := cell_in ((p4.trans hS).at hbYV (by simp)) 5
      go_simp
      try with_reducible rfl
    try simp only [Act.put, List.setIfInBounds_toArray, List.set_cons_zero, List.set_cons_succ]
    refine' wpAnyH_take (i := 27) (v := _) (op_at rfl) (by kernel_rfl) (by kernel_rfl) (by kernel_rfl) (fun _ _ _ h => h) (Or.inl ⟨by rfl, ?hy91⟩) (by assumption) ?rest91
    case hy91 =>
      intro w' hS
      go_simp
      try with_reducible rfl
    try simp only [Act.put, List.setIfInBounds_toArray, List.set_cons_zero, List.set_cons_succ]
    refine' wpAnyH_take (i := 28) (v := _) (op_at rfl) (by kernel_rfl) (by kernel_rfl) (by kernel_rfl) (fun _ _ _ h => h) (Or.inl ⟨by rfl, ?hy92⟩) (by assumption) ?rest92
    case hy92 =>
      intro w' hS
      have q := cell_in ((p4.trans hS).at hbXV (by simp)) 5
      go_simp
      try with_reducible rfl
    try simp only [Act.put, List.setIfInBounds_toArray, List.set_cons_zero, List.set_cons_succ]
    refine' wpAnyH_take (i := 29) (v := _) (op_at rfl) (by kernel_rfl) (by kernel_rfl) (by kernel_rfl) (fun _ _ _ h => h) (Or.inl ⟨by rfl, ?hy93⟩) (by assumption) ?rest93
    case hy93 =>
      intro w' hS
      go_simp
      try with_reducible rfl
    try simp only [Act.put, List.setIfInBounds_toArray, List.set_cons_zero, List.set_cons_succ]
    refine' wpAnyH_take (i := 30) (v := _) (op_at rfl) (by kernel_rfl) (by kernel_rfl) (by kernel_rfl) (fun _ _ _ h => h) (Or.inl ⟨by rfl, ?hy94⟩) (by assumption) ?rest94
    case hy94 =>
      intro w' hS
      go_simp
      try with_reducible rfl
    try simp only [Act.put, List.setIfInBounds_toArray, List.set_cons_zero, List.set_cons_succ]
    refine' wpAnyH_take (i := 31) (v := _) (op_at rfl) (by kernel_rfl) (by kernel_rfl) (by kernel_rfl) (fun _ _ _ h => h) (Or.inl ⟨by rfl, ?hy95⟩) (by assumption) ?rest95
    case hy95 =>
      intro w' hS
      go_simp
      try with_reducible rfl
    try simp only [Act.put, List.setIfInBounds_toArray, List.set_cons_zero, List.set_cons_succ]
    refine' wpAnyH_take (i := 32) (v := _) (op_at rfl) (by kernel_rfl) (by kernel_rfl) (by kernel_rfl) (fun _ _ _ h => h) (Or.inl ⟨by rfl, ?hy96⟩) (by assumption) ?rest96
    case hy96 =>
      intro w' hS
      go_simp
      try with_reducible rfl
    try simp only [Act.put, List.setIfInBounds_toArray, List.set_cons_zero, List.set_cons_succ]
    refine' wpAnyH_take (i := 33) (v := _) (op_at rfl) (by kernel_rfl) (by kernel_rfl) (by kernel_rfl) (fun _ _ _ h => h) (Or.inl ⟨by rfl, ?hy97⟩) (by assumption) ?rest97
    case hy97 =>
      intro w' hS
      have q := cell_in ((p4.trans hS).at hbYV (by simp)) 2
      go_simp
      try with_reducible rfl
    try simp only [Act.put, List.setIfInBounds_toArray, List.set_cons_zero, List.set_cons_succ]
    refine' wpAnyH_take (i := 34) (v := _) (op_at rfl) (by kernel_rfl) (by kernel_rfl) (by kernel_rfl) (fun _ _ _ h => h) (Or.inl ⟨by rfl, ?hy98⟩) (by assumption) ?rest98
    case hy98 =>
      intro w' hS
      have hs := run_str (P := Try.prog) (w := w') (S := 22) (T := 9) Try.underlying22 Try.underlying5 Try.underlying9 (Rd.new hgV.gk.2.1 (p4.trans hS)) rfl
      go_simp
      try with_reducible rfl
    try simp only [Act.put, List.setIfInBounds_toArray, List.set_cons_zero, List.set_cons_succ]
    refine' wpAnyH_take (i := 35) (v := _) (op_at rfl) (by kernel_rfl) (by kernel_rfl) (by kernel_rfl) (fun _ _ _ h => h) (Or.inl ⟨by rfl, ?hy99⟩) (by assumption) ?rest99
    case hy99 =>
      intro w' hS
      go_simp
      try with_reducible rfl
    try simp only [Act.put, List.setIfInBounds_toArray, List.set_cons_zero, List.set_cons_succ]
    refine' wpAnyH_take (i := 36) (v := _) (op_at rfl) (by kernel_rfl) (by kernel_rfl) (by kernel_rfl) (fun _ _ _ h => h) (Or.inl ⟨by rfl, ?hy100⟩) (by assumption) ?rest100
    case hy100 =>
      intro w' hS
      have q := cell_in ((p4.trans hS).at hbXV (by simp)) 2
      go_simp
      try with_reducible rfl
    try simp only [Act.put, List.setIfInBounds_toArray, List.set_cons_zero, List.set_cons_succ]
    refine' wpAnyH_take (i := 37) (v := _) (op_at rfl) (by kernel_rfl) (by kernel_rfl) (by kernel_rfl) (fun _ _ _ h => h) (Or.inl ⟨by rfl, ?hy101⟩) (by assumption) ?rest101
    case hy101 =>
      intro w' hS
      have hs := run_str (P := Try.prog) (w := w') (S := 22) (T := 9) Try.underlying22 Try.underlying5 Try.underlying9 (Rd.new kgk (p4.trans hS)) rfl
      go_simp
      try with_reducible rfl
    try simp only [Act.put, List.setIfInBounds_toArray, List.set_cons_zero, List.set_cons_succ]
    refine' wpAnyH_take (i := 38) (v := _) (op_at rfl) (by kernel_rfl) (by kernel_rfl) (by kernel_rfl) (fun _ _ _ h => h) (Or.inl ⟨by rfl, ?hy102⟩) (by assumption) ?rest102
    case hy102 =>
      intro w' hS
      go_simp
      try with_reducible rfl
    try simp only [Act.put, List.setIfInBounds_toArray, List.set_cons_zero, List.set_cons_succ]
    refine' wpAnyH_take (i := 39) (v := _) (op_at rfl) (by kernel_rfl) (by kernel_rfl) (by kernel_rfl) (fun _ _ _ h => h) (Or.inl ⟨by rfl, ?hy103⟩) (by assumption) ?rest103
    case hy103 =>
      intro w' hS
      go_simp
      try with_reducible rfl
    try simp only [Act.put, List.setIfInBounds_toArray, List.set_cons_zero, List.set_cons_succ]
    refine' wpAnyH_take (i := 40) (v := _) (op_at rfl) (by kernel_rfl) (by kernel_rfl) (by kernel_rfl) (fun _ _ _ h => h) (Or.inl ⟨by rfl, ?hy104⟩) (by assumption) ?rest104
    case hy104 =>
      intro w' hS
      go_simp
      try with_reducible rfl
    try simp only [Act.put, List.setIfInBounds_toArray, List.set_cons_zero, List.set_cons_succ]
    refine' wpAnyH_take (i := 41) (v := _) (op_at rfl) (by kernel_rfl) (by kernel_rfl) (by kernel_rfl) (fun _ _ _ h => h) (Or.inl ⟨by rfl, ?hy105⟩) (by assumption) ?rest105
    case hy105 =>
      intro w' hS
      go_simp
      try with_reducible rfl
    try simp only [Act.put, List.setIfInBounds_toArray, List.set_cons_zero, List.set_cons_succ]
    refine' wpAnyH_take (i := 42) (v := _) (op_at rfl) (by kernel_rfl) (by kernel_rfl) (by kernel_rfl) (fun _ _ _ h => h) (Or.inl ⟨by rfl, ?hy106⟩) (by assumption) ?rest106
    case hy106 =>
      intro w' hS
      go_simp
      try with_reducible rfl
    try simp only [Act.put, List.setIfInBounds_toArray, List.set_cons_zero, List.set_cons_succ]
    refine' wpAnyH_take (i := 43) (v := _) (op_at rfl) (by kernel_rfl) (by kernel_rfl) (by kernel_rfl) (fun _ _ _ h => h) (Or.inl ⟨by rfl, ?hy107⟩) (by assumption) ?rest107
    case hy107 =>
      intro w' hS
      have q := cell_in ((p4.trans hS).at hbYV (by simp)) 0
      go_simp
      try with_reducible rfl
    try simp only [Act.put, List.setIfInBounds_toArray, List.set_cons_zero, List.set_cons_succ]
    refine' wpAnyH_take (i := 44) (v := _) (op_at rfl) (by kernel_rfl) (by kernel_rfl) (by kernel_rfl) (fun _ _ _ h => h) (Or.inl ⟨by rfl, ?hy108⟩) (by assumption) ?rest108
    case hy108 =>
      intro w' hS
      have hs := run_str (P := Try.prog) (w := w') (S := 22) (T := 9) Try.underlying22 Try.underlying5 Try.underlying9 (Rd.new hgV.ga.2.1 (p4.trans hS)) rfl
      go_simp
      try with_reducible rfl
    try simp only [Act.put, List.setIfInBounds_toArray, List.set_cons_zero, List.set_cons_succ]
    refine' wpAnyH_take (i := 45) (v := _) (op_at rfl) (by kernel_rfl) (by kernel_rfl) (by kernel_rfl) (fun _ _ _ h => h) (Or.inl ⟨by rfl, ?hy109⟩) (by assumption) ?rest109
    case hy109 =>
      intro w' hS
      go_simp
      try with_reducible rfl
    try simp only [Act.put, List.setIfInBounds_toArray, List.set_cons_zero, List.set_cons_succ]
    refine' wpAnyH_take (i := 46) (v := _) (op_at rfl) (by kernel_rfl) (by kernel_rfl) (by kernel_rfl) (fun _ _ _ h => h) (Or.inl ⟨by rfl, ?hy110⟩) (by assumption) ?rest110
    case hy110 =>
      intro w' hS
      go_simp
      try with_reducible rfl
    try simp only [Act.put, List.setIfInBounds_toArray, List.set_cons_zero, List.set_cons_succ]
    refine' wpAnyH_take (i := 47) (v := _) (op_at rfl) (by kernel_rfl) (by kernel_rfl) (by kernel_rfl) (fun _ _ _ h => h) (Or.inl ⟨by rfl, ?hy111⟩) (by assumption) ?rest111
    case hy111 =>
      intro w' hS
      have q := cell_in ((p4.trans hS).at hbXV (by simp)) 0
      go_simp
      try with_reducible rfl
    try simp only [Act.put, List.setIfInBounds_toArray, List.set_cons_zero, List.set_cons_succ]
    refine' wpAnyH_take (i := 48) (v := _) (op_at rfl) (by kernel_rfl) (by kernel_rfl) (by kernel_rfl) (fun _ _ _ h => h) (Or.inl ⟨by rfl, ?hy112⟩) (by assumption) ?rest112
    case hy112 =>
      intro w' hS
      have hs := run_str (P := Try.prog) (w := w') (S := 22) (T := 9) Try.underlying22 Try.underlying5 Try.underlying9 (Rd.new kga (p4.trans hS)) rfl
      go_simp
      try with_reducible rfl
    try simp only [Act.put, List.setIfInBounds_toArray, List.set_cons_zero, List.set_cons_succ]
    refine' wpAnyH_take (i := 49) (v := _) (op_at rfl) (by kernel_rfl) (by kernel_rfl) (by kernel_rfl) (fun _ _ _ h => h) (Or.inl ⟨by rfl, ?hy113⟩) (by assumption) ?rest113
    case hy113 =>
      intro w' hS
      go_simp
      try with_reducible rfl
    try simp only [Act.put, List.setIfInBounds_toArray, List.set_cons_zero, List.set_cons_succ]
    refine' wpAnyH_take (i := 50) (v := _) (op_at rfl) (by kernel_rfl) (by kernel_rfl) (by kernel_rfl) (fun _ _ _ h => h) (Or.inl ⟨by rfl, ?hy114⟩) (by assumption) ?rest114
    case hy114 =>
      intro w' hS
      go_simp
      try with_reducible rfl
    try simp only [Act.put, List.setIfInBounds_toArray, List.set_cons_zero, List.set_cons_succ]
    refine' wpAnyH_take (i := 51) (v := _) (op_at rfl) (by kernel_rfl) (by kernel_rfl) (by kernel_rfl) (fun _ _ _ h => h) (Or.inl ⟨by rfl, ?hy115⟩) (by assumption) ?rest115
    case hy115 =>
      intro w' hS
      go_simp
      try with_reducible rfl
    try simp only [Act.put, List.setIfInBounds_toArray, List.set_cons_zero, List.set_cons_succ]
    refine' wpAnyH_take (i := 52) (v := _) (op_at rfl) (by kernel_rfl) (by kernel_rfl) (by kernel_rfl) (fun _ _ _ h => h) (Or.inl ⟨by rfl, ?hy116⟩) (by assumption) ?rest116
    case hy116 =>
      intro w' hS
      go_simp
      try with_reducible rfl
    try simp only [Act.put, List.setIfInBounds_toArray, List.set_cons_zero, List.set_cons_succ]
    refine' wpAnyH_take (i := 53) (v := _) (op_at rfl) (by kernel_rfl) (by kernel_rfl) (by kernel_rfl) (fun _ _ _ h => h) (Or.inl ⟨by rfl, ?hy117⟩) (by assumption) ?rest117
    case hy117 =>
      intro w' hS
      go_simp
      try with_reducible rfl
    try simp only [Act.put, List.setIfInBounds_toArray, List.set_cons_zero, List.set_cons_succ]
    refine' wpAnyH_take (i := 54) (v := _) (op_at rfl) (by kernel_rfl) (by kernel_rfl) (by kernel_rfl) (fun _ _ _ h => h) (Or.inl ⟨by rfl, ?hy118⟩) (by assumption) ?rest118
    case hy118 =>
      intro w' hS
      have q := cell_in ((p4.trans hS).at hbYV (by simp)) 1
      go_simp
      try with_reducible rfl
    try simp only [Act.put, List.setIfInBounds_toArray, List.set_cons_zero, List.set_cons_succ]
    refine' wpAnyH_take (i := 55) (v := _) (op_at rfl) (by kernel_rfl) (by kernel_rfl) (by kernel_rfl) (fun _ _ _ h => h) (Or.inl ⟨by rfl, ?hy119⟩) (by assumption) ?rest119
    case hy119 =>
      intro w' hS
      have hs := run_str (P := Try.prog) (w := w') (S := 22) (T := 9) Try.underlying22 Try.underlying5 Try.underlying9 (Rd.new hgV.gs.2.1 (p4.trans hS)) rfl
      go_simp
      try with_reducible rfl
    try simp only [Act.put, List.setIfInBounds_toArray, List.set_cons_zero, List.set_cons_succ]
    refine' wpAnyH_take (i := 56) (v := _) (op_at rfl) (by kernel_rfl) (by kernel_rfl) (by kernel_rfl) (fun _ _ _ h => h) (Or.inl ⟨by rfl, ?hy120⟩) (by assumption) ?rest120
    case hy120 =>
      intro w' hS
      go_simp
      try with_reducible rfl
    try simp only [Act.put, List.setIfInBounds_toArray, List.set_cons_zero, List.set_cons_succ]
    refine' wpAnyH_take (i := 57) (v := _) (op_at rfl) (by kernel_rfl) (by kernel_rfl) (by kernel_rfl) (fun _ _ _ h => h) (Or.inl ⟨by rfl, ?hy121⟩) (by assumption) ?rest121
    case hy121 =>
      intro w' hS
      go_simp
      try with_reducible rfl
    try simp only [Act.put, List.setIfInBounds_toArray, List.set_cons_zero, List.set_cons_succ]
    refine' wpAnyH_take (i := 58) (v := _) (op_at rfl) (by kernel_rfl) (by kernel_rfl) (by kernel_rfl) (fun _ _ _ h => h) (Or.inl ⟨by rfl, ?hy122⟩) (by assumption) ?rest122
    case hy122 =>
      intro w' hS
      have q := cell_in ((p4.trans hS).at hbXV (by simp)) 1
      go_simp
      try with_reducible rfl
    try simp only [Act.put, List.setIfInBounds_toArray, List.set_cons_zero, List.set_cons_succ]
    refine' wpAnyH_take (i := 59) (v := _) (op_at rfl) (by kernel_rfl) (by kernel_rfl) (by kernel_rfl) (fun _ _ _ h => h) (Or.inl ⟨by rfl, ?hy123⟩) (by assumption) ?rest123
    case hy123 =>
      intro w' hS
      have hs := run_str (P := Try.prog) (w := w') (S := 22) (T := 9) Try.underlying22 Try.underlying5 Try.underlying9 (Rd.new kgs (p4.trans hS)) rfl
      go_simp
      try with_reducible rfl
    try simp only [Act.put, List.setIfInBounds_toArray, List.set_cons_zero, List.set_cons_succ]
    refine' wpAnyH_take (i := 60) (v := _) (op_at rfl) (by kernel_rfl) (by kernel_rfl) (by kernel_rfl) (fun _ _ _ h => h) (Or.inl ⟨by rfl, ?hy124⟩) (by assumption) ?rest124
    case hy124 =>
      intro w' hS
      go_simp
      try with_reducible rfl
    try simp only [Act.put, List.setIfInBounds_toArray, List.set_cons_zero, List.set_cons_succ]
    refine' wpAnyH_take (i := 61) (v := _) (op_at rfl) (by kernel_rfl) (by kernel_rfl) (by kernel_rfl) (fun _ _ _ h => h) (Or.inl ⟨by rfl, ?hy125⟩) (by assumption) ?rest125
    case hy125 =>
      intro w' hS
      go_simp
      try with_reducible rfl
    try simp only [Act.put, List.setIfInBounds_toArray, List.set_cons_zero, List.set_cons_succ]
    refine' wpAnyH_take (i := 62) (v := _) (op_at rfl) (by kernel_rfl) (by kernel_rfl) (by kernel_rfl) (fun _ _ _ h => h) (Or.inl ⟨by rfl, ?hy126⟩) (by assumption) ?rest126
    case hy126 =>
      intro w' hS
      go_simp
      try with_reducible rfl
    try simp only [Act.put, List.setIfInBounds_toArray, List.set_cons_zero, List.set_cons_succ]
    refine' wpAnyH_take (i := 63) (v := _) (op_at rfl) (by kernel_rfl) (by kernel_rfl) (by kernel_rfl) (fun _ _ _ h => h) (Or.inl ⟨by rfl, ?hy127⟩) (by assumption) ?rest127
    case hy127 =>
      intro w' hS
      go_simp
      try with_reducible rfl
    try simp only [Act.put, List.setIfInBounds_toArray, List.set_cons_zero, List.set_cons_succ]
    refine' wpAnyH_take (i := 64) (v := _) (op_at rfl) (by kernel_rfl) (by kernel_rfl) (by kernel_rfl) (fun _ _ _ h => h) (Or.inl ⟨by rfl, ?hy128⟩) (by assumption) ?rest128
    case hy128 =>
      intro w' hS
      go_simp
      try with_reducible rfl
    try simp only [Act.put, List.setIfInBounds_toArray, List.set_cons_zero, List.set_cons_succ]
    refine' wpAnyH_take (i := 65) (v := _) (op_at rfl) (by kernel_rfl) (by kernel_rfl) (by kernel_rfl) (fun _ _ _ h => h) (Or.inl ⟨by rfl, ?hy129⟩) (by assumption) ?rest129
    case hy129 =>
      intro w' hS
      go_simp
      try with_reducible rfl
    try simp only [Act.put, List.setIfInBounds_toArray, List.set_cons_zero, List.set_cons_succ]
    refine' wpAnyH_take (i := 66) (v := _) (op_at rfl) (by kernel_rfl) (by kernel_rfl) (by kernel_rfl) (fun _ _ _ h => h) (Or.inl ⟨by rfl, ?hy130⟩) (by assumption) ?rest130
    case hy130 =>
      intro w' hS
      go_simp
      try with_reducible rfl
    try simp only [Act.put, List.setIfInBounds_toArray, List.set_cons_zero, List.set_cons_succ]
    refine wpAnyH_done (by kernel_rfl) ?_ _
    go_wp2_with fail
    go_ret
    exact ⟨rfl, (oVV.trans p4).below (Nat.le_refl _) (by simp)⟩

theorem envelopeHellos_holds : Rows.EnvelopeHellosSaid := envelopeHellos.said fun H enc base W v0 d0 p0 h0 t0 z0 => by
  obtain ⟨_, _, _, _, _, _, rfl, ⟨aa, ca, ags, rfl, ga, ba, la⟩, ⟨az, cz, sgs, rfl, gs, bs, ls⟩, ⟨ak, ck, ks, rfl, gk, bk, lk⟩, ⟨sg, rfl, usg⟩, ⟨has, rfl⟩, ⟨on, rfl, uon⟩⟩ := open_hello h0 t0 z0
  cases has
  · exact hellos_n sg on ags sgs ks aa az ak ca cz ck W ga gs gk ba bs bk usg uon la ls lk
  · exact hellos_y sg on ags sgs ks aa az ak ca cz ck W ga gs gk ba bs bk usg uon la ls lk
end Go.Proofs.Ytemlpjfngaemdaa
