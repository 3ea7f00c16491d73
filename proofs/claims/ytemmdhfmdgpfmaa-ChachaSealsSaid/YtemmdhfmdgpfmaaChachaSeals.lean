/- ChachaSeals returns true for every key, nonce and bytes: what is sealed is the document's, and is opened again. No condition. -/
import Derived.Test.YtemmdhfmdgpfmaaAwk5
import Derived.Test.YtemmdhfmdgpfmaaRSeal
import Derived.Test.YtemmdhfmdgpfmaaOpenS
import Derived.Test.YtemmdhfmdgpfmaaSChachaSeals
namespace Go.Proofs.Ytemmdhfmdgpfmaa
open Go.RowKit Go.Pw
set_option linter.unusedVariables false

theorem cells_u8' : Try.prog.cellsOf 5 = 1 := by kernel_rfl

theorem seal_take (ks ns ws xs : List Int) : (sealL ks ns ws xs).take xs.length = streamL ks 1 ns xs ∧ (sealL ks ns ws xs).drop xs.length = tagM ks ns ws (streamL ks 1 ns xs) := by
  have hl := stream_len ks 1 ns xs
  constructor
  · rw [sealL, List.take_append_of_le_length (by omega), List.take_of_length_le (by omega)]
  · rw [sealL, ← hl, List.drop_left]
theorem open_seal {ks ns ws xs : List Int} (h : ∀ x ∈ xs, 0 ≤ x ∧ x < 256) : openB ks ns ws (sealL ks ns ws xs) = true ∧ openL ks ns ws (sealL ks ns ws xs) = xs := by
  have hb : openB ks ns ws (sealL ks ns ws xs) = true := by
    unfold openB
    rw [sealL_len, Nat.add_sub_cancel, (seal_take ks ns ws xs).1, (seal_take ks ns ws xs).2]
    simp
  refine ⟨hb, ?_⟩
  unfold openL
  rw [hb, if_pos rfl, sealL_len, Nat.add_sub_cancel, (seal_take ks ns ws xs).1]
  exact stream_twice h

set_option maxRecDepth 100000 in
set_option maxHeartbeats 3200000 in
theorem law_walk (ak an aw ap : Option Addr) (ck cn cw cp : Nat) (ks ns ws xs : List Int) (w : World) (hk : Pw.Src w (.slice ak ks.length ck) 1 ks.length (ks.map (Value.int .u8))) (hkb : ∀ x ∈ ks, 0 ≤ x ∧ x < 256)
    (hn : Pw.Src w (.slice an ns.length cn) 1 ns.length (ns.map (Value.int .u8))) (hnb : ∀ x ∈ ns, 0 ≤ x ∧ x < 256) (hw : Pw.Src w (.slice aw ws.length cw) 1 ws.length (ws.map (Value.int .u8))) (hwb : ∀ x ∈ ws, 0 ≤ x ∧ x < 256)
    (hp : Pw.Src w (.slice ap xs.length cp) 1 xs.length (xs.map (Value.int .u8))) (hxb : ∀ x ∈ xs, 0 ≤ x ∧ x < 256) :
    Calls Try.prog 7 #[.slice ak ks.length ck, .slice an ns.length cn, .slice aw ws.length cw, .slice ap xs.length cp] w fun e w' => e = .returned (.bool true) ∧ Below w.heap.size w w' := by
  obtain ⟨inf, hi0, hz0, hz1, hz2⟩ := info_parts Try.info5
  have hbel : ∀ w', Only w w' [] → Below w.heap.size w w' := fun w' h => h.below (Nat.le_refl _) (by simp)
  by_cases hl : 100 < ks.length ∨ 100 < ns.length ∨ 500 < ws.length ∨ 500 < xs.length
  · go_enter Try.func7, Try.ntmps7
    go_wp2_with fail
    refine (awake5 _).mono ?_
    rintro e w1 ⟨rfl, h1⟩
    by_cases hl0 : 100 < ks.length
    · have d0 : decide ((100 : Int) < ks.length) = true := by simp; omega
      go_wp2_with fail
      refine (awake5 _).mono ?_
      rintro e w2 ⟨rfl, h2⟩
      go_wp2_with fail
      go_ret
      exact ⟨rfl, hbel _ (h1.trans h2)⟩
    · have d0 : decide ((100 : Int) < ks.length) = false := by simp; omega
      by_cases hl1 : 100 < ns.length
      · have d1 : decide ((100 : Int) < ns.length) = true := by simp; omega
        go_wp2_with fail
        refine (awake5 _).mono ?_
        rintro e w2 ⟨rfl, h2⟩
        go_wp2_with fail
        go_ret
        exact ⟨rfl, hbel _ (h1.trans h2)⟩
      · have d1 : decide ((100 : Int) < ns.length) = false := by simp; omega
        by_cases hl2 : 500 < ws.length
        · have d2 : decide ((500 : Int) < ws.length) = true := by simp; omega
          go_wp2_with fail
          refine (awake5 _).mono ?_
          rintro e w2 ⟨rfl, h2⟩
          go_wp2_with fail
          go_ret
          exact ⟨rfl, hbel _ (h1.trans h2)⟩
        · have d2 : decide ((500 : Int) < ws.length) = false := by simp; omega
          have d3 : decide ((500 : Int) < xs.length) = true := by simp; omega
          go_wp2_with fail
          refine (awake5 _).mono ?_
          rintro e w2 ⟨rfl, h2⟩
          go_wp2_with fail
          go_ret
          exact ⟨rfl, hbel _ (h1.trans h2)⟩
  · have d1 : decide ((100 : Int) < ks.length) = false := by simp; omega
    have d2 : decide ((100 : Int) < ns.length) = false := by simp; omega
    have d3 : decide ((500 : Int) < ws.length) = false := by simp; omega
    have d4 : decide ((500 : Int) < xs.length) = false := by simp; omega
    have hwl : ws.length ≤ 10000 := by omega
    have hxl : xs.length ≤ 500 := by omega
    go_enter Try.func7, Try.ntmps7
    go_wp2_with fail
    refine (awake5 _).mono ?_
    rintro e w1 ⟨rfl, h1⟩
    go_wp2_with fail
    refine (cseal_any _ _ _ aw cw ks ns ws xs _ (hk.off h1 (fun _ _ _ => by simp)) hkb (hn.off h1 (fun _ _ _ => by simp)) hnb (hw.off h1 (fun _ _ _ => by simp)) hwb (hp.off h1 (fun _ _ _ => by simp)) hxb hwl (by omega)).mono ?_
    rintro e w2 hq
    obtain ⟨ys, a2, c2, Hys, rfl, o2, g2, t2⟩ := hq.str
    have hyl : Hid (ys.length ≤ 10000) := by show _ ≤ _; rw [Hys.out, sealL_len]; omega
    have hyb : Hid (∀ x ∈ ys, 0 ≤ x ∧ x < 256) := by show ∀ _, _; rw [Hys.out]; exact sealL_byt hxb
    have hoB : openB ks ns ws ys = true := by rw [Hys.out]; exact (open_seal hxb).1
    have hoL : openL ks ns ws ys = xs := by rw [Hys.out]; exact (open_seal hxb).2
    have hoB := Lib.hid hoB
    have hoL := Lib.hid hoL
    have h2 := h1.trans o2
    have hys := Lib.hid (own_src g2)
    clear hq
    go_wp2_with fail
    refine (copen_any _ _ aw a2 cw c2 ks ns ws ys _ (hk.off h2 (fun _ _ _ => by simp)) hkb (hn.off h2 (fun _ _ _ => by simp)) hnb (hw.off h2 (fun _ _ _ => by simp)) hwb hys.out hyb.out hwl hyl.out).mono ?_
    rintro e w3 ⟨o3, a3, c3, rfl, hU⟩
    rw [hoL.out] at hU
    rw [hoL.out, hoB.out]
    have hU := Lib.hid hU.drew
    go_upto_region 5 with fail
    have h3d := (h2.trans o3).trans (Only.drew w3 [])
    have hk1 := Lib.hid (hk.off h3d (fun _ _ _ => by simp))
    have hn1 := Lib.hid (hn.off h3d (fun _ _ _ => by simp))
    have hw1 := Lib.hid (hw.off h3d (fun _ _ _ => by simp))
    have hp1 := Lib.hid (hp.off h3d (fun _ _ _ => by simp))
    refine wp_region_held_drew (S := fun w' => Only w3.drew w' []) (by kernel_rfl) (Only.refl _ _) (fun hHeld => ?_)
    refine' wpAnyH_take (i := 0) (v := _) (op_at rfl) (by kernel_rfl) (by kernel_rfl) (by kernel_rfl) (fun _ _ _ h => h) (Or.inl ⟨by rfl, ?hy1⟩) (by assumption) ?rest1
    case hy1 =>
      intro w' hS
      go_simp
      try with_reducible rfl
    try simp only [Act.put, List.setIfInBounds_toArray, List.set_cons_zero, List.set_cons_succ]
    refine' wpAnyH_take (i := 1) (v := _) (op_at rfl) (by kernel_rfl) (by kernel_rfl) (by kernel_rfl) (fun _ _ _ h => h) (Or.inl ⟨by rfl, ?hy2⟩) (by assumption) ?rest2
    case hy2 =>
      intro w' hS
      have hs_ := t2 w' ((o3.trans (Only.drew w3 [])).trans hS)
      go_simp
      try with_reducible rfl
    try simp only [Act.put, List.setIfInBounds_toArray, List.set_cons_zero, List.set_cons_succ]
    refine' wpAnyH_take (i := 2) (v := _) (op_at rfl) (by kernel_rfl) (by kernel_rfl) (by kernel_rfl) (fun _ _ _ h => h) (Or.inl ⟨by rfl, ?hy3⟩) (by assumption) ?rest3
    case hy3 =>
      intro w' hS
      go_simp
      try with_reducible rfl
    try simp only [Act.put, List.setIfInBounds_toArray, List.set_cons_zero, List.set_cons_succ]
    refine' wpAnyH_take (i := 3) (v := _) (op_at rfl) (by kernel_rfl) (by kernel_rfl) (by kernel_rfl) (fun _ _ _ h => h) (Or.inl ⟨by rfl, ?hy4⟩) (by assumption) ?rest4
    case hy4 =>
      intro w' hS
      go_simp
      try with_reducible rfl
    try simp only [Act.put, List.setIfInBounds_toArray, List.set_cons_zero, List.set_cons_succ]
    refine' wpAnyH_take (i := 4) (v := _) (op_at rfl) (by kernel_rfl) (by kernel_rfl) (by kernel_rfl) (fun _ _ _ h => h) (Or.inl ⟨by rfl, ?hy5⟩) (by assumption) ?rest5
    case hy5 =>
      intro w' hS
      go_simp
      try with_reducible rfl
    try simp only [Act.put, List.setIfInBounds_toArray, List.set_cons_zero, List.set_cons_succ]
    refine' wpAnyH_take (i := 5) (v := _) (op_at rfl) (by kernel_rfl) (by kernel_rfl) (by kernel_rfl) (fun _ _ _ h => h) (Or.inl ⟨by rfl, ?hy6⟩) (by assumption) ?rest6
    case hy6 =>
      intro w' hS
      go_simp
      try with_reducible rfl
    try simp only [Act.put, List.setIfInBounds_toArray, List.set_cons_zero, List.set_cons_succ]
    refine wpAnyH_ready (rs := [6]) (by kernel_rfl) (by simp) (AllReadyH.cons (op_at rfl) (fun K hK => ?_) AllReadyH.nil)
    go_simp
    refine (rseal_any _ _ _ aw cw ks ns ws xs _ hk1.out hkb hn1.out hnb hw1.out hwb hp1.out hxb hwl (by omega)).mono fun e w4 hq => ?_
    obtain ⟨zs, a4, c4, Hzs, rfl, o4, g4, t4⟩ := hq.str
    clear hq
    go_wp2_with fail
    refine hK.out _ _ (o4) (fun hHeld => ?_)
    clear hK K
    try simp only [Act.put, List.setIfInBounds_toArray, List.set_cons_zero, List.set_cons_succ]
    refine wpAnyH_more (S' := fun w' => Only w4 w' []) (fun w' h => Only.trans o4 h) _ _ _ _ ?_
    clear hHeld
    have hHeld : Only w4 w4 [] := Only.refl _ _
    obtain rfl : zs = ys := Hzs.out.trans Hys.out.symm
    have hU := Lib.hid (Pw.Src.off hU.out o4 (fun _ _ _ => by simp))
    have hp1 := Lib.hid (Pw.Src.off hp1.out o4 (fun _ _ _ => by simp))
    refine' wpAnyH_take (i := 7) (v := _) (op_at rfl) (by kernel_rfl) (by kernel_rfl) (by kernel_rfl) (fun _ _ _ h => h) (Or.inl ⟨by rfl, ?hy7⟩) (by assumption) ?rest7
    case hy7 =>
      intro w' hS
      have hs_ := t4 w' hS
      go_simp
      try with_reducible rfl
    try simp only [Act.put, List.setIfInBounds_toArray, List.set_cons_zero, List.set_cons_succ]
    refine' wpAnyH_take (i := 8) (v := _) (op_at rfl) (by kernel_rfl) (by kernel_rfl) (by kernel_rfl) (fun _ _ _ h => h) (Or.inl ⟨by rfl, ?hy8⟩) (by assumption) ?rest8
    case hy8 =>
      intro w' hS
      go_simp
      try with_reducible rfl
    try simp only [Act.put, List.setIfInBounds_toArray, List.set_cons_zero, List.set_cons_succ]
    refine' wpAnyH_take (i := 9) (v := _) (op_at rfl) (by kernel_rfl) (by kernel_rfl) (by kernel_rfl) (fun _ _ _ h => h) (Or.inl ⟨by rfl, ?hy9⟩) (by assumption) ?rest9
    case hy9 =>
      intro w' hS
      go_simp
      try with_reducible rfl
    try simp only [Act.put, List.setIfInBounds_toArray, List.set_cons_zero, List.set_cons_succ]
    refine' wpAnyH_take (i := 10) (v := _) (op_at rfl) (by kernel_rfl) (by kernel_rfl) (by kernel_rfl) (fun _ _ _ h => h) (Or.inl ⟨by rfl, ?hy10⟩) (by assumption) ?rest10
    case hy10 =>
      intro w' hS
      go_simp
      try with_reducible rfl
    try simp only [Act.put, List.setIfInBounds_toArray, List.set_cons_zero, List.set_cons_succ]
    refine' wpAnyH_take (i := 11) (v := _) (op_at rfl) (by kernel_rfl) (by kernel_rfl) (by kernel_rfl) (fun _ _ _ h => h) (Or.inl ⟨by rfl, ?hy11⟩) (by assumption) ?rest11
    case hy11 =>
      intro w' hS
      go_simp
      try with_reducible rfl
    try simp only [Act.put, List.setIfInBounds_toArray, List.set_cons_zero, List.set_cons_succ]
    refine' wpAnyH_take (i := 12) (v := _) (op_at rfl) (by kernel_rfl) (by kernel_rfl) (by kernel_rfl) (fun _ _ _ h => h) (Or.inl ⟨by rfl, ?hy12⟩) (by assumption) ?rest12
    case hy12 =>
      intro w' hS
      go_simp
      try with_reducible rfl
    try simp only [Act.put, List.setIfInBounds_toArray, List.set_cons_zero, List.set_cons_succ]
    refine' wpAnyH_take (i := 13) (v := _) (op_at rfl) (by kernel_rfl) (by kernel_rfl) (by kernel_rfl) (fun _ _ _ h => h) (Or.inl ⟨by rfl, ?hy13⟩) (by assumption) ?rest13
    case hy13 =>
      intro w' hS
      go_simp
      try with_reducible rfl
    try simp only [Act.put, List.setIfInBounds_toArray, List.set_cons_zero, List.set_cons_succ]
    refine' wpAnyH_take (i := 14) (v := _) (op_at rfl) (by kernel_rfl) (by kernel_rfl) (by kernel_rfl) (fun _ _ _ h => h) (Or.inl ⟨by rfl, ?hy14⟩) (by assumption) ?rest14
    case hy14 =>
      intro w' hS
      have hs_ := run_str (P := Try.prog) (w := w') (S := 22) (T := 9) Try.underlying22 Try.underlying5 Try.underlying9 (Pw.Src.off hU.out hS (fun _ _ _ => by simp)) rfl
      go_simp
      try with_reducible rfl
    try simp only [Act.put, List.setIfInBounds_toArray, List.set_cons_zero, List.set_cons_succ]
    refine' wpAnyH_take (i := 15) (v := _) (op_at rfl) (by kernel_rfl) (by kernel_rfl) (by kernel_rfl) (fun _ _ _ h => h) (Or.inl ⟨by rfl, ?hy15⟩) (by assumption) ?rest15
    case hy15 =>
      intro w' hS
      go_simp
      try with_reducible rfl
    try simp only [Act.put, List.setIfInBounds_toArray, List.set_cons_zero, List.set_cons_succ]
    refine' wpAnyH_take (i := 16) (v := _) (op_at rfl) (by kernel_rfl) (by kernel_rfl) (by kernel_rfl) (fun _ _ _ h => h) (Or.inl ⟨by rfl, ?hy16⟩) (by assumption) ?rest16
    case hy16 =>
      intro w' hS
      have hs_ := run_str (P := Try.prog) (w := w') (S := 22) (T := 9) Try.underlying22 Try.underlying5 Try.underlying9 (Pw.Src.off hp1.out hS (fun _ _ _ => by simp)) rfl
      go_simp
      try with_reducible rfl
    try simp only [Act.put, List.setIfInBounds_toArray, List.set_cons_zero, List.set_cons_succ]
    refine' wpAnyH_take (i := 17) (v := _) (op_at rfl) (by kernel_rfl) (by kernel_rfl) (by kernel_rfl) (fun _ _ _ h => h) (Or.inl ⟨by rfl, ?hy17⟩) (by assumption) ?rest17
    case hy17 =>
      intro w' hS
      go_simp
      try with_reducible rfl
    try simp only [Act.put, List.setIfInBounds_toArray, List.set_cons_zero, List.set_cons_succ]
    refine' wpAnyH_take (i := 18) (v := _) (op_at rfl) (by kernel_rfl) (by kernel_rfl) (by kernel_rfl) (fun _ _ _ h => h) (Or.inl ⟨by rfl, ?hy18⟩) (by assumption) ?rest18
    case hy18 =>
      intro w' hS
      go_simp
      try with_reducible rfl
    try simp only [Act.put, List.setIfInBounds_toArray, List.set_cons_zero, List.set_cons_succ]
    refine' wpAnyH_take (i := 19) (v := _) (op_at rfl) (by kernel_rfl) (by kernel_rfl) (by kernel_rfl) (fun _ _ _ h => h) (Or.inl ⟨by rfl, ?hy19⟩) (by assumption) ?rest19
    case hy19 =>
      intro w' hS
      go_simp
      try with_reducible rfl
    try simp only [Act.put, List.setIfInBounds_toArray, List.set_cons_zero, List.set_cons_succ]
    refine wpAnyH_done (by kernel_rfl) ?_ _
    go_wp2_with fail
    go_ret
    exact ⟨rfl, hbel _ (h3d.trans o4)⟩

theorem chachaSeals_holds : Rows.ChachaSealsSaid := chachaSeals.said fun H enc base W v0 v1 v2 v3 d0 p0 d1 p1 d2 p2 d3 p3 h0 t0 h1 t1 h2 t2 h3 t3 => by
  obtain ⟨ak, ck, ks, rfl, hk, hkb⟩ := open_bytes Try.underlying22 Try.underlying5 cells_u8' h0 t0
  obtain ⟨an, cn, ns, rfl, hn, hnb⟩ := open_bytes Try.underlying22 Try.underlying5 cells_u8' h1 t1
  obtain ⟨aw, cw, ws, rfl, hw, hwb⟩ := open_bytes Try.underlying22 Try.underlying5 cells_u8' h2 t2
  obtain ⟨ap, cp, xs, rfl, hp, hxb⟩ := open_bytes Try.underlying22 Try.underlying5 cells_u8' h3 t3
  exact law_walk ak an aw ap ck cn cw cp ks ns ws xs W hk hkb hn hnb hw hwb hp hxb
end Go.Proofs.Ytemmdhfmdgpfmaa
