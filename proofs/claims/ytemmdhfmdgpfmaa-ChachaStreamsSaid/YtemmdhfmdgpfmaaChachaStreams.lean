/- ChachaStreams returns true for every key, nonce, number and bytes: what is turned is the document's, and twice is nothing. No condition. -/
import Derived.Test.YtemmdhfmdgpfmaaAwk5
import Derived.Test.YtemmdhfmdgpfmaaStr2
import Derived.Test.YtemmdhfmdgpfmaaOpenS
import Derived.Test.YtemmdhfmdgpfmaaRegion
import Derived.Test.YtemmdhfmdgpfmaaRegT
import Derived.Test.YtemmdhfmdgpfmaaSChachaStreams
namespace Go.Proofs.Ytemmdhfmdgpfmaa
open Go.RowKit Go.Pw
set_option linter.unusedVariables false

/-- A fresh row, named, and its text in every later world. -/
theorem Fresh.str {xs : List Int} {w : World} {e : Ending} {w' : World} (h : Fresh xs w e w') : ∃ ys ao c, Hid (ys = xs) ∧ e = .returned (.slice ao ys.length c) ∧ Only w w' [] ∧ w'.ownsRow 0 5 1 (.slice ao ys.length c) ys.length (ys.map (Value.int .u8)) ∧ ∀ w2, Only w' w2 [] → (convert 22 9 (.slice ao ys.length c)).run Try.prog w2 = .ok (.string (strOfNums ys)) w2 := by
  obtain ⟨ys, ao, c, H, rfl, h1, h2, h3⟩ := h.name
  exact ⟨ys, ao, c, H, rfl, h3, h1, fun w2 ho => run_str (P := Try.prog) (w := w2) (S := 22) (T := 9) Try.underlying22 Try.underlying5 Try.underlying9 ((own_src h1).off ho (fun _ _ _ => by simp)) rfl⟩

theorem cells_u8' : Try.prog.cellsOf 5 = 1 := by kernel_rfl
set_option maxRecDepth 100000 in
set_option maxHeartbeats 3200000 in
theorem streams_walk (ak an ap : Option Addr) (ck cn cp : Nat) (ks ns xs : List Int) (n : Int) (w : World) (hk : Src w (.slice ak ks.length ck) 1 ks.length (ks.map (Value.int .u8))) (hkb : ∀ x ∈ ks, 0 ≤ x ∧ x < 256)
    (hn : Src w (.slice an ns.length cn) 1 ns.length (ns.map (Value.int .u8))) (hnb : ∀ x ∈ ns, 0 ≤ x ∧ x < 256) (hn32 : W32 n) (hp : Src w (.slice ap xs.length cp) 1 xs.length (xs.map (Value.int .u8))) (hxb : ∀ x ∈ xs, 0 ≤ x ∧ x < 256) :
    Calls Try.prog 5 #[.slice ak ks.length ck, .slice an ns.length cn, .int .u32 n, .slice ap xs.length cp] w fun e w' => e = .returned (.bool true) ∧ Below w.heap.size w w' := by
  have hbel : ∀ w', Only w w' [] → Below w.heap.size w w' := fun w' h => h.below (Nat.le_refl _) (by simp)
  by_cases hl : 100 < ks.length ∨ 100 < ns.length ∨ 1000 < xs.length
  · go_enter Try.func5, Try.ntmps5
    go_wp2_with fail
    refine (awake5 _).mono ?_
    rintro e w1 ⟨rfl, h1⟩
    by_cases hl1 : 100 < ks.length
    · have d1 : decide ((100 : Int) < ks.length) = true := by simp; omega
      go_wp2_with fail
      refine (awake5 _).mono ?_
      rintro e w2 ⟨rfl, h2⟩
      go_wp2_with fail
      go_ret
      exact ⟨rfl, hbel _ (h1.trans h2)⟩
    · have d1 : decide ((100 : Int) < ks.length) = false := by simp; omega
      by_cases hl2 : 100 < ns.length
      · have d2 : decide ((100 : Int) < ns.length) = true := by simp; omega
        go_wp2_with fail
        refine (awake5 _).mono ?_
        rintro e w2 ⟨rfl, h2⟩
        go_wp2_with fail
        go_ret
        exact ⟨rfl, hbel _ (h1.trans h2)⟩
      · have d2 : decide ((100 : Int) < ns.length) = false := by simp; omega
        have d3 : decide ((1000 : Int) < xs.length) = true := by simp; omega
        go_wp2_with fail
        refine (awake5 _).mono ?_
        rintro e w2 ⟨rfl, h2⟩
        go_wp2_with fail
        go_ret
        exact ⟨rfl, hbel _ (h1.trans h2)⟩
  · have d1 : decide ((100 : Int) < ks.length) = false := by simp; omega
    have d2 : decide ((100 : Int) < ns.length) = false := by simp; omega
    have d3 : decide ((1000 : Int) < xs.length) = false := by simp; omega
    have hxl : xs.length ≤ 1000000 := by omega
    go_enter Try.func5, Try.ntmps5
    go_wp2_with fail
    refine (awake5 _).mono ?_
    rintro e w1 ⟨rfl, h1⟩
    go_wp2_with fail
    refine (stream_any _ _ _ ks ns xs n _ (hk.off h1 (fun _ _ _ => by simp)) hkb (hn.off h1 (fun _ _ _ => by simp)) hnb hn32 (hp.off h1 (fun _ _ _ => by simp)) hxb hxl).mono ?_
    rintro e w2 hq
    obtain ⟨ys, a2, c2, Hys, rfl, o2, g2, t2⟩ := hq.str
    have hyl : Hid (ys.length ≤ 1000000) := by show _ ≤ _; rw [Hys.out, stream_len]; exact hxl
    have hyb : Hid (∀ x ∈ ys, 0 ≤ x ∧ x < 256) := by show ∀ _, _; rw [Hys.out]; exact stream_byt hxb
    go_upto_region 4 with fail
    have h2d := (h1.trans o2).trans (Only.drew w2 [])
    have hk1 := Lib.hid (hk.off h2d (fun _ _ _ => by simp))
    have hn1 := Lib.hid (hn.off h2d (fun _ _ _ => by simp))
    have hp1 := Lib.hid (hp.off h2d (fun _ _ _ => by simp))
    have hy1 := Lib.hid ((own_src g2).off (Only.drew w2 []) (fun _ _ _ => by simp))
    have s0 := t2 _ (Only.drew w2 [])
    have htw : Hid (streamL ks n ns ys = xs) := by show _ = _; rw [Hys.out]; exact stream_twice hxb
    clear hq
    refine wp_region_held_drew (S := fun w' => Only w2.drew w' []) (by kernel_rfl) (Only.refl _ _) (fun hHeld => ?_)
    refine' wpAnyH_take (i := 0) (v := _) (op_at rfl) (by kernel_rfl) (by kernel_rfl) (by kernel_rfl) (fun _ _ _ h => h) (Or.inl ⟨by rfl, ?hy1⟩) (by assumption) ?rest1
    case hy1 =>
      intro w' hS
      go_simp
      try with_reducible rfl
    try simp only [Act.put, List.setIfInBounds_toArray, List.set_cons_zero, List.set_cons_succ]
    refine' wpAnyH_take (i := 1) (v := _) (op_at rfl) (by kernel_rfl) (by kernel_rfl) (by kernel_rfl) (fun _ _ _ h => h) (Or.inl ⟨by rfl, ?hy2⟩) (by assumption) ?rest2
    case hy2 =>
      intro w' hS
      have hs_ := t2 w' ((Only.drew w2 []).trans hS)
      go_simp
      try with_reducible rfl
    try simp only [Act.put, List.setIfInBounds_toArray, List.set_cons_zero, List.set_cons_succ]
    refine' wpAnyH_take (i := 2) (v := _) (op_at rfl) (by kernel_rfl) (by kernel_rfl) (by kernel_rfl) (fun _ _ _ h => h) (Or.inl ⟨by rfl, ?hy3⟩) (by assumption) ?rest3
    case hy3 =>
      intro w' hS
      go_simp
      try with_reducible rfl
    try simp only [Act.put, List.setIfInBounds_toArray, List.set_cons_zero, List.set_cons_succ]
    refine' wpAnyH_take (i := 3) (v := _) (op_at rfl) (by kernel_rfl) (by kernel_rfl) (by kernel_rfl) (fun _ _ _ h => h) (Or.inl ⟨by rfl, ?hy4⟩) (by assumption) ?rest4
    case hy4 =>
      intro w' hS
      go_simp
      try with_reducible rfl
    try simp only [Act.put, List.setIfInBounds_toArray, List.set_cons_zero, List.set_cons_succ]
    refine' wpAnyH_take (i := 4) (v := _) (op_at rfl) (by kernel_rfl) (by kernel_rfl) (by kernel_rfl) (fun _ _ _ h => h) (Or.inl ⟨by rfl, ?hy5⟩) (by assumption) ?rest5
    case hy5 =>
      intro w' hS
      go_simp
      try with_reducible rfl
    try simp only [Act.put, List.setIfInBounds_toArray, List.set_cons_zero, List.set_cons_succ]
    refine' wpAnyH_take (i := 5) (v := _) (op_at rfl) (by kernel_rfl) (by kernel_rfl) (by kernel_rfl) (fun _ _ _ h => h) (Or.inl ⟨by rfl, ?hy6⟩) (by assumption) ?rest6
    case hy6 =>
      intro w' hS
      go_simp
      try with_reducible rfl
    try simp only [Act.put, List.setIfInBounds_toArray, List.set_cons_zero, List.set_cons_succ]
    refine wpAnyH_ready (rs := [6]) (by kernel_rfl) (by simp) (AllReadyH.cons (op_at rfl) (fun K hK => ?_) AllReadyH.nil)
    go_simp
    refine (rstream_any _ _ _ ks ns xs n _ hk1.out hkb hn1.out hnb hn32 hp1.out hxb hxl).mono fun e w3 hq => ?_
    obtain ⟨zs, a3, c3, Hzs, rfl, o3, g3, t3⟩ := hq.str
    clear hq
    go_wp2_with fail
    refine hK.out _ _ (o3) (fun hHeld => ?_)
    clear hK K
    try simp only [Act.put, List.setIfInBounds_toArray, List.set_cons_zero, List.set_cons_succ]
    refine wpAnyH_more (S' := fun w' => Only w3 w' []) (fun w' h => Only.trans o3 h) _ _ _ _ ?_
    clear hHeld
    have hHeld : Only w3 w3 [] := Only.refl _ _
    obtain rfl : zs = ys := Hzs.out.trans Hys.out.symm
    refine' wpAnyH_take (i := 7) (v := _) (op_at rfl) (by kernel_rfl) (by kernel_rfl) (by kernel_rfl) (fun _ _ _ h => h) (Or.inl ⟨by rfl, ?hy7⟩) (by assumption) ?rest7
    case hy7 =>
      intro w' hS
      have hs_ := t3 w' hS
      go_simp
      try with_reducible rfl
    try simp only [Act.put, List.setIfInBounds_toArray, List.set_cons_zero, List.set_cons_succ]
    refine' wpAnyH_take (i := 8) (v := _) (op_at rfl) (by kernel_rfl) (by kernel_rfl) (by kernel_rfl) (fun _ _ _ h => h) (Or.inl ⟨by rfl, ?hy8⟩) (by assumption) ?rest8
    case hy8 =>
      intro w' hS
      go_simp
      try with_reducible rfl
    try simp only [Act.put, List.setIfInBounds_toArray, List.set_cons_zero, List.set_cons_succ]
    refine' wpAnyH_take (i := 9) (v := _) (op_at rfl) (by kernel_rfl) (by kernel_rfl) (by kernel_rfl) (fun _ _ _ h => h) (Or.inl ⟨by rfl, ?hy9⟩) (by assumption) ?rest9
    case hy9 =>
      intro w' hS
      go_simp
      try with_reducible rfl
    try simp only [Act.put, List.setIfInBounds_toArray, List.set_cons_zero, List.set_cons_succ]
    refine' wpAnyH_take (i := 10) (v := _) (op_at rfl) (by kernel_rfl) (by kernel_rfl) (by kernel_rfl) (fun _ _ _ h => h) (Or.inl ⟨by rfl, ?hy10⟩) (by assumption) ?rest10
    case hy10 =>
      intro w' hS
      go_simp
      try with_reducible rfl
    try simp only [Act.put, List.setIfInBounds_toArray, List.set_cons_zero, List.set_cons_succ]
    refine' wpAnyH_take (i := 11) (v := _) (op_at rfl) (by kernel_rfl) (by kernel_rfl) (by kernel_rfl) (fun _ _ _ h => h) (Or.inl ⟨by rfl, ?hy11⟩) (by assumption) ?rest11
    case hy11 =>
      intro w' hS
      go_simp
      try with_reducible rfl
    try simp only [Act.put, List.setIfInBounds_toArray, List.set_cons_zero, List.set_cons_succ]
    refine' wpAnyH_take (i := 12) (v := _) (op_at rfl) (by kernel_rfl) (by kernel_rfl) (by kernel_rfl) (fun _ _ _ h => h) (Or.inl ⟨by rfl, ?hy12⟩) (by assumption) ?rest12
    case hy12 =>
      intro w' hS
      go_simp
      try with_reducible rfl
    try simp only [Act.put, List.setIfInBounds_toArray, List.set_cons_zero, List.set_cons_succ]
    refine' wpAnyH_take (i := 13) (v := _) (op_at rfl) (by kernel_rfl) (by kernel_rfl) (by kernel_rfl) (fun _ _ _ h => h) (Or.inl ⟨by rfl, ?hy13⟩) (by assumption) ?rest13
    case hy13 =>
      intro w' hS
      go_simp
      try with_reducible rfl
    try simp only [Act.put, List.setIfInBounds_toArray, List.set_cons_zero, List.set_cons_succ]
    refine' wpAnyH_take (i := 16) (v := _) (op_at rfl) (by kernel_rfl) (by kernel_rfl) (by kernel_rfl) (fun _ _ _ h => h) (Or.inl ⟨by rfl, ?hy14⟩) (by assumption) ?rest14
    case hy14 =>
      intro w' hS
      go_simp
      try with_reducible rfl
    try simp only [Act.put, List.setIfInBounds_toArray, List.set_cons_zero, List.set_cons_succ]
    refine' wpAnyH_take (i := 17) (v := _) (op_at rfl) (by kernel_rfl) (by kernel_rfl) (by kernel_rfl) (fun _ _ _ h => h) (Or.inl ⟨by rfl, ?hy15⟩) (by assumption) ?rest15
    case hy15 =>
      intro w' hS
      have hs_ := run_str (P := Try.prog) (w := w') (S := 22) (T := 9) Try.underlying22 Try.underlying5 Try.underlying9 (Src.off hp1.out (o3.trans hS) (fun _ _ _ => by simp)) rfl
      go_simp
      try with_reducible rfl
    try simp only [Act.put, List.setIfInBounds_toArray, List.set_cons_zero, List.set_cons_succ]
    refine wpAnyH_ready (rs := [14]) (by kernel_rfl) (by simp) (AllReadyH.cons (op_at rfl) (fun K hK => ?_) AllReadyH.nil)
    go_simp
    have hk2 := Src.off hk1.out o3 (fun _ _ _ => by simp)
    have hn2 := Src.off hn1.out o3 (fun _ _ _ => by simp)
    have hy2 := Src.off hy1.out o3 (fun _ _ _ => by simp)
    refine (stream_any _ _ _ ks ns _ n _ hk2 hkb hn2 hnb hn32 hy2 hyb.out hyl.out).mono fun e w4 hq => ?_
    obtain ⟨us, a4, c4, Hus, rfl, o4, g4, t4⟩ := hq.str
    clear hq
    go_wp2_with fail
    refine hK.out _ _ (o4) (fun hHeld => ?_)
    clear hK K
    try simp only [Act.put, List.setIfInBounds_toArray, List.set_cons_zero, List.set_cons_succ]
    refine wpAnyH_more (S' := fun w' => Only w4 w' []) (fun w' h => Only.trans o4 h) _ _ _ _ ?_
    clear hHeld
    have hHeld : Only w4 w4 [] := Only.refl _ _
    obtain rfl : us = xs := Hus.out.trans htw.out
    refine' wpAnyH_take (i := 15) (v := _) (op_at rfl) (by kernel_rfl) (by kernel_rfl) (by kernel_rfl) (fun _ _ _ h => h) (Or.inl ⟨by rfl, ?hy16⟩) (by assumption) ?rest16
    case hy16 =>
      intro w' hS
      have hs_ := t4 w' hS
      go_simp
      try with_reducible rfl
    try simp only [Act.put, List.setIfInBounds_toArray, List.set_cons_zero, List.set_cons_succ]
    refine' wpAnyH_take (i := 18) (v := _) (op_at rfl) (by kernel_rfl) (by kernel_rfl) (by kernel_rfl) (fun _ _ _ h => h) (Or.inl ⟨by rfl, ?hy17⟩) (by assumption) ?rest17
    case hy17 =>
      intro w' hS
      go_simp
      try with_reducible rfl
    try simp only [Act.put, List.setIfInBounds_toArray, List.set_cons_zero, List.set_cons_succ]
    refine' wpAnyH_take (i := 19) (v := _) (op_at rfl) (by kernel_rfl) (by kernel_rfl) (by kernel_rfl) (fun _ _ _ h => h) (Or.inl ⟨by rfl, ?hy18⟩) (by assumption) ?rest18
    case hy18 =>
      intro w' hS
      go_simp
      try with_reducible rfl
    try simp only [Act.put, List.setIfInBounds_toArray, List.set_cons_zero, List.set_cons_succ]
    refine' wpAnyH_take (i := 20) (v := _) (op_at rfl) (by kernel_rfl) (by kernel_rfl) (by kernel_rfl) (fun _ _ _ h => h) (Or.inl ⟨by rfl, ?hy19⟩) (by assumption) ?rest19
    case hy19 =>
      intro w' hS
      go_simp
      try with_reducible rfl
    try simp only [Act.put, List.setIfInBounds_toArray, List.set_cons_zero, List.set_cons_succ]
    refine wpAnyH_done (by kernel_rfl) ?_ _
    go_wp2_with fail
    go_ret
    exact ⟨rfl, hbel _ ((h2d.trans o3).trans o4)⟩

theorem chachaStreams_holds : Rows.ChachaStreamsSaid := chachaStreams.said fun H enc base W v0 v1 v2 v3 d0 p0 d1 p1 d2 p2 d3 p3 h0 t0 h1 t1 h2 t2 h3 t3 => by
  obtain ⟨ak, ck, ks, rfl, hk, hkb⟩ := open_bytes Try.underlying22 Try.underlying5 cells_u8' h0 t0
  obtain ⟨an, cn, ns, rfl, hn, hnb⟩ := open_bytes Try.underlying22 Try.underlying5 cells_u8' h1 t1
  obtain ⟨y, rfl, _, _, hw⟩ := Go.ChangeShapes.open_int Try.underlying26 h2 t2
  obtain ⟨ap, cp, xs, rfl, hp, hxb⟩ := open_bytes Try.underlying22 Try.underlying5 cells_u8' h3 t3
  simp [Lit.wf, IntKind.min, IntKind.max, IntKind.signed, IntKind.bits] at hw
  exact streams_walk ak an ap ck cn cp ks ns xs y W hk hkb hn hnb ⟨by omega, by omega⟩ hp hxb
end Go.Proofs.Ytemmdhfmdgpfmaa
