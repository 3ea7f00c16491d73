/- ChachaTags returns true for every key and all bytes: the tag is the document's. No condition. -/
import Derived.Test.YtemmdhfmdgpfmaaAwk5
import Derived.Test.YtemmdhfmdgpfmaaRTag
import Derived.Test.YtemmdhfmdgpfmaaOpenS
import Derived.Test.YtemmdhfmdgpfmaaRegion
import Derived.Test.YtemmdhfmdgpfmaaRegT
import Derived.Test.YtemmdhfmdgpfmaaSChachaTags
namespace Go.Proofs.Ytemmdhfmdgpfmaa
open Go.RowKit Go.Pw
set_option linter.unusedVariables false

/-- A fresh row, named, and its text in every later world. -/
theorem Fresh.str {xs : List Int} {w : World} {e : Ending} {w' : World} (h : Fresh xs w e w') : ∃ ys ao c, Hid (ys = xs) ∧ e = .returned (.slice ao ys.length c) ∧ Only w w' [] ∧ w'.ownsRow 0 5 1 (.slice ao ys.length c) ys.length (ys.map (Value.int .u8)) ∧ ∀ w2, Only w' w2 [] → (convert 22 9 (.slice ao ys.length c)).run Try.prog w2 = .ok (.string (strOfNums ys)) w2 := by
  obtain ⟨ys, ao, c, H, rfl, h1, h2, h3⟩ := h.name
  exact ⟨ys, ao, c, H, rfl, h3, h1, fun w2 ho => run_str (P := Try.prog) (w := w2) (S := 22) (T := 9) Try.underlying22 Try.underlying5 Try.underlying9 ((own_src h1).off ho (fun _ _ _ => by simp)) rfl⟩

theorem cells_u8' : Try.prog.cellsOf 5 = 1 := by kernel_rfl
set_option maxRecDepth 100000 in
set_option maxHeartbeats 3200000 in
theorem tags_walk (ak ap : Option Addr) (ck cp : Nat) (ks xs : List Int) (w : World) (hk : Src w (.slice ak ks.length ck) 1 ks.length (ks.map (Value.int .u8))) (hkb : ∀ x ∈ ks, 0 ≤ x ∧ x < 256)
    (hp : Src w (.slice ap xs.length cp) 1 xs.length (xs.map (Value.int .u8))) (hxb : ∀ x ∈ xs, 0 ≤ x ∧ x < 256) :
    Calls Try.prog 3 #[.slice ak ks.length ck, .slice ap xs.length cp] w fun e w' => e = .returned (.bool true) ∧ Below w.heap.size w w' := by
  have hbel : ∀ w', Only w w' [] → Below w.heap.size w w' := fun w' h => h.below (Nat.le_refl _) (by simp)
  by_cases hl : 100 < ks.length ∨ 1000 < xs.length
  · go_enter Try.func3, Try.ntmps3
    go_wp2_with fail
    refine (awake5 _).mono ?_
    rintro e w1 ⟨rfl, h1⟩
    by_cases hl1 : 100 < ks.length
    · have d1 : decide ((100 : Int) < ks.length) = true := by simp; omega
      go_wp2_with fail
      refine (awake5 _).mono ?_
      rintro e w2 ⟨rfl, h2⟩
      go_wp2_with fail
      go_ret
      exact ⟨rfl, hbel _ (h1.trans h2)⟩
    · have d1 : decide ((100 : Int) < ks.length) = false := by simp; omega
      have d3 : decide ((1000 : Int) < xs.length) = true := by simp; omega
      go_wp2_with fail
      refine (awake5 _).mono ?_
      rintro e w2 ⟨rfl, h2⟩
      go_wp2_with fail
      go_ret
      exact ⟨rfl, hbel _ (h1.trans h2)⟩
  · have d1 : decide ((100 : Int) < ks.length) = false := by simp; omega
    have d3 : decide ((1000 : Int) < xs.length) = false := by simp; omega
    go_enter Try.func3, Try.ntmps3
    go_wp2_with fail
    refine (awake5 _).mono ?_
    rintro e w1 ⟨rfl, h1⟩
    go_upto_region 3 with fail
    have h1d := h1.trans (Only.drew w1 [])
    have hk1 := Lib.hid (hk.off h1d (fun _ _ _ => by simp))
    have hp1 := Lib.hid (hp.off h1d (fun _ _ _ => by simp))
    refine wp_region_held_drew (S := fun w' => Only w1.drew w' []) (by kernel_rfl) (Only.refl _ _) (fun hHeld => ?_)
    refine' wpAnyH_take (i := 0) (v := _) (op_at rfl) (by kernel_rfl) (by kernel_rfl) (by kernel_rfl) (fun _ _ _ h => h) (Or.inl ⟨by rfl, ?hy1⟩) (by assumption) ?rest1
    case hy1 =>
      intro w' hS
      go_simp
      try with_reducible rfl
    try simp only [Act.put, List.setIfInBounds_toArray, List.set_cons_zero, List.set_cons_succ]
    refine' wpAnyH_take (i := 1) (v := _) (op_at rfl) (by kernel_rfl) (by kernel_rfl) (by kernel_rfl) (fun _ _ _ h => h) (Or.inl ⟨by rfl, ?hy2⟩) (by assumption) ?rest2
    case hy2 =>
      intro w' hS
      go_simp
      try with_reducible rfl
    try simp only [Act.put, List.setIfInBounds_toArray, List.set_cons_zero, List.set_cons_succ]
    refine' wpAnyH_take (i := 4) (v := _) (op_at rfl) (by kernel_rfl) (by kernel_rfl) (by kernel_rfl) (fun _ _ _ h => h) (Or.inl ⟨by rfl, ?hy3⟩) (by assumption) ?rest3
    case hy3 =>
      intro w' hS
      go_simp
      try with_reducible rfl
    try simp only [Act.put, List.setIfInBounds_toArray, List.set_cons_zero, List.set_cons_succ]
    refine' wpAnyH_take (i := 5) (v := _) (op_at rfl) (by kernel_rfl) (by kernel_rfl) (by kernel_rfl) (fun _ _ _ h => h) (Or.inl ⟨by rfl, ?hy4⟩) (by assumption) ?rest4
    case hy4 =>
      intro w' hS
      go_simp
      try with_reducible rfl
    try simp only [Act.put, List.setIfInBounds_toArray, List.set_cons_zero, List.set_cons_succ]
    refine wpAnyH_ready (rs := [2]) (by kernel_rfl) (by simp) (AllReadyH.cons (op_at rfl) (fun K hK => ?_) AllReadyH.nil)
    go_simp
    refine (tag_any _ _ ks xs _ hk1.out hkb hp1.out hxb (by omega)).mono fun e w2 hq => ?_
    obtain ⟨ys, a2, c2, Hys, rfl, o2, g2, t2⟩ := hq.str
    clear hq
    go_wp2_with fail
    refine hK.out _ _ (o2) (fun hHeld => ?_)
    clear hK K
    try simp only [Act.put, List.setIfInBounds_toArray, List.set_cons_zero, List.set_cons_succ]
    refine wpAnyH_more (S' := fun w' => Only w2 w' []) (fun w' h => Only.trans o2 h) _ _ _ _ ?_
    clear hHeld
    have hHeld : Only w2 w2 [] := Only.refl _ _
    refine' wpAnyH_take (i := 3) (v := _) (op_at rfl) (by kernel_rfl) (by kernel_rfl) (by kernel_rfl) (fun _ _ _ h => h) (Or.inl ⟨by rfl, ?hy5⟩) (by assumption) ?rest5
    case hy5 =>
      intro w' hS
      have hs_ := t2 w' hS
      go_simp
      try with_reducible rfl
    try simp only [Act.put, List.setIfInBounds_toArray, List.set_cons_zero, List.set_cons_succ]
    refine wpAnyH_ready (rs := [6]) (by kernel_rfl) (by simp) (AllReadyH.cons (op_at rfl) (fun K hK => ?_) AllReadyH.nil)
    go_simp
    have hk2 := Src.off hk1.out o2 (fun _ _ _ => by simp)
    have hp2 := Src.off hp1.out o2 (fun _ _ _ => by simp)
    refine (rtag_any _ _ ks xs _ hk2 hkb hp2 hxb (by omega)).mono fun e w3 hq => ?_
    obtain ⟨zs, a3, c3, Hzs, rfl, o3, g3, t3⟩ := hq.str
    clear hq
    go_wp2_with fail
    refine hK.out _ _ (o3) (fun hHeld => ?_)
    clear hK K
    try simp only [Act.put, List.setIfInBounds_toArray, List.set_cons_zero, List.set_cons_succ]
    refine wpAnyH_more (S' := fun w' => Only w3 w' []) (fun w' h => Only.trans o3 h) _ _ _ _ ?_
    clear hHeld
    have hHeld : Only w3 w3 [] := Only.refl _ _
    obtain rfl : zs = ys := Hzs.out.trans Hys.out.symm
    refine' wpAnyH_take (i := 7) (v := _) (op_at rfl) (by kernel_rfl) (by kernel_rfl) (by kernel_rfl) (fun _ _ _ h => h) (Or.inl ⟨by rfl, ?hy6⟩) (by assumption) ?rest6
    case hy6 =>
      intro w' hS
      have hs_ := t3 w' hS
      go_simp
      try with_reducible rfl
    try simp only [Act.put, List.setIfInBounds_toArray, List.set_cons_zero, List.set_cons_succ]
    refine' wpAnyH_take (i := 8) (v := _) (op_at rfl) (by kernel_rfl) (by kernel_rfl) (by kernel_rfl) (fun _ _ _ h => h) (Or.inl ⟨by rfl, ?hy7⟩) (by assumption) ?rest7
    case hy7 =>
      intro w' hS
      go_simp
      try with_reducible rfl
    try simp only [Act.put, List.setIfInBounds_toArray, List.set_cons_zero, List.set_cons_succ]
    refine' wpAnyH_take (i := 9) (v := _) (op_at rfl) (by kernel_rfl) (by kernel_rfl) (by kernel_rfl) (fun _ _ _ h => h) (Or.inl ⟨by rfl, ?hy8⟩) (by assumption) ?rest8
    case hy8 =>
      intro w' hS
      go_simp
      try with_reducible rfl
    try simp only [Act.put, List.setIfInBounds_toArray, List.set_cons_zero, List.set_cons_succ]
    refine wpAnyH_done (by kernel_rfl) ?_ _
    go_wp2_with fail
    go_ret
    exact ⟨rfl, hbel _ ((h1d.trans o2).trans o3)⟩

theorem chachaTags_holds : Rows.ChachaTagsSaid := chachaTags.said fun H enc base W v0 v1 d0 p0 d1 p1 h0 t0 h1 t1 => by
  obtain ⟨ak, ck, ks, rfl, hk, hkb⟩ := open_bytes Try.underlying22 Try.underlying5 cells_u8' h0 t0
  obtain ⟨ap, cp, xs, rfl, hp, hxb⟩ := open_bytes Try.underlying22 Try.underlying5 cells_u8' h1 t1
  exact tags_walk ak ap ck cp ks xs W hk hkb hp hxb
end Go.Proofs.Ytemmdhfmdgpfmaa
