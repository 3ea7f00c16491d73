/- ChachaBlocks returns true for every key, nonce and number: the block is the document's. No condition. -/
import Derived.Test.YtemmdhfmdgpfmaaAwk5
import Derived.Test.YtemmdhfmdgpfmaaBlk3
import Derived.Test.YtemmdhfmdgpfmaaOpenS
import Derived.Test.YtemmdhfmdgpfmaaSChachaBlocks
namespace Go.Proofs.Ytemmdhfmdgpfmaa
open Go.RowKit Go.Pw
set_option linter.unusedVariables false

/-- A fresh row, named, and its text in every later world. -/
theorem Fresh.str {xs : List Int} {w : World} {e : Ending} {w' : World} (h : Fresh xs w e w') : ∃ ys ao c, Hid (ys = xs) ∧ e = .returned (.slice ao ys.length c) ∧ Only w w' [] ∧ w'.ownsRow 0 5 1 (.slice ao ys.length c) ys.length (ys.map (Value.int .u8)) ∧ ∀ w2, Only w' w2 [] → (convert 22 9 (.slice ao ys.length c)).run Try.prog w2 = .ok (.string (strOfNums ys)) w2 := by
  obtain ⟨ys, ao, c, H, rfl, h1, h2, h3⟩ := h.name
  exact ⟨ys, ao, c, H, rfl, h3, h1, fun w2 ho => run_str (P := Try.prog) (w := w2) (S := 22) (T := 9) Try.underlying22 Try.underlying5 Try.underlying9 ((own_src h1).off ho (fun _ _ _ => by simp)) rfl⟩

theorem cells_u8' : Try.prog.cellsOf 5 = 1 := by kernel_rfl
set_option maxRecDepth 100000 in
set_option maxHeartbeats 1600000 in
theorem blocks_walk (ak an : Option Addr) (ck cn : Nat) (ks ns : List Int) (n : Int) (w : World) (hk : Src w (.slice ak ks.length ck) 1 ks.length (ks.map (Value.int .u8))) (hkb : ∀ x ∈ ks, 0 ≤ x ∧ x < 256)
    (hn : Src w (.slice an ns.length cn) 1 ns.length (ns.map (Value.int .u8))) (hnb : ∀ x ∈ ns, 0 ≤ x ∧ x < 256) (hn32 : W32 n) :
    Calls Try.prog 4 #[.slice ak ks.length ck, .slice an ns.length cn, .int .u32 n] w fun e w' => e = .returned (.bool true) ∧ Below w.heap.size w w' := by
  have hbel : ∀ w', Only w w' [] → Below w.heap.size w w' := fun w' h => h.below (Nat.le_refl _) (by simp)
  by_cases hl : 100 < ks.length ∨ 100 < ns.length
  · go_enter Try.func4, Try.ntmps4
    go_wp2_with fail
    refine (awake5 _).mono ?_
    rintro e w1 ⟨rfl, h1⟩
    by_cases hl1 : 100 < ks.length
    · have d1 : decide ((100 : Int) < ks.length) = true := by simp; omega
      go_wp2_with fail
      refine (awake5 _).mono ?_
      rintro e w2 ⟨rfl, h2⟩
      go_wp2_with fail
      go_ret
      exact ⟨rfl, hbel _ (h1.trans h2)⟩
    · have d1 : decide ((100 : Int) < ks.length) = false := by simp; omega
      have d2 : decide ((100 : Int) < ns.length) = true := by simp; omega
      go_wp2_with fail
      refine (awake5 _).mono ?_
      rintro e w2 ⟨rfl, h2⟩
      go_wp2_with fail
      go_ret
      exact ⟨rfl, hbel _ (h1.trans h2)⟩
  · have d1 : decide ((100 : Int) < ks.length) = false := by simp; omega
    have d2 : decide ((100 : Int) < ns.length) = false := by simp; omega
    go_enter Try.func4, Try.ntmps4
    go_wp2_with fail
    refine (awake5 _).mono ?_
    rintro e w1 ⟨rfl, h1⟩
    go_upto_region 3 with fail
    have h1d := h1.trans (Only.drew w1 [])
    have hk1 := hk.off h1d (fun _ _ _ => by simp)
    have hn1 := hn.off h1d (fun _ _ _ => by simp)
    have hk1 := Lib.hid hk1
    have hn1 := Lib.hid hn1
    go_region_with
      (first
        | (go_at_call 11; (with_reducible refine (block_any _ _ ks ns n _ hk1.out hkb hn1.out hnb hn32).mono fun e w2 hq => ?_); obtain ⟨ys, a2, c2, Hys, rfl, o2, g2, t2⟩ := hq.str; (have s2 := t2 w2 (Only.refl _ _)))
        | (go_at_call 12; (have hk2 := Src.off hk1.out o2 (fun _ _ _ => by simp)); (have hn2 := Src.off hn1.out o2 (fun _ _ _ => by simp)); (with_reducible refine (rblock_any _ _ ks ns n _ hk2 hkb hn2 hnb hn32).mono fun e w3 hq => ?_); obtain ⟨zs, a3, c3, Hzs, rfl, o3, g3, t3⟩ := hq.str; (have hzy : zs = ys := Hzs.out.trans Hys.out.symm); subst hzy; (have s3 := t3 w3 (Only.refl _ _)); (have s4 := t2 w3 o3)))
    all_goals
      go_wp2_with fail
      go_ret
      exact ⟨rfl, hbel _ ((h1d.trans o2).trans o3)⟩

theorem chachaBlocks_holds : Rows.ChachaBlocksSaid := chachaBlocks.said fun H enc base W v0 v1 v2 d0 p0 d1 p1 d2 p2 h0 t0 h1 t1 h2 t2 => by
  obtain ⟨ak, ck, ks, rfl, hk, hkb⟩ := open_bytes Try.underlying22 Try.underlying5 cells_u8' h0 t0
  obtain ⟨an, cn, ns, rfl, hn, hnb⟩ := open_bytes Try.underlying22 Try.underlying5 cells_u8' h1 t1
  obtain ⟨y, rfl, _, _, hw⟩ := Go.ChangeShapes.open_int Try.underlying26 h2 t2
  simp [Lit.wf, IntKind.min, IntKind.max, IntKind.signed, IntKind.bits] at hw
  exact blocks_walk ak an ck cn ks ns y W hk hkb hn hnb ⟨by omega, by omega⟩
end Go.Proofs.Ytemmdhfmdgpfmaa
