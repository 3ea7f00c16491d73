/- Plain facts of a fresh server's lines (layer 19); Link of a new device with its three bundles. Ours. -/
import Derived.Test.YticojdepepkdlaaSv2
import Derived.Test.YticojdepepkdlaaSv3
set_option linter.unusedSimpArgs false
set_option linter.unusedVariables false
namespace Go.Proofs.Yticojdepepkdlaa
open Go.RowKit Go.Pw
set_option linter.unusedVariables false

/-- A line as Link leaves it: live, one main bundle and two for once. -/
def Ld (u d : Int) (x : Li) : Prop := x.u = u ∧ x.d = d ∧ x.on = true ∧ ∃ c1 c2 : Bu, x.os = [c1, c2] ∧ c1.u = u ∧ c1.d = d

theorem bs_fold {u d : Int} {bs : List Bu} (h : Bs u d bs) (h3 : bs.length = 3) : ∃ c0 c1 c2 : Bu, bs.foldl pubS (b0, []) = (c0, [c1, c2]) ∧ c1.u = u ∧ c1.d = d := by
  match bs, h3 with
  | [c0, c1, c2], _ =>
    obtain ⟨_, _, e0, _, e1⟩ := h 0 (by simp)
    obtain ⟨f0, f1, f2, f3, _⟩ := h 1 (by simp)
    obtain ⟨_, _, g2, g3, _⟩ := h 2 (by simp)
    simp at e0 e1 f0 f1 f2 f3 g2 g3
    refine ⟨c0, c1, c2, ?_, f0, f1⟩
    simp [pubS, e0, e1, f2, f3, g2, g3, b0]
theorem bs_some {u d : Int} {bs : List Bu} (h : Bs u d bs) (h3 : bs.length = 3) : bs.any (fun x => !x.has) = true := by
  rw [List.any_eq_true]
  exact ⟨bs[0], List.getElem_mem _, by rw [(h 0 (by omega)).2.2.1]; rfl⟩
theorem bs_other {u d : Int} {bs : List Bu} (h : Bs u d bs) : bs.any (other u d) = false := by
  rw [List.any_eq_false]
  intro x hx
  obtain ⟨i, hi, rfl⟩ := List.mem_iff_getElem.1 hx
  obtain ⟨h1, h2, _⟩ := h i hi
  simp [other, h1, h2]

theorem link_new {w0 : World} {rs : List Res} (SB RB BM LM : Nat) (v : Value) (l : List Li) (bm lm : List ((Int × Int) × Value)) (lv : Value) (logs : List Sn) (u d : Int) (vb : Value) (bs : List Bu) (w : World) (h : Sep w0 w (srvR SB RB BM LM v l bm lm lv logs (row 63 10 vb 3 (fl bc bs) :: rs)))
    (hb : Bs u d bs) (h3 : bs.length = 3) (hl : l.length ≤ 3) (hr : Rise l) (hn : nextD l u = ((u, d), 0)) (hnf : foundL l u d = false) (f : Li → List Li) (hf : ∀ x, (insL l (newL u d)).set (placeL l u d) x = f x) :
    Calls Try.prog 7 #[.pointer (some ⟨SB, 0, none⟩), wv u d, vb] w fun e w' => e = .returned (.int .i64 0) ∧ ∃ (v' : Value) (x : Li) (X : Nat), Ld u d x ∧ Sep w0 w' (srvR SB RB BM LM v' (f x) (putM bm (u, d) (.pointer (some ⟨X, 0, none⟩))) lm lv logs (box X (.slice none 0 0) [] 0 :: rs)) := by
  rw [← h3] at h
  refine (link_ok SB RB BM LM v l bm lm lv logs u d vb bs w h (by omega) (by omega) hr hn (bs_some hb h3) (bs_other hb) hnf).mono ?_
  rintro e w' ⟨rfl, v', x', X, h1, h2, h4, h5, _, h6⟩
  obtain ⟨c0, c1, c2, hc, hc1, hc2⟩ := bs_fold hb h3
  rw [hc] at h5
  rw [hf x'] at h6
  exact ⟨rfl, v', x', X, ⟨h1, h2, h4, c1, c2, (Prod.mk.inj h5).2, hc1, hc2⟩, h6.sel 9 [0, 1, 2, 3, 4, 5, 6, 7]⟩

theorem rise_nil : Rise [] := fun _ _ i j _ hj => by simp at hj
theorem fresh0 (u d : Int) (x : Li) : (insL [] (newL u d)).set (placeL [] u d) x = [x] := rfl
theorem rise_one (x : Li) : Rise [x] := fun _ _ i j hi hj => by simp at hj; omega
theorem ld_next {x : Li} (h : Ld 0 1 x) : nextD [x] 1 = ((1, 1), 0) := by
  obtain ⟨u, d, on, b, v, os, ok⟩ := x
  obtain ⟨h1, h2, h3, _⟩ := h
  simp only at h1 h2 h3
  subst h1 h2 h3
  rfl
theorem ld_found {x : Li} (h : Ld 0 1 x) : foundL [x] 1 1 = false := by
  obtain ⟨u, d, on, b, v, os, ok⟩ := x
  obtain ⟨h1, h2, h3, _⟩ := h
  simp only at h1 h2 h3
  subst h1 h2 h3
  rfl
theorem ld_ins {x : Li} (h : Ld 0 1 x) (y : Li) : (insL [x] (newL 1 1)).set (placeL [x] 1 1) y = [x, y] := by
  obtain ⟨u, d, on, b, v, os, ok⟩ := x
  obtain ⟨h1, h2, h3, _⟩ := h
  simp only at h1 h2 h3
  subst h1 h2 h3
  rfl
theorem cmpW_lt (u d u' d' : Int) : cmpW u d u' d' < 0 ↔ u < u' ∨ u = u' ∧ d < d' := by
  unfold cmpW cmpI orL
  simp only [orL]
  split <;> split <;> simp_all <;> omega
theorem rise_two {x y : Li} (hx : Ld 0 1 x) (hy : Ld 1 1 y) : Rise [x, y] := by
  intro u d i j hi hj
  simp at hj
  obtain ⟨rfl, rfl⟩ : i = 0 ∧ j = 1 := by omega
  simp only [List.getElem_cons_zero, List.getElem_cons_succ, hx.1, hx.2.1, hy.1, hy.2.1, cmpW_lt]
  omega
theorem two_facts {x y : Li} (hx : Ld 0 1 x) (hy : Ld 1 1 y) : isL [x, y] 0 1 = true ∧ audL [x, y] 0 1 1 = [(1, 1)] ∧ (listL [x, y] 1).length ≠ 0 ∧ foundL [x, y] 1 1 = true ∧ placeL [x, y] 1 1 = 1 := by
  obtain ⟨u, d, on, b, v, os, ok⟩ := x
  obtain ⟨h1, h2, h3, _⟩ := hx
  simp only at h1 h2 h3
  subst h1 h2 h3
  obtain ⟨u, d, on, b, v, os, ok⟩ := y
  obtain ⟨h1, h2, h3, _⟩ := hy
  simp only at h1 h2 h3
  subst h1 h2 h3
  exact ⟨rfl, rfl, fun h => Nat.one_ne_zero h, rfl, rfl⟩
end Go.Proofs.Yticojdepepkdlaa
