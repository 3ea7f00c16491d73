/- A bundle's bytes as the reference lays them: the same each time (layer 17). -/
import Derived.Test.YteljkfihmbddaaaRdR
import Derived.Test.YteljkfihmbddaaaRef09b
set_option linter.unusedSimpArgs false
set_option linter.unusedVariables false
namespace Go.Proofs.Yteljkfihmbddaaa
open Go.RowKit Go.Pw
set_option linter.unusedVariables false

theorem bun09 (b : Bu) (w : World) (h : ∀ v ∈ parts b, RdS w v) (hsg : U32 b.sg) (hon : U32 b.on) : ∃ ps : List Int, ∀ w', Only w w' [] → Calls Try.prog 22 #[.agg (bc b).toArray] w' (Fresh ps w') := by
  obtain ⟨a1, c1, x1, e1, r1, _, l1⟩ := h b.s1 (by simp [parts])
  obtain ⟨a2, c2, x2, e2, r2, _, l2⟩ := h b.s2 (by simp [parts])
  obtain ⟨a3, c3, x3, e3, r3, _, l3⟩ := h b.s3 (by simp [parts])
  obtain ⟨a4, c4, x4, e4, r4, _, l4⟩ := h b.s4 (by simp [parts])
  obtain ⟨a5, c5, x5, e5, r5, _, l5⟩ := h b.s5 (by simp [parts])
  refine ⟨bundleB b.u b.d x1 x2 b.sg x3 x4 b.has b.on x5, fun w' o => ?_⟩
  have off := fun {v : Value} {xs : List Int} (hr : Rd w v xs) => hr.new o
  have := rfbundle_any b.u b.d b.sg b.on b.has b.s1 b.s2 b.s3 b.s4 b.s5 x1 x2 x3 x4 x5 w' (off (by rw [e1]; exact r1)) (off (by rw [e2]; exact r2)) (off (by rw [e3]; exact r3)) (off (by rw [e4]; exact r4)) (off (by rw [e5]; exact r5)) hsg hon (by omega)
  exact this
end Go.Proofs.Yteljkfihmbddaaa
