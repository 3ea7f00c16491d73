/- Plain laws of layer 14: what is laid is read back. -/
import Derived.Test.YtemlpjfngaemdaaEnvA
namespace Go.Proofs.Ytemlpjfngaemdaa
open Go.RowKit Go.Pw
set_option linter.unusedVariables false

theorem pN_be (n : Int) (l : List Int) (h : U32 n) : pN (be n 4 ++ l, false) = (n, l, false) := RN_be n 4 l h.1 (by rw [pow4]; exact h.2) (by decide)
theorem pB_be (ps l : List Int) (h : ps.length ≤ 65536) : pB (be ps.length 4 ++ ps ++ l, false) = (ps, l, false) := by
  obtain ⟨h1, h2, h3, h4⟩ := RB_be ps l 65536 (by omega) (by omega)
  unfold pB
  simp only
  rw [h1]
  simp only
  rw [h2, h3, h4]
theorem pB_be0 (ps : List Int) (h : ps.length ≤ 65536) : pB (be ps.length 4 ++ ps, false) = (ps, [], false) := by
  have := pB_be ps [] h
  simpa using this
theorem be_one (n : Int) (h0 : 0 ≤ n) (h1 : n < 256) : be n 1 = [n] := by
  simp [be]; omega
theorem pF_be (b : Bool) (l : List Int) : pF ([if b then 1 else 0] ++ l, false) = (b, l, false) := by
  have h : RN 1 ([if b then 1 else 0] ++ l) false = ((if b then 1 else 0), l, false) := by
    have := RN_be (if b then 1 else 0) 1 l (by cases b <;> decide) (by cases b <;> decide) (by decide)
    rwa [be_one _ (by cases b <;> decide) (by cases b <;> decide)] at this
  unfold pF
  simp only
  rw [h]
  cases b <;> rfl

theorem u32_u (u : Int) : U32 (IntKind.u32.wrap u) := ⟨u32_lo u, by simp [IntKind.wrap, IntKind.bits, IntKind.signed]; omega⟩

theorem pInner_be (u n : Int) (ts : List Int) (hn : U32 n) (ht : ts.length ≤ 65536) : pInner (innerB u n ts, false) = ((IntKind.u32.wrap u, n, ts), [], false) := by
  have e : innerB u n ts = be (IntKind.u32.wrap u) 4 ++ (be n 4 ++ (be ts.length 4 ++ ts)) := by simp [innerB]
  unfold pInner
  rw [e]
  simp only
  rw [pN_be _ _ (u32_u u)]
  simp only
  rw [pN_be _ _ hn]
  simp only
  rw [pB_be0 ts ht]

theorem innerB_byt (u n : Int) (ts : List Int) (h : Byt ts) : Byt (innerB u n ts) := (((be_byt _ _).app (be_byt _ _)).app (be_byt _ _)).app h
theorem innerB_len (u n : Int) (ts : List Int) : (innerB u n ts).length = ts.length + 12 := by simp [innerB, be_len]; omega
end Go.Proofs.Ytemlpjfngaemdaa
