/- Bytes of layer 14 are bytes. -/
import Derived.Test.YticojdepepkdlaaPg
set_option linter.unusedSimpArgs false
set_option linter.unusedVariables false
namespace Go.Proofs.Yticojdepepkdlaa
open Go.RowKit Go.Pw
set_option linter.unusedVariables false

theorem byt_flag (b : Bool) : Byt [if b then (1 : Int) else 0] := by
  intro x hx
  cases b <;> simp at hx <;> subst hx <;> decide
theorem byt_if {b : Bool} {l : List Int} (h : Byt l) : Byt (if b then l else []) := by
  cases b
  · exact Byt.nil
  · exact h
theorem byt_ident {a s : List Int} (ha : Byt a) (hs : Byt s) : Byt (identB a s) := (((be_byt _ _).app ha).app (be_byt _ _)).app hs
theorem byt_hello {a s k : List Int} (sg : Int) (hh : Bool) (on : Int) (ha : Byt a) (hs : Byt s) (hk : Byt k) : Byt (helloB a s k sg hh on) :=
  (((((byt_ident ha hs).app (be_byt _ _)).app hk).app (be_byt _ _)).app (byt_flag _)).app (byt_if (be_byt _ _))
end Go.Proofs.Yticojdepepkdlaa
