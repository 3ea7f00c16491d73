/- A region that draws its order, driven by hand, one operation at a time: the condition on the world may be made narrower behind a call. No program. -/
import Derived.Test.YtdlbkdnpbcpjfaaBase
import Derived.Deep.RegionHeld3
namespace Go.Pw
open Go.RowKit
set_option linter.unusedVariables false

variable {P : Program} {ops : Array Oper} {Q : Exit → Act → World → Prop} {md : Region.Mode} {S S' : World → Prop}

/-- What is shown under a narrower condition holds under the wider one. -/
theorem wpAnyH_more (h : ∀ w, S' w → S w) : ∀ (fuel : Nat) (listed : Array Bool) (a : Act) (w : World), wpAnyH P md ops Q S' fuel listed a w → wpAnyH P md ops Q S fuel listed a w
  | 0, _, _, _, hh => hh
  | fuel + 1, _, _, _, hh => ⟨hh.1, fun i hi => wpOp_mono (fun a' w' h' => ⟨h w' h'.1, wpAnyH_more h fuel _ a' w' h'.2⟩) (hh.2 i hi)⟩

/-- The operation that stands at a place. -/
theorem op_at {l : List Oper} {i : Nat} {oi : Oper} {rest : List Oper} (h : l.drop i = oi :: rest) : l.toArray[i]? = some oi := by
  rw [List.getElem?_toArray, ← List.head?_drop, h]
  rfl
/-- A block of cells, as a range. -/
theorem range_of {w : World} {b : Nat} {l : List Value} {t : TypeId} {fr : Nat × Nat} (h : w.heap[b]? = some (.cells l.toArray t fr)) : w.rangeAt b 0 l := fun j v hv => by
  rw [cell_in h, Nat.zero_add]
  simpa using hv
end Go.Pw
