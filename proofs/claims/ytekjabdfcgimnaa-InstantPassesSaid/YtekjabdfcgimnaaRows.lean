/-
  No cell of these rows narrows 'for every input' (looked for: loops, veiled, ifaces, maps, wideKeys, modest, calm, conditions, laid).
  DERIVED. THE GIVEN ROWS OF THIS SEAT. 4 by the template 'for every input the law returns true; each argument reads behind the call as it read before'; 0 by the template 'total and deterministic' (their statements: YtekjabdfcgimnaaTotals.lean).
  GIVEN WITH THE SEED: the statements are not yours to turn. If you find one false, say at which input.
  Laid BY PROGRAM, IN A SANDBOX (cutbox-rows.mjs): the forced cells as the released guide's own fill.sh prints them over the translation 3f170cd73c3ad7ff… (all of the seat's roots in one cut). By AI agents, Wed Nov 11 2026. No macro, syntax, notation, axiom, sorry.
-/
import Derived.Test.YtekjabdfcgimnaaChecked
import GoSem.Claim
import GoSem.ClaimJoined
import GoSem.ClaimMapViews
import Derived.JoinedTies
import Derived.KernelRfl
namespace Go.Proofs.Ytekjabdfcgimnaa
/- THE CELL 'sum', in the pinned program and in every row, IS THE sha256 OF THE DUMP (.gsa) THAT YtekjabdfcgimnaaProg.lean LOADS. Nothing in Lean hashes anything: it is a label: what it is worth is what the hold of that sum in a sandbox is worth. -/
noncomputable def Try.pinned : Pinned := { name := "ytekjabdfcgimnaa", sum := "3f170cd73c3ad7ff6225322162bd1ca1101733f1fe70b540aa8d00edd774a126", checked := Try.checked }
namespace Rows
def none {H : Type} : Left H := { results := [], args := [] }

/-- 'pawllaw01.InstantPasses': WHATEVER THE INPUT: true; the input reads as it did. -/
def instantPassesSpec : ChangeSpec := { name := "instantPasses", fn := fun _ => fun
  | [d1, d2, d3] => { results := [.lit (.bool true)], args := [d1, d2, d3] }
  | _ => none }
def instantPassesRow : OpenClaim := { program := "ytekjabdfcgimnaa", sum := "3f170cd73c3ad7ff6225322162bd1ca1101733f1fe70b540aa8d00edd774a126", func := "pawl/pawllaw01.InstantPasses", spec := "instantPasses", inPlace := ["math.archMin", "math.Float64bits", "math.Float64frombits", "math.archMax"], apart := false }
def InstantPassesSaid : Prop := instantPassesRow.holds Try.pinned (OpenSpec.ofChange instantPassesSpec)

/-- ITS FALSE NEIGHBOUR: 'it returns false'. Refute it at one input. -/
def instantPassesWrong : ChangeSpec := { name := "instantPasses", fn := fun _ => fun
  | [d1, d2, d3] => { results := [.lit (.bool false)], args := [d1, d2, d3] }
  | _ => none }
def InstantPassesWrongFalsely : Prop := instantPassesRow.holds Try.pinned (OpenSpec.ofChange instantPassesWrong)

/-- 'pawllaw01.InstantOvers': WHATEVER THE INPUT: true; the input reads as it did. -/
def instantOversSpec : ChangeSpec := { name := "instantOvers", fn := fun _ => fun
  | [d1, d2, d3, d4] => { results := [.lit (.bool true)], args := [d1, d2, d3, d4] }
  | _ => none }
def instantOversRow : OpenClaim := { program := "ytekjabdfcgimnaa", sum := "3f170cd73c3ad7ff6225322162bd1ca1101733f1fe70b540aa8d00edd774a126", func := "pawl/pawllaw01.InstantOvers", spec := "instantOvers", inPlace := ["math.Float64bits", "math.Float64frombits", "math.archMin", "math.archMax"], apart := false }
def InstantOversSaid : Prop := instantOversRow.holds Try.pinned (OpenSpec.ofChange instantOversSpec)

/-- ITS FALSE NEIGHBOUR: 'it returns false'. Refute it at one input. -/
def instantOversWrong : ChangeSpec := { name := "instantOvers", fn := fun _ => fun
  | [d1, d2, d3, d4] => { results := [.lit (.bool false)], args := [d1, d2, d3, d4] }
  | _ => none }
def InstantOversWrongFalsely : Prop := instantOversRow.holds Try.pinned (OpenSpec.ofChange instantOversWrong)

/-- 'pawllaw01.InstantOrders': WHATEVER THE INPUT: true; the input reads as it did. -/
def instantOrdersSpec : ChangeSpec := { name := "instantOrders", fn := fun _ => fun
  | [d1, d2] => { results := [.lit (.bool true)], args := [d1, d2] }
  | _ => none }
def instantOrdersRow : OpenClaim := { program := "ytekjabdfcgimnaa", sum := "3f170cd73c3ad7ff6225322162bd1ca1101733f1fe70b540aa8d00edd774a126", func := "pawl/pawllaw01.InstantOrders", spec := "instantOrders", inPlace := ["math.Float64frombits", "math.archMin", "math.Float64bits", "math.archMax"], apart := false }
def InstantOrdersSaid : Prop := instantOrdersRow.holds Try.pinned (OpenSpec.ofChange instantOrdersSpec)

/-- ITS FALSE NEIGHBOUR: 'it returns false'. Refute it at one input. -/
def instantOrdersWrong : ChangeSpec := { name := "instantOrders", fn := fun _ => fun
  | [d1, d2] => { results := [.lit (.bool false)], args := [d1, d2] }
  | _ => none }
def InstantOrdersWrongFalsely : Prop := instantOrdersRow.holds Try.pinned (OpenSpec.ofChange instantOrdersWrong)

/-- 'pawllaw01.InstantKeys': WHATEVER THE INPUT: true; the input reads as it did. -/
def instantKeysSpec : ChangeSpec := { name := "instantKeys", fn := fun _ => fun
  | [d1, d2] => { results := [.lit (.bool true)], args := [d1, d2] }
  | _ => none }
def instantKeysRow : OpenClaim := { program := "ytekjabdfcgimnaa", sum := "3f170cd73c3ad7ff6225322162bd1ca1101733f1fe70b540aa8d00edd774a126", func := "pawl/pawllaw01.InstantKeys", spec := "instantKeys", inPlace := ["math.Float64frombits", "math.archMin", "math.Float64bits", "math.archMax"], apart := false }
def InstantKeysSaid : Prop := instantKeysRow.holds Try.pinned (OpenSpec.ofChange instantKeysSpec)

/-- ITS FALSE NEIGHBOUR: 'it returns false'. Refute it at one input. -/
def instantKeysWrong : ChangeSpec := { name := "instantKeys", fn := fun _ => fun
  | [d1, d2] => { results := [.lit (.bool false)], args := [d1, d2] }
  | _ => none }
def InstantKeysWrongFalsely : Prop := instantKeysRow.holds Try.pinned (OpenSpec.ofChange instantKeysWrong)

/- THE SECOND FORM. 'bulk': how many values and letters a reading holds, each counted each time it is reached (what is shared counts as often as it is met; a slice's spare places count too). A statement '..UptoSaid' is the law's where the arguments, and the package variables that the reading takes, are together of bulk at most 1048576: NARROWER than '..Said'. Prove '..Said' where nothing that the law and all that it calls make is longer than what came in: it says more and counts as full. Else prove '..UptoSaid'. A law counts once. -/
mutual
def uptoBulk {H : Type} : DataW H → Nat
  | .lit (.string bytes) => bytes.length + 1
  | .lit _ => 1
  | .nil => 1
  | .ptr d => uptoBulk d + 1
  | .slice elems spare => uptoBulkAll elems + uptoBulkAll spare + 1
  | .agg parts => uptoBulkAll parts + 1
  | .iface _ d => uptoBulk d + 1
  | .map entries => uptoBulkEntries entries + 1
  | .held _ => 1
def uptoBulkAll {H : Type} : List (DataW H) → Nat
  | [] => 0
  | d :: r => uptoBulk d + uptoBulkAll r
def uptoBulkEntries {H : Type} : List (Lit × DataW H) → Nat
  | [] => 0
  | x :: r => uptoBulkEntry x + uptoBulkEntries r
def uptoBulkEntry {H : Type} : Lit × DataW H → Nat
  | (.string bytes, d) => bytes.length + uptoBulk d + 1
  | (_, d) => uptoBulk d + 1
 end
def uptoSmall : (H : Type) → List (DataW H) → Bool := fun _ ds => decide (uptoBulkAll ds ≤ 1048576)
def OpenSpec.upto (s : _root_.Go.ChangeSpec) : _root_.Go.OpenSpec := { _root_.Go.OpenSpec.ofChange s with cond := some uptoSmall }

/-- 'pawllaw01.InstantPasses', WHERE WHAT IT READS IS OF BULK AT MOST 1048576: true; the input reads as it did. -/
def instantPassesUptoRow : OpenClaim := { program := "ytekjabdfcgimnaa", sum := "3f170cd73c3ad7ff6225322162bd1ca1101733f1fe70b540aa8d00edd774a126", func := "pawl/pawllaw01.InstantPasses", spec := "instantPasses", inPlace := ["math.archMin", "math.Float64bits", "math.Float64frombits", "math.archMax"], apart := false, narrowed := true }
def InstantPassesUptoSaid : Prop := instantPassesUptoRow.holds Try.pinned (OpenSpec.upto instantPassesSpec)

/-- 'pawllaw01.InstantOvers', WHERE WHAT IT READS IS OF BULK AT MOST 1048576: true; the input reads as it did. -/
def instantOversUptoRow : OpenClaim := { program := "ytekjabdfcgimnaa", sum := "3f170cd73c3ad7ff6225322162bd1ca1101733f1fe70b540aa8d00edd774a126", func := "pawl/pawllaw01.InstantOvers", spec := "instantOvers", inPlace := ["math.Float64bits", "math.Float64frombits", "math.archMin", "math.archMax"], apart := false, narrowed := true }
def InstantOversUptoSaid : Prop := instantOversUptoRow.holds Try.pinned (OpenSpec.upto instantOversSpec)

/-- 'pawllaw01.InstantOrders', WHERE WHAT IT READS IS OF BULK AT MOST 1048576: true; the input reads as it did. -/
def instantOrdersUptoRow : OpenClaim := { program := "ytekjabdfcgimnaa", sum := "3f170cd73c3ad7ff6225322162bd1ca1101733f1fe70b540aa8d00edd774a126", func := "pawl/pawllaw01.InstantOrders", spec := "instantOrders", inPlace := ["math.Float64frombits", "math.archMin", "math.Float64bits", "math.archMax"], apart := false, narrowed := true }
def InstantOrdersUptoSaid : Prop := instantOrdersUptoRow.holds Try.pinned (OpenSpec.upto instantOrdersSpec)

/-- 'pawllaw01.InstantKeys', WHERE WHAT IT READS IS OF BULK AT MOST 1048576: true; the input reads as it did. -/
def instantKeysUptoRow : OpenClaim := { program := "ytekjabdfcgimnaa", sum := "3f170cd73c3ad7ff6225322162bd1ca1101733f1fe70b540aa8d00edd774a126", func := "pawl/pawllaw01.InstantKeys", spec := "instantKeys", inPlace := ["math.Float64frombits", "math.archMin", "math.Float64bits", "math.archMax"], apart := false, narrowed := true }
def InstantKeysUptoSaid : Prop := instantKeysUptoRow.holds Try.pinned (OpenSpec.upto instantKeysSpec)

end Rows
end Go.Proofs.Ytekjabdfcgimnaa
