/-
  No cell of these rows narrows 'for every input' (looked for: loops, veiled, ifaces, maps, wideKeys, modest, calm, conditions, laid).
  DERIVED. THE GIVEN ROWS OF THIS SEAT. 4 by the template 'for every input the law returns true; each argument reads behind the call as it read before'; 0 by the template 'total and deterministic' (their statements: YteljkfihmbddaaaTotals.lean).
  GIVEN WITH THE SEED: the statements are not yours to turn. If you find one false, say at which input.
  Laid BY PROGRAM, IN A SANDBOX (cutbox-rows.mjs): the forced cells as the released guide's own fill.sh prints them over the translation eae5052565aab525… (all of the seat's roots in one cut). By AI agents, Wed Nov 11 2026. No macro, syntax, notation, axiom, sorry.
-/
import Derived.Test.YteljkfihmbddaaaChecked
import GoSem.Claim
import GoSem.ClaimJoined
import GoSem.ClaimMapViews
import Derived.JoinedTies
import Derived.KernelRfl
namespace Go.Proofs.Yteljkfihmbddaaa
/- THE CELL 'sum', in the pinned program and in every row, IS THE sha256 OF THE DUMP (.gsa) THAT YteljkfihmbddaaaProg.lean LOADS. Nothing in Lean hashes anything: it is a label: what it is worth is what the hold of that sum in a sandbox is worth. -/
noncomputable def Try.pinned : Pinned := { name := "yteljkfihmbddaaa", sum := "eae5052565aab52545755b92a4ccff788bd663402369fc473e6a8112370e2098", checked := Try.checked }
namespace Rows
def none {H : Type} : Left H := { results := [], args := [] }

/-- 'pawllaw17.RegistryFull': WHATEVER THE INPUT: true; the input reads as it did. -/
def registryFullSpec : ChangeSpec := { name := "registryFull", fn := fun _ => fun
  | [d] => { results := [.lit (.bool true)], args := [d] }
  | _ => none }
def registryFullRow : OpenClaim := { program := "yteljkfihmbddaaa", sum := "eae5052565aab52545755b92a4ccff788bd663402369fc473e6a8112370e2098", func := "pawl/pawllaw17.RegistryFull", spec := "registryFull", inPlace := ["slices.overlaps[pawl/registry.line]"], unfollowed := true, recurses := true, apart := false }
def RegistryFullSaid : Prop := registryFullRow.holds Try.pinned (OpenSpec.ofChange registryFullSpec)

/-- ITS FALSE NEIGHBOUR: 'it returns false'. Refute it at one input. -/
def registryFullWrong : ChangeSpec := { name := "registryFull", fn := fun _ => fun
  | [d] => { results := [.lit (.bool false)], args := [d] }
  | _ => none }
def RegistryFullWrongFalsely : Prop := registryFullRow.holds Try.pinned (OpenSpec.ofChange registryFullWrong)

/-- 'pawllaw17.RegistryTakes': WHATEVER THE INPUT: true; the input reads as it did. -/
def registryTakesSpec : ChangeSpec := { name := "registryTakes", fn := fun _ => fun
  | [d1, d2] => { results := [.lit (.bool true)], args := [d1, d2] }
  | _ => none }
def registryTakesRow : OpenClaim := { program := "yteljkfihmbddaaa", sum := "eae5052565aab52545755b92a4ccff788bd663402369fc473e6a8112370e2098", func := "pawl/pawllaw17.RegistryTakes", spec := "registryTakes", inPlace := ["slices.overlaps[pawl/registry.line]"], unfollowed := true, recurses := true, apart := false }
def RegistryTakesSaid : Prop := registryTakesRow.holds Try.pinned (OpenSpec.ofChange registryTakesSpec)

/-- ITS FALSE NEIGHBOUR: 'it returns false'. Refute it at one input. -/
def registryTakesWrong : ChangeSpec := { name := "registryTakes", fn := fun _ => fun
  | [d1, d2] => { results := [.lit (.bool false)], args := [d1, d2] }
  | _ => none }
def RegistryTakesWrongFalsely : Prop := registryTakesRow.holds Try.pinned (OpenSpec.ofChange registryTakesWrong)

/-- 'pawllaw17.RegistryPlays': WHATEVER THE INPUT: true; the input reads as it did. -/
def registryPlaysSpec : ChangeSpec := { name := "registryPlays", fn := fun _ => fun
  | [d] => { results := [.lit (.bool true)], args := [d] }
  | _ => none }
def registryPlaysRow : OpenClaim := { program := "yteljkfihmbddaaa", sum := "eae5052565aab52545755b92a4ccff788bd663402369fc473e6a8112370e2098", func := "pawl/pawllaw17.RegistryPlays", spec := "registryPlays", inPlace := ["slices.overlaps[pawl/registry.line]"], unfollowed := true, recurses := true, apart := false }
def RegistryPlaysSaid : Prop := registryPlaysRow.holds Try.pinned (OpenSpec.ofChange registryPlaysSpec)

/-- ITS FALSE NEIGHBOUR: 'it returns false'. Refute it at one input. -/
def registryPlaysWrong : ChangeSpec := { name := "registryPlays", fn := fun _ => fun
  | [d] => { results := [.lit (.bool false)], args := [d] }
  | _ => none }
def RegistryPlaysWrongFalsely : Prop := registryPlaysRow.holds Try.pinned (OpenSpec.ofChange registryPlaysWrong)

/-- 'pawllaw17.RegistryNil': WHATEVER THE INPUT: true; the input reads as it did. -/
def registryNilSpec : ChangeSpec := { name := "registryNil", fn := fun _ => fun
  | [d1, d2] => { results := [.lit (.bool true)], args := [d1, d2] }
  | _ => none }
def registryNilRow : OpenClaim := { program := "yteljkfihmbddaaa", sum := "eae5052565aab52545755b92a4ccff788bd663402369fc473e6a8112370e2098", func := "pawl/pawllaw17.RegistryNil", spec := "registryNil", inPlace := ["slices.overlaps[pawl/registry.line]"], unfollowed := true, recurses := true, apart := false }
def RegistryNilSaid : Prop := registryNilRow.holds Try.pinned (OpenSpec.ofChange registryNilSpec)

/-- ITS FALSE NEIGHBOUR: 'it returns false'. Refute it at one input. -/
def registryNilWrong : ChangeSpec := { name := "registryNil", fn := fun _ => fun
  | [d1, d2] => { results := [.lit (.bool false)], args := [d1, d2] }
  | _ => none }
def RegistryNilWrongFalsely : Prop := registryNilRow.holds Try.pinned (OpenSpec.ofChange registryNilWrong)

/- THE SECOND FORM. 'bulk': how many values and letters a reading holds, each counted each time it is reached (what is shared counts as often as it is met; a slice's spare places count too). A statement '..UptoSaid' is the law's where the arguments, and the package variables that the reading takes, are together of bulk at most 1048576: NARROWER than '..Said'. Prove '..Said' where nothing that the law and all that it calls make is longer than what came in: it says more and counts as full. Else prove '..UptoSaid'. A law counts once. -/
mutual
def uptoBulk {H : Type} : DataW H → Nat
  | .lit (.string bytes) => bytes.length + 1
  | .lit _ => 1
  | .nil => 1
  | .ptr d => uptoBulk d + 1
  | .slice elems spare => uptoBulkAll elems + uptoBulkAll spare + 1
  | .agg parts => uptoBulkAll parts + 1
  | .iface _ d => uptoBulk d + 1
  | .map entries => uptoBulkEntries entries + 1
  | .held _ => 1
def uptoBulkAll {H : Type} : List (DataW H) → Nat
  | [] => 0
  | d :: r => uptoBulk d + uptoBulkAll r
def uptoBulkEntries {H : Type} : List (Lit × DataW H) → Nat
  | [] => 0
  | x :: r => uptoBulkEntry x + uptoBulkEntries r
def uptoBulkEntry {H : Type} : Lit × DataW H → Nat
  | (.string bytes, d) => bytes.length + uptoBulk d + 1
  | (_, d) => uptoBulk d + 1
 end
def uptoSmall : (H : Type) → List (DataW H) → Bool := fun _ ds => decide (uptoBulkAll ds ≤ 1048576)
def OpenSpec.upto (s : _root_.Go.ChangeSpec) : _root_.Go.OpenSpec := { _root_.Go.OpenSpec.ofChange s with cond := some uptoSmall }

/-- 'pawllaw17.RegistryFull', WHERE WHAT IT READS IS OF BULK AT MOST 1048576: true; the input reads as it did. -/
def registryFullUptoRow : OpenClaim := { program := "yteljkfihmbddaaa", sum := "eae5052565aab52545755b92a4ccff788bd663402369fc473e6a8112370e2098", func := "pawl/pawllaw17.RegistryFull", spec := "registryFull", inPlace := ["slices.overlaps[pawl/registry.line]"], unfollowed := true, recurses := true, apart := false, narrowed := true }
def RegistryFullUptoSaid : Prop := registryFullUptoRow.holds Try.pinned (OpenSpec.upto registryFullSpec)

/-- 'pawllaw17.RegistryTakes', WHERE WHAT IT READS IS OF BULK AT MOST 1048576: true; the input reads as it did. -/
def registryTakesUptoRow : OpenClaim := { program := "yteljkfihmbddaaa", sum := "eae5052565aab52545755b92a4ccff788bd663402369fc473e6a8112370e2098", func := "pawl/pawllaw17.RegistryTakes", spec := "registryTakes", inPlace := ["slices.overlaps[pawl/registry.line]"], unfollowed := true, recurses := true, apart := false, narrowed := true }
def RegistryTakesUptoSaid : Prop := registryTakesUptoRow.holds Try.pinned (OpenSpec.upto registryTakesSpec)

/-- 'pawllaw17.RegistryPlays', WHERE WHAT IT READS IS OF BULK AT MOST 1048576: true; the input reads as it did. -/
def registryPlaysUptoRow : OpenClaim := { program := "yteljkfihmbddaaa", sum := "eae5052565aab52545755b92a4ccff788bd663402369fc473e6a8112370e2098", func := "pawl/pawllaw17.RegistryPlays", spec := "registryPlays", inPlace := ["slices.overlaps[pawl/registry.line]"], unfollowed := true, recurses := true, apart := false, narrowed := true }
def RegistryPlaysUptoSaid : Prop := registryPlaysUptoRow.holds Try.pinned (OpenSpec.upto registryPlaysSpec)

/-- 'pawllaw17.RegistryNil', WHERE WHAT IT READS IS OF BULK AT MOST 1048576: true; the input reads as it did. -/
def registryNilUptoRow : OpenClaim := { program := "yteljkfihmbddaaa", sum := "eae5052565aab52545755b92a4ccff788bd663402369fc473e6a8112370e2098", func := "pawl/pawllaw17.RegistryNil", spec := "registryNil", inPlace := ["slices.overlaps[pawl/registry.line]"], unfollowed := true, recurses := true, apart := false, narrowed := true }
def RegistryNilUptoSaid : Prop := registryNilUptoRow.holds Try.pinned (OpenSpec.upto registryNilSpec)

end Rows
end Go.Proofs.Yteljkfihmbddaaa
