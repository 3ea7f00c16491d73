/-
  No cell of these rows narrows 'for every input' (looked for: loops, veiled, ifaces, maps, wideKeys, modest, calm, conditions, laid).
  DERIVED. THE GIVEN ROWS OF THIS SEAT. 5 by the template 'for every input the law returns true; each argument reads behind the call as it read before'; 0 by the template 'total and deterministic' (their statements: YtemmdhfmdgpfmaaTotals.lean).
  GIVEN WITH THE SEED: the statements are not yours to turn. If you find one false, say at which input.
  Laid BY PROGRAM, IN A SANDBOX (cutbox-rows.mjs): the forced cells as the released guide's own fill.sh prints them over the translation b92bd042fef2e901… (all of the seat's roots in one cut). By AI agents, Wed Nov 11 2026. No macro, syntax, notation, axiom, sorry.
-/
import Derived.Test.YtemmdhfmdgpfmaaChecked
import GoSem.Claim
import GoSem.ClaimJoined
import GoSem.ClaimMapViews
import Derived.JoinedTies
import Derived.KernelRfl
namespace Go.Proofs.Ytemmdhfmdgpfmaa
/- THE CELL 'sum', in the pinned program and in every row, IS THE sha256 OF THE DUMP (.gsa) THAT YtemmdhfmdgpfmaaProg.lean LOADS. Nothing in Lean hashes anything: it is a label: what it is worth is what the hold of that sum in a sandbox is worth. -/
noncomputable def Try.pinned : Pinned := { name := "ytemmdhfmdgpfmaa", sum := "b92bd042fef2e901fa02d678940da9c4af1ce7b3770093f17ddefab446499799", checked := Try.checked }
namespace Rows
def none {H : Type} : Left H := { results := [], args := [] }

/-- 'pawllaw05.ChachaTags': WHATEVER THE INPUT: true; the input reads as it did. -/
def chachaTagsSpec : ChangeSpec := { name := "chachaTags", fn := fun _ => fun
  | [d1, d2] => { results := [.lit (.bool true)], args := [d1, d2] }
  | _ => none }
def chachaTagsRow : OpenClaim := { program := "ytemmdhfmdgpfmaa", sum := "b92bd042fef2e901fa02d678940da9c4af1ce7b3770093f17ddefab446499799", func := "pawl/pawllaw05.ChachaTags", spec := "chachaTags", apart := false }
def ChachaTagsSaid : Prop := chachaTagsRow.holds Try.pinned (OpenSpec.ofChange chachaTagsSpec)

/-- ITS FALSE NEIGHBOUR: 'it returns false'. Refute it at one input. -/
def chachaTagsWrong : ChangeSpec := { name := "chachaTags", fn := fun _ => fun
  | [d1, d2] => { results := [.lit (.bool false)], args := [d1, d2] }
  | _ => none }
def ChachaTagsWrongFalsely : Prop := chachaTagsRow.holds Try.pinned (OpenSpec.ofChange chachaTagsWrong)

/-- 'pawllaw05.ChachaBlocks': WHATEVER THE INPUT: true; the input reads as it did. -/
def chachaBlocksSpec : ChangeSpec := { name := "chachaBlocks", fn := fun _ => fun
  | [d1, d2, d3] => { results := [.lit (.bool true)], args := [d1, d2, d3] }
  | _ => none }
def chachaBlocksRow : OpenClaim := { program := "ytemmdhfmdgpfmaa", sum := "b92bd042fef2e901fa02d678940da9c4af1ce7b3770093f17ddefab446499799", func := "pawl/pawllaw05.ChachaBlocks", spec := "chachaBlocks", apart := false }
def ChachaBlocksSaid : Prop := chachaBlocksRow.holds Try.pinned (OpenSpec.ofChange chachaBlocksSpec)

/-- ITS FALSE NEIGHBOUR: 'it returns false'. Refute it at one input. -/
def chachaBlocksWrong : ChangeSpec := { name := "chachaBlocks", fn := fun _ => fun
  | [d1, d2, d3] => { results := [.lit (.bool false)], args := [d1, d2, d3] }
  | _ => none }
def ChachaBlocksWrongFalsely : Prop := chachaBlocksRow.holds Try.pinned (OpenSpec.ofChange chachaBlocksWrong)

/-- 'pawllaw05.ChachaStreams': WHATEVER THE INPUT: true; the input reads as it did. -/
def chachaStreamsSpec : ChangeSpec := { name := "chachaStreams", fn := fun _ => fun
  | [d1, d2, d3, d4] => { results := [.lit (.bool true)], args := [d1, d2, d3, d4] }
  | _ => none }
def chachaStreamsRow : OpenClaim := { program := "ytemmdhfmdgpfmaa", sum := "b92bd042fef2e901fa02d678940da9c4af1ce7b3770093f17ddefab446499799", func := "pawl/pawllaw05.ChachaStreams", spec := "chachaStreams", apart := false }
def ChachaStreamsSaid : Prop := chachaStreamsRow.holds Try.pinned (OpenSpec.ofChange chachaStreamsSpec)

/-- ITS FALSE NEIGHBOUR: 'it returns false'. Refute it at one input. -/
def chachaStreamsWrong : ChangeSpec := { name := "chachaStreams", fn := fun _ => fun
  | [d1, d2, d3, d4] => { results := [.lit (.bool false)], args := [d1, d2, d3, d4] }
  | _ => none }
def ChachaStreamsWrongFalsely : Prop := chachaStreamsRow.holds Try.pinned (OpenSpec.ofChange chachaStreamsWrong)

/-- 'pawllaw05.ChachaOpens': WHATEVER THE INPUT: true; the input reads as it did. -/
def chachaOpensSpec : ChangeSpec := { name := "chachaOpens", fn := fun _ => fun
  | [d1, d2, d3, d4, d5] => { results := [.lit (.bool true)], args := [d1, d2, d3, d4, d5] }
  | _ => none }
def chachaOpensRow : OpenClaim := { program := "ytemmdhfmdgpfmaa", sum := "b92bd042fef2e901fa02d678940da9c4af1ce7b3770093f17ddefab446499799", func := "pawl/pawllaw05.ChachaOpens", spec := "chachaOpens", apart := false }
def ChachaOpensSaid : Prop := chachaOpensRow.holds Try.pinned (OpenSpec.ofChange chachaOpensSpec)

/-- ITS FALSE NEIGHBOUR: 'it returns false'. Refute it at one input. -/
def chachaOpensWrong : ChangeSpec := { name := "chachaOpens", fn := fun _ => fun
  | [d1, d2, d3, d4, d5] => { results := [.lit (.bool false)], args := [d1, d2, d3, d4, d5] }
  | _ => none }
def ChachaOpensWrongFalsely : Prop := chachaOpensRow.holds Try.pinned (OpenSpec.ofChange chachaOpensWrong)

/-- 'pawllaw05.ChachaSeals': WHATEVER THE INPUT: true; the input reads as it did. -/
def chachaSealsSpec : ChangeSpec := { name := "chachaSeals", fn := fun _ => fun
  | [d1, d2, d3, d4] => { results := [.lit (.bool true)], args := [d1, d2, d3, d4] }
  | _ => none }
def chachaSealsRow : OpenClaim := { program := "ytemmdhfmdgpfmaa", sum := "b92bd042fef2e901fa02d678940da9c4af1ce7b3770093f17ddefab446499799", func := "pawl/pawllaw05.ChachaSeals", spec := "chachaSeals", apart := false }
def ChachaSealsSaid : Prop := chachaSealsRow.holds Try.pinned (OpenSpec.ofChange chachaSealsSpec)

/-- ITS FALSE NEIGHBOUR: 'it returns false'. Refute it at one input. -/
def chachaSealsWrong : ChangeSpec := { name := "chachaSeals", fn := fun _ => fun
  | [d1, d2, d3, d4] => { results := [.lit (.bool false)], args := [d1, d2, d3, d4] }
  | _ => none }
def ChachaSealsWrongFalsely : Prop := chachaSealsRow.holds Try.pinned (OpenSpec.ofChange chachaSealsWrong)

/- THE SECOND FORM. 'bulk': how many values and letters a reading holds, each counted each time it is reached (what is shared counts as often as it is met; a slice's spare places count too). A statement '..UptoSaid' is the law's where the arguments, and the package variables that the reading takes, are together of bulk at most 1048576: NARROWER than '..Said'. Prove '..Said' where nothing that the law and all that it calls make is longer than what came in: it says more and counts as full. Else prove '..UptoSaid'. A law counts once. -/
mutual
def uptoBulk {H : Type} : DataW H → Nat
  | .lit (.string bytes) => bytes.length + 1
  | .lit _ => 1
  | .nil => 1
  | .ptr d => uptoBulk d + 1
  | .slice elems spare => uptoBulkAll elems + uptoBulkAll spare + 1
  | .agg parts => uptoBulkAll parts + 1
  | .iface _ d => uptoBulk d + 1
  | .map entries => uptoBulkEntries entries + 1
  | .held _ => 1
def uptoBulkAll {H : Type} : List (DataW H) → Nat
  | [] => 0
  | d :: r => uptoBulk d + uptoBulkAll r
def uptoBulkEntries {H : Type} : List (Lit × DataW H) → Nat
  | [] => 0
  | x :: r => uptoBulkEntry x + uptoBulkEntries r
def uptoBulkEntry {H : Type} : Lit × DataW H → Nat
  | (.string bytes, d) => bytes.length + uptoBulk d + 1
  | (_, d) => uptoBulk d + 1
 end
def uptoSmall : (H : Type) → List (DataW H) → Bool := fun _ ds => decide (uptoBulkAll ds ≤ 1048576)
def OpenSpec.upto (s : _root_.Go.ChangeSpec) : _root_.Go.OpenSpec := { _root_.Go.OpenSpec.ofChange s with cond := some uptoSmall }

/-- 'pawllaw05.ChachaTags', WHERE WHAT IT READS IS OF BULK AT MOST 1048576: true; the input reads as it did. -/
def chachaTagsUptoRow : OpenClaim := { program := "ytemmdhfmdgpfmaa", sum := "b92bd042fef2e901fa02d678940da9c4af1ce7b3770093f17ddefab446499799", func := "pawl/pawllaw05.ChachaTags", spec := "chachaTags", apart := false, narrowed := true }
def ChachaTagsUptoSaid : Prop := chachaTagsUptoRow.holds Try.pinned (OpenSpec.upto chachaTagsSpec)

/-- 'pawllaw05.ChachaBlocks', WHERE WHAT IT READS IS OF BULK AT MOST 1048576: true; the input reads as it did. -/
def chachaBlocksUptoRow : OpenClaim := { program := "ytemmdhfmdgpfmaa", sum := "b92bd042fef2e901fa02d678940da9c4af1ce7b3770093f17ddefab446499799", func := "pawl/pawllaw05.ChachaBlocks", spec := "chachaBlocks", apart := false, narrowed := true }
def ChachaBlocksUptoSaid : Prop := chachaBlocksUptoRow.holds Try.pinned (OpenSpec.upto chachaBlocksSpec)

/-- 'pawllaw05.ChachaStreams', WHERE WHAT IT READS IS OF BULK AT MOST 1048576: true; the input reads as it did. -/
def chachaStreamsUptoRow : OpenClaim := { program := "ytemmdhfmdgpfmaa", sum := "b92bd042fef2e901fa02d678940da9c4af1ce7b3770093f17ddefab446499799", func := "pawl/pawllaw05.ChachaStreams", spec := "chachaStreams", apart := false, narrowed := true }
def ChachaStreamsUptoSaid : Prop := chachaStreamsUptoRow.holds Try.pinned (OpenSpec.upto chachaStreamsSpec)

/-- 'pawllaw05.ChachaOpens', WHERE WHAT IT READS IS OF BULK AT MOST 1048576: true; the input reads as it did. -/
def chachaOpensUptoRow : OpenClaim := { program := "ytemmdhfmdgpfmaa", sum := "b92bd042fef2e901fa02d678940da9c4af1ce7b3770093f17ddefab446499799", func := "pawl/pawllaw05.ChachaOpens", spec := "chachaOpens", apart := false, narrowed := true }
def ChachaOpensUptoSaid : Prop := chachaOpensUptoRow.holds Try.pinned (OpenSpec.upto chachaOpensSpec)

/-- 'pawllaw05.ChachaSeals', WHERE WHAT IT READS IS OF BULK AT MOST 1048576: true; the input reads as it did. -/
def chachaSealsUptoRow : OpenClaim := { program := "ytemmdhfmdgpfmaa", sum := "b92bd042fef2e901fa02d678940da9c4af1ce7b3770093f17ddefab446499799", func := "pawl/pawllaw05.ChachaSeals", spec := "chachaSeals", apart := false, narrowed := true }
def ChachaSealsUptoSaid : Prop := chachaSealsUptoRow.holds Try.pinned (OpenSpec.upto chachaSealsSpec)

end Rows
end Go.Proofs.Ytemmdhfmdgpfmaa
