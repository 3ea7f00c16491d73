/-
  No cell of these rows narrows 'for every input' (looked for: loops, veiled, ifaces, maps, wideKeys, modest, calm, conditions, laid).
  DERIVED. THE GIVEN ROWS OF THIS SEAT. 10 by the template 'for every input the law returns true; each argument reads behind the call as it read before'; 0 by the template 'total and deterministic' (their statements: YtemlpjfngaemdaaTotals.lean).
  GIVEN WITH THE SEED: the statements are not yours to turn. If you find one false, say at which input.
  Laid BY PROGRAM, IN A SANDBOX (cutbox-rows.mjs): the forced cells as the released guide's own fill.sh prints them over the translation d33d7c1ffb30e822… (all of the seat's roots in one cut). By AI agents, Wed Nov 11 2026. No macro, syntax, notation, axiom, sorry.
-/
import Derived.Test.YtemlpjfngaemdaaChecked
import GoSem.Claim
import GoSem.ClaimJoined
import GoSem.ClaimMapViews
import Derived.JoinedTies
import Derived.KernelRfl
namespace Go.Proofs.Ytemlpjfngaemdaa
/- THE CELL 'sum', in the pinned program and in every row, IS THE sha256 OF THE DUMP (.gsa) THAT YtemlpjfngaemdaaProg.lean LOADS. Nothing in Lean hashes anything: it is a label: what it is worth is what the hold of that sum in a sandbox is worth. -/
noncomputable def Try.pinned : Pinned := { name := "ytemlpjfngaemdaa", sum := "d33d7c1ffb30e82261fc492f32c29e173b0003edd011cbfcad014036220b4bd0", checked := Try.checked }
namespace Rows
def none {H : Type} : Left H := { results := [], args := [] }

/-- 'pawllaw09.WireKeeps': WHATEVER THE INPUT: true; the input reads as it did. -/
def wireKeepsSpec : ChangeSpec := { name := "wireKeeps", fn := fun _ => fun
  | [d] => { results := [.lit (.bool true)], args := [d] }
  | _ => none }
def wireKeepsRow : OpenClaim := { program := "ytemlpjfngaemdaa", sum := "d33d7c1ffb30e82261fc492f32c29e173b0003edd011cbfcad014036220b4bd0", func := "pawl/pawllaw09.WireKeeps", spec := "wireKeeps", apart := false }
def WireKeepsSaid : Prop := wireKeepsRow.holds Try.pinned (OpenSpec.ofChange wireKeepsSpec)

/-- ITS FALSE NEIGHBOUR: 'it returns false'. Refute it at one input. -/
def wireKeepsWrong : ChangeSpec := { name := "wireKeeps", fn := fun _ => fun
  | [d] => { results := [.lit (.bool false)], args := [d] }
  | _ => none }
def WireKeepsWrongFalsely : Prop := wireKeepsRow.holds Try.pinned (OpenSpec.ofChange wireKeepsWrong)

/-- 'pawllaw14.EnvelopeApart': WHATEVER THE INPUT: true; the input reads as it did. -/
def envelopeApartSpec : ChangeSpec := { name := "envelopeApart", fn := fun _ => fun
  | [d1, d2, d3] => { results := [.lit (.bool true)], args := [d1, d2, d3] }
  | _ => none }
def envelopeApartRow : OpenClaim := { program := "ytemlpjfngaemdaa", sum := "d33d7c1ffb30e82261fc492f32c29e173b0003edd011cbfcad014036220b4bd0", func := "pawl/pawllaw14.EnvelopeApart", spec := "envelopeApart", apart := false }
def EnvelopeApartSaid : Prop := envelopeApartRow.holds Try.pinned (OpenSpec.ofChange envelopeApartSpec)

/-- ITS FALSE NEIGHBOUR: 'it returns false'. Refute it at one input. -/
def envelopeApartWrong : ChangeSpec := { name := "envelopeApart", fn := fun _ => fun
  | [d1, d2, d3] => { results := [.lit (.bool false)], args := [d1, d2, d3] }
  | _ => none }
def EnvelopeApartWrongFalsely : Prop := envelopeApartRow.holds Try.pinned (OpenSpec.ofChange envelopeApartWrong)

/-- 'pawllaw14.EnvelopeInners': WHATEVER THE INPUT: true; the input reads as it did. -/
def envelopeInnersSpec : ChangeSpec := { name := "envelopeInners", fn := fun _ => fun
  | [d] => { results := [.lit (.bool true)], args := [d] }
  | _ => none }
def envelopeInnersRow : OpenClaim := { program := "ytemlpjfngaemdaa", sum := "d33d7c1ffb30e82261fc492f32c29e173b0003edd011cbfcad014036220b4bd0", func := "pawl/pawllaw14.EnvelopeInners", spec := "envelopeInners", apart := false }
def EnvelopeInnersSaid : Prop := envelopeInnersRow.holds Try.pinned (OpenSpec.ofChange envelopeInnersSpec)

/-- ITS FALSE NEIGHBOUR: 'it returns false'. Refute it at one input. -/
def envelopeInnersWrong : ChangeSpec := { name := "envelopeInners", fn := fun _ => fun
  | [d] => { results := [.lit (.bool false)], args := [d] }
  | _ => none }
def EnvelopeInnersWrongFalsely : Prop := envelopeInnersRow.holds Try.pinned (OpenSpec.ofChange envelopeInnersWrong)

/-- 'pawllaw09.WireReads': WHATEVER THE INPUT: true; the input reads as it did. -/
def wireReadsSpec : ChangeSpec := { name := "wireReads", fn := fun _ => fun
  | [d1, d2] => { results := [.lit (.bool true)], args := [d1, d2] }
  | _ => none }
def wireReadsRow : OpenClaim := { program := "ytemlpjfngaemdaa", sum := "d33d7c1ffb30e82261fc492f32c29e173b0003edd011cbfcad014036220b4bd0", func := "pawl/pawllaw09.WireReads", spec := "wireReads", apart := false }
def WireReadsSaid : Prop := wireReadsRow.holds Try.pinned (OpenSpec.ofChange wireReadsSpec)

/-- ITS FALSE NEIGHBOUR: 'it returns false'. Refute it at one input. -/
def wireReadsWrong : ChangeSpec := { name := "wireReads", fn := fun _ => fun
  | [d1, d2] => { results := [.lit (.bool false)], args := [d1, d2] }
  | _ => none }
def WireReadsWrongFalsely : Prop := wireReadsRow.holds Try.pinned (OpenSpec.ofChange wireReadsWrong)

/-- 'pawllaw09.WireNil': WHATEVER THE INPUT: true; the input reads as it did. -/
def wireNilSpec : ChangeSpec := { name := "wireNil", fn := fun _ => fun
  | [d1, d2] => { results := [.lit (.bool true)], args := [d1, d2] }
  | _ => none }
def wireNilRow : OpenClaim := { program := "ytemlpjfngaemdaa", sum := "d33d7c1ffb30e82261fc492f32c29e173b0003edd011cbfcad014036220b4bd0", func := "pawl/pawllaw09.WireNil", spec := "wireNil", apart := false }
def WireNilSaid : Prop := wireNilRow.holds Try.pinned (OpenSpec.ofChange wireNilSpec)

/-- ITS FALSE NEIGHBOUR: 'it returns false'. Refute it at one input. -/
def wireNilWrong : ChangeSpec := { name := "wireNil", fn := fun _ => fun
  | [d1, d2] => { results := [.lit (.bool false)], args := [d1, d2] }
  | _ => none }
def WireNilWrongFalsely : Prop := wireNilRow.holds Try.pinned (OpenSpec.ofChange wireNilWrong)

/-- 'pawllaw09.WireWrites': WHATEVER THE INPUT: true; the input reads as it did. -/
def wireWritesSpec : ChangeSpec := { name := "wireWrites", fn := fun _ => fun
  | [d1, d2, d3, d4] => { results := [.lit (.bool true)], args := [d1, d2, d3, d4] }
  | _ => none }
def wireWritesRow : OpenClaim := { program := "ytemlpjfngaemdaa", sum := "d33d7c1ffb30e82261fc492f32c29e173b0003edd011cbfcad014036220b4bd0", func := "pawl/pawllaw09.WireWrites", spec := "wireWrites", apart := false }
def WireWritesSaid : Prop := wireWritesRow.holds Try.pinned (OpenSpec.ofChange wireWritesSpec)

/-- ITS FALSE NEIGHBOUR: 'it returns false'. Refute it at one input. -/
def wireWritesWrong : ChangeSpec := { name := "wireWrites", fn := fun _ => fun
  | [d1, d2, d3, d4] => { results := [.lit (.bool false)], args := [d1, d2, d3, d4] }
  | _ => none }
def WireWritesWrongFalsely : Prop := wireWritesRow.holds Try.pinned (OpenSpec.ofChange wireWritesWrong)

/-- 'pawllaw14.EnvelopeHellos': WHATEVER THE INPUT: true; the input reads as it did. -/
def envelopeHellosSpec : ChangeSpec := { name := "envelopeHellos", fn := fun _ => fun
  | [d] => { results := [.lit (.bool true)], args := [d] }
  | _ => none }
def envelopeHellosRow : OpenClaim := { program := "ytemlpjfngaemdaa", sum := "d33d7c1ffb30e82261fc492f32c29e173b0003edd011cbfcad014036220b4bd0", func := "pawl/pawllaw14.EnvelopeHellos", spec := "envelopeHellos", apart := false }
def EnvelopeHellosSaid : Prop := envelopeHellosRow.holds Try.pinned (OpenSpec.ofChange envelopeHellosSpec)

/-- ITS FALSE NEIGHBOUR: 'it returns false'. Refute it at one input. -/
def envelopeHellosWrong : ChangeSpec := { name := "envelopeHellos", fn := fun _ => fun
  | [d] => { results := [.lit (.bool false)], args := [d] }
  | _ => none }
def EnvelopeHellosWrongFalsely : Prop := envelopeHellosRow.holds Try.pinned (OpenSpec.ofChange envelopeHellosWrong)

/-- 'pawllaw14.EnvelopeBundles': WHATEVER THE INPUT: true; the input reads as it did. -/
def envelopeBundlesSpec : ChangeSpec := { name := "envelopeBundles", fn := fun _ => fun
  | [d] => { results := [.lit (.bool true)], args := [d] }
  | _ => none }
def envelopeBundlesRow : OpenClaim := { program := "ytemlpjfngaemdaa", sum := "d33d7c1ffb30e82261fc492f32c29e173b0003edd011cbfcad014036220b4bd0", func := "pawl/pawllaw14.EnvelopeBundles", spec := "envelopeBundles", apart := false }
def EnvelopeBundlesSaid : Prop := envelopeBundlesRow.holds Try.pinned (OpenSpec.ofChange envelopeBundlesSpec)

/-- ITS FALSE NEIGHBOUR: 'it returns false'. Refute it at one input. -/
def envelopeBundlesWrong : ChangeSpec := { name := "envelopeBundles", fn := fun _ => fun
  | [d] => { results := [.lit (.bool false)], args := [d] }
  | _ => none }
def EnvelopeBundlesWrongFalsely : Prop := envelopeBundlesRow.holds Try.pinned (OpenSpec.ofChange envelopeBundlesWrong)

/-- 'pawllaw14.EnvelopeBytes': WHATEVER THE INPUT: true; the input reads as it did. -/
def envelopeBytesSpec : ChangeSpec := { name := "envelopeBytes", fn := fun _ => fun
  | [d] => { results := [.lit (.bool true)], args := [d] }
  | _ => none }
def envelopeBytesRow : OpenClaim := { program := "ytemlpjfngaemdaa", sum := "d33d7c1ffb30e82261fc492f32c29e173b0003edd011cbfcad014036220b4bd0", func := "pawl/pawllaw14.EnvelopeBytes", spec := "envelopeBytes", apart := false }
def EnvelopeBytesSaid : Prop := envelopeBytesRow.holds Try.pinned (OpenSpec.ofChange envelopeBytesSpec)

/-- ITS FALSE NEIGHBOUR: 'it returns false'. Refute it at one input. -/
def envelopeBytesWrong : ChangeSpec := { name := "envelopeBytes", fn := fun _ => fun
  | [d] => { results := [.lit (.bool false)], args := [d] }
  | _ => none }
def EnvelopeBytesWrongFalsely : Prop := envelopeBytesRow.holds Try.pinned (OpenSpec.ofChange envelopeBytesWrong)

/-- 'pawllaw14.EnvelopeJunk': WHATEVER THE INPUT: true; the input reads as it did. -/
def envelopeJunkSpec : ChangeSpec := { name := "envelopeJunk", fn := fun _ => fun
  | [d1, d2, d3, d4, d5] => { results := [.lit (.bool true)], args := [d1, d2, d3, d4, d5] }
  | _ => none }
def envelopeJunkRow : OpenClaim := { program := "ytemlpjfngaemdaa", sum := "d33d7c1ffb30e82261fc492f32c29e173b0003edd011cbfcad014036220b4bd0", func := "pawl/pawllaw14.EnvelopeJunk", spec := "envelopeJunk", apart := false }
def EnvelopeJunkSaid : Prop := envelopeJunkRow.holds Try.pinned (OpenSpec.ofChange envelopeJunkSpec)

/-- ITS FALSE NEIGHBOUR: 'it returns false'. Refute it at one input. -/
def envelopeJunkWrong : ChangeSpec := { name := "envelopeJunk", fn := fun _ => fun
  | [d1, d2, d3, d4, d5] => { results := [.lit (.bool false)], args := [d1, d2, d3, d4, d5] }
  | _ => none }
def EnvelopeJunkWrongFalsely : Prop := envelopeJunkRow.holds Try.pinned (OpenSpec.ofChange envelopeJunkWrong)

/- THE SECOND FORM. 'bulk': how many values and letters a reading holds, each counted each time it is reached (what is shared counts as often as it is met; a slice's spare places count too). A statement '..UptoSaid' is the law's where the arguments, and the package variables that the reading takes, are together of bulk at most 1048576: NARROWER than '..Said'. Prove '..Said' where nothing that the law and all that it calls make is longer than what came in: it says more and counts as full. Else prove '..UptoSaid'. A law counts once. -/
mutual
def uptoBulk {H : Type} : DataW H → Nat
  | .lit (.string bytes) => bytes.length + 1
  | .lit _ => 1
  | .nil => 1
  | .ptr d => uptoBulk d + 1
  | .slice elems spare => uptoBulkAll elems + uptoBulkAll spare + 1
  | .agg parts => uptoBulkAll parts + 1
  | .iface _ d => uptoBulk d + 1
  | .map entries => uptoBulkEntries entries + 1
  | .held _ => 1
def uptoBulkAll {H : Type} : List (DataW H) → Nat
  | [] => 0
  | d :: r => uptoBulk d + uptoBulkAll r
def uptoBulkEntries {H : Type} : List (Lit × DataW H) → Nat
  | [] => 0
  | x :: r => uptoBulkEntry x + uptoBulkEntries r
def uptoBulkEntry {H : Type} : Lit × DataW H → Nat
  | (.string bytes, d) => bytes.length + uptoBulk d + 1
  | (_, d) => uptoBulk d + 1
 end
def uptoSmall : (H : Type) → List (DataW H) → Bool := fun _ ds => decide (uptoBulkAll ds ≤ 1048576)
def OpenSpec.upto (s : _root_.Go.ChangeSpec) : _root_.Go.OpenSpec := { _root_.Go.OpenSpec.ofChange s with cond := some uptoSmall }

/-- 'pawllaw09.WireKeeps', WHERE WHAT IT READS IS OF BULK AT MOST 1048576: true; the input reads as it did. -/
def wireKeepsUptoRow : OpenClaim := { program := "ytemlpjfngaemdaa", sum := "d33d7c1ffb30e82261fc492f32c29e173b0003edd011cbfcad014036220b4bd0", func := "pawl/pawllaw09.WireKeeps", spec := "wireKeeps", apart := false, narrowed := true }
def WireKeepsUptoSaid : Prop := wireKeepsUptoRow.holds Try.pinned (OpenSpec.upto wireKeepsSpec)

/-- 'pawllaw14.EnvelopeApart', WHERE WHAT IT READS IS OF BULK AT MOST 1048576: true; the input reads as it did. -/
def envelopeApartUptoRow : OpenClaim := { program := "ytemlpjfngaemdaa", sum := "d33d7c1ffb30e82261fc492f32c29e173b0003edd011cbfcad014036220b4bd0", func := "pawl/pawllaw14.EnvelopeApart", spec := "envelopeApart", apart := false, narrowed := true }
def EnvelopeApartUptoSaid : Prop := envelopeApartUptoRow.holds Try.pinned (OpenSpec.upto envelopeApartSpec)

/-- 'pawllaw14.EnvelopeInners', WHERE WHAT IT READS IS OF BULK AT MOST 1048576: true; the input reads as it did. -/
def envelopeInnersUptoRow : OpenClaim := { program := "ytemlpjfngaemdaa", sum := "d33d7c1ffb30e82261fc492f32c29e173b0003edd011cbfcad014036220b4bd0", func := "pawl/pawllaw14.EnvelopeInners", spec := "envelopeInners", apart := false, narrowed := true }
def EnvelopeInnersUptoSaid : Prop := envelopeInnersUptoRow.holds Try.pinned (OpenSpec.upto envelopeInnersSpec)

/-- 'pawllaw09.WireReads', WHERE WHAT IT READS IS OF BULK AT MOST 1048576: true; the input reads as it did. -/
def wireReadsUptoRow : OpenClaim := { program := "ytemlpjfngaemdaa", sum := "d33d7c1ffb30e82261fc492f32c29e173b0003edd011cbfcad014036220b4bd0", func := "pawl/pawllaw09.WireReads", spec := "wireReads", apart := false, narrowed := true }
def WireReadsUptoSaid : Prop := wireReadsUptoRow.holds Try.pinned (OpenSpec.upto wireReadsSpec)

/-- 'pawllaw09.WireNil', WHERE WHAT IT READS IS OF BULK AT MOST 1048576: true; the input reads as it did. -/
def wireNilUptoRow : OpenClaim := { program := "ytemlpjfngaemdaa", sum := "d33d7c1ffb30e82261fc492f32c29e173b0003edd011cbfcad014036220b4bd0", func := "pawl/pawllaw09.WireNil", spec := "wireNil", apart := false, narrowed := true }
def WireNilUptoSaid : Prop := wireNilUptoRow.holds Try.pinned (OpenSpec.upto wireNilSpec)

/-- 'pawllaw09.WireWrites', WHERE WHAT IT READS IS OF BULK AT MOST 1048576: true; the input reads as it did. -/
def wireWritesUptoRow : OpenClaim := { program := "ytemlpjfngaemdaa", sum := "d33d7c1ffb30e82261fc492f32c29e173b0003edd011cbfcad014036220b4bd0", func := "pawl/pawllaw09.WireWrites", spec := "wireWrites", apart := false, narrowed := true }
def WireWritesUptoSaid : Prop := wireWritesUptoRow.holds Try.pinned (OpenSpec.upto wireWritesSpec)

/-- 'pawllaw14.EnvelopeHellos', WHERE WHAT IT READS IS OF BULK AT MOST 1048576: true; the input reads as it did. -/
def envelopeHellosUptoRow : OpenClaim := { program := "ytemlpjfngaemdaa", sum := "d33d7c1ffb30e82261fc492f32c29e173b0003edd011cbfcad014036220b4bd0", func := "pawl/pawllaw14.EnvelopeHellos", spec := "envelopeHellos", apart := false, narrowed := true }
def EnvelopeHellosUptoSaid : Prop := envelopeHellosUptoRow.holds Try.pinned (OpenSpec.upto envelopeHellosSpec)

/-- 'pawllaw14.EnvelopeBundles', WHERE WHAT IT READS IS OF BULK AT MOST 1048576: true; the input reads as it did. -/
def envelopeBundlesUptoRow : OpenClaim := { program := "ytemlpjfngaemdaa", sum := "d33d7c1ffb30e82261fc492f32c29e173b0003edd011cbfcad014036220b4bd0", func := "pawl/pawllaw14.EnvelopeBundles", spec := "envelopeBundles", apart := false, narrowed := true }
def EnvelopeBundlesUptoSaid : Prop := envelopeBundlesUptoRow.holds Try.pinned (OpenSpec.upto envelopeBundlesSpec)

/-- 'pawllaw14.EnvelopeBytes', WHERE WHAT IT READS IS OF BULK AT MOST 1048576: true; the input reads as it did. -/
def envelopeBytesUptoRow : OpenClaim := { program := "ytemlpjfngaemdaa", sum := "d33d7c1ffb30e82261fc492f32c29e173b0003edd011cbfcad014036220b4bd0", func := "pawl/pawllaw14.EnvelopeBytes", spec := "envelopeBytes", apart := false, narrowed := true }
def EnvelopeBytesUptoSaid : Prop := envelopeBytesUptoRow.holds Try.pinned (OpenSpec.upto envelopeBytesSpec)

/-- 'pawllaw14.EnvelopeJunk', WHERE WHAT IT READS IS OF BULK AT MOST 1048576: true; the input reads as it did. -/
def envelopeJunkUptoRow : OpenClaim := { program := "ytemlpjfngaemdaa", sum := "d33d7c1ffb30e82261fc492f32c29e173b0003edd011cbfcad014036220b4bd0", func := "pawl/pawllaw14.EnvelopeJunk", spec := "envelopeJunk", apart := false, narrowed := true }
def EnvelopeJunkUptoSaid : Prop := envelopeJunkUptoRow.holds Try.pinned (OpenSpec.upto envelopeJunkSpec)

end Rows
end Go.Proofs.Ytemlpjfngaemdaa
