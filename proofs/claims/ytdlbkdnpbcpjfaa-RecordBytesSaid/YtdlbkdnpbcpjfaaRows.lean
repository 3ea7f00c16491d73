/-
  No cell of these rows narrows 'for every input' (looked for: loops, veiled, ifaces, maps, wideKeys, modest, calm, conditions, laid).
  DERIVED. THE GIVEN ROWS OF THIS SEAT. 4 by the template 'for every input the law returns true; each argument reads behind the call as it read before'; 0 by the template 'total and deterministic' (their statements: YtdlbkdnpbcpjfaaTotals.lean).
  GIVEN WITH THE SEED: the statements are not yours to turn. If you find one false, say at which input.
  Laid BY PROGRAM, IN A SANDBOX (cutbox-rows.mjs): the forced cells as the released guide's own fill.sh prints them over the translation 689403ff429f382e… (all of the seat's roots in one cut). By AI agents, Wed Nov 11 2026. No macro, syntax, notation, axiom, sorry.
-/
import Derived.Test.YtdlbkdnpbcpjfaaChecked
import GoSem.Claim
import GoSem.ClaimJoined
import GoSem.ClaimMapViews
import Derived.JoinedTies
import Derived.KernelRfl
namespace Go.Proofs.Ytdlbkdnpbcpjfaa
/- THE CELL 'sum', in the pinned program and in every row, IS THE sha256 OF THE DUMP (.gsa) THAT YtdlbkdnpbcpjfaaProg.lean LOADS. Nothing in Lean hashes anything: it is a label: what it is worth is what the hold of that sum in a sandbox is worth. -/
noncomputable def Try.pinned : Pinned := { name := "ytdlbkdnpbcpjfaa", sum := "689403ff429f382e1710a95a8800aa782ef1ae9c27200f19dc7fd1ba62b2f5ea", checked := Try.checked }
namespace Rows
def none {H : Type} : Left H := { results := [], args := [] }

/-- 'pawllaw16.RecordTimes': WHATEVER THE INPUT: true; the input reads as it did. -/
def recordTimesSpec : ChangeSpec := { name := "recordTimes", fn := fun _ => fun
  | [d1, d2, d3, d4] => { results := [.lit (.bool true)], args := [d1, d2, d3, d4] }
  | _ => none }
def recordTimesRow : OpenClaim := { program := "ytdlbkdnpbcpjfaa", sum := "689403ff429f382e1710a95a8800aa782ef1ae9c27200f19dc7fd1ba62b2f5ea", func := "pawl/pawllaw16.RecordTimes", spec := "recordTimes", inPlace := ["slices.overlaps[pawl/record.Record]", "math.Float64bits", "math.Float64frombits"], unfollowed := true, recurses := true, apart := false }
def RecordTimesSaid : Prop := recordTimesRow.holds Try.pinned (OpenSpec.ofChange recordTimesSpec)

/-- ITS FALSE NEIGHBOUR: 'it returns false'. Refute it at one input. -/
def recordTimesWrong : ChangeSpec := { name := "recordTimes", fn := fun _ => fun
  | [d1, d2, d3, d4] => { results := [.lit (.bool false)], args := [d1, d2, d3, d4] }
  | _ => none }
def RecordTimesWrongFalsely : Prop := recordTimesRow.holds Try.pinned (OpenSpec.ofChange recordTimesWrong)

/-- 'pawllaw16.RecordCompares': WHATEVER THE INPUT: true; the input reads as it did. -/
def recordComparesSpec : ChangeSpec := { name := "recordCompares", fn := fun _ => fun
  | [d1, d2, d3, d4] => { results := [.lit (.bool true)], args := [d1, d2, d3, d4] }
  | _ => none }
def recordComparesRow : OpenClaim := { program := "ytdlbkdnpbcpjfaa", sum := "689403ff429f382e1710a95a8800aa782ef1ae9c27200f19dc7fd1ba62b2f5ea", func := "pawl/pawllaw16.RecordCompares", spec := "recordCompares", inPlace := ["slices.overlaps[pawl/record.Record]", "math.Float64bits", "math.Float64frombits"], unfollowed := true, recurses := true, apart := false }
def RecordComparesSaid : Prop := recordComparesRow.holds Try.pinned (OpenSpec.ofChange recordComparesSpec)

/-- ITS FALSE NEIGHBOUR: 'it returns false'. Refute it at one input. -/
def recordComparesWrong : ChangeSpec := { name := "recordCompares", fn := fun _ => fun
  | [d1, d2, d3, d4] => { results := [.lit (.bool false)], args := [d1, d2, d3, d4] }
  | _ => none }
def RecordComparesWrongFalsely : Prop := recordComparesRow.holds Try.pinned (OpenSpec.ofChange recordComparesWrong)

/-- 'pawllaw16.RecordPlays': WHATEVER THE INPUT: true; the input reads as it did. -/
def recordPlaysSpec : ChangeSpec := { name := "recordPlays", fn := fun _ => fun
  | [d] => { results := [.lit (.bool true)], args := [d] }
  | _ => none }
def recordPlaysRow : OpenClaim := { program := "ytdlbkdnpbcpjfaa", sum := "689403ff429f382e1710a95a8800aa782ef1ae9c27200f19dc7fd1ba62b2f5ea", func := "pawl/pawllaw16.RecordPlays", spec := "recordPlays", inPlace := ["slices.overlaps[pawl/record.Record]", "math.Float64bits", "math.Float64frombits", "slices.overlaps[pawl/session.Session]"], unfollowed := true, recurses := true, apart := false }
def RecordPlaysSaid : Prop := recordPlaysRow.holds Try.pinned (OpenSpec.ofChange recordPlaysSpec)

/-- ITS FALSE NEIGHBOUR: 'it returns false'. Refute it at one input. -/
def recordPlaysWrong : ChangeSpec := { name := "recordPlays", fn := fun _ => fun
  | [d] => { results := [.lit (.bool false)], args := [d] }
  | _ => none }
def RecordPlaysWrongFalsely : Prop := recordPlaysRow.holds Try.pinned (OpenSpec.ofChange recordPlaysWrong)

/-- 'pawllaw16.RecordBytes': WHATEVER THE INPUT: true; the input reads as it did. -/
def recordBytesSpec : ChangeSpec := { name := "recordBytes", fn := fun _ => fun
  | [d1, d2, d3, d4] => { results := [.lit (.bool true)], args := [d1, d2, d3, d4] }
  | _ => none }
def recordBytesRow : OpenClaim := { program := "ytdlbkdnpbcpjfaa", sum := "689403ff429f382e1710a95a8800aa782ef1ae9c27200f19dc7fd1ba62b2f5ea", func := "pawl/pawllaw16.RecordBytes", spec := "recordBytes", inPlace := ["slices.overlaps[pawl/record.Record]", "math.Float64bits", "math.Float64frombits", "slices.overlaps[pawl/session.Session]"], unfollowed := true, recurses := true, apart := false }
def RecordBytesSaid : Prop := recordBytesRow.holds Try.pinned (OpenSpec.ofChange recordBytesSpec)

/-- ITS FALSE NEIGHBOUR: 'it returns false'. Refute it at one input. -/
def recordBytesWrong : ChangeSpec := { name := "recordBytes", fn := fun _ => fun
  | [d1, d2, d3, d4] => { results := [.lit (.bool false)], args := [d1, d2, d3, d4] }
  | _ => none }
def RecordBytesWrongFalsely : Prop := recordBytesRow.holds Try.pinned (OpenSpec.ofChange recordBytesWrong)

/- THE SECOND FORM. 'bulk': how many values and letters a reading holds, each counted each time it is reached (what is shared counts as often as it is met; a slice's spare places count too). A statement '..UptoSaid' is the law's where the arguments, and the package variables that the reading takes, are together of bulk at most 1048576: NARROWER than '..Said'. Prove '..Said' where nothing that the law and all that it calls make is longer than what came in: it says more and counts as full. Else prove '..UptoSaid'. A law counts once. -/
mutual
def uptoBulk {H : Type} : DataW H → Nat
  | .lit (.string bytes) => bytes.length + 1
  | .lit _ => 1
  | .nil => 1
  | .ptr d => uptoBulk d + 1
  | .slice elems spare => uptoBulkAll elems + uptoBulkAll spare + 1
  | .agg parts => uptoBulkAll parts + 1
  | .iface _ d => uptoBulk d + 1
  | .map entries => uptoBulkEntries entries + 1
  | .held _ => 1
def uptoBulkAll {H : Type} : List (DataW H) → Nat
  | [] => 0
  | d :: r => uptoBulk d + uptoBulkAll r
def uptoBulkEntries {H : Type} : List (Lit × DataW H) → Nat
  | [] => 0
  | x :: r => uptoBulkEntry x + uptoBulkEntries r
def uptoBulkEntry {H : Type} : Lit × DataW H → Nat
  | (.string bytes, d) => bytes.length + uptoBulk d + 1
  | (_, d) => uptoBulk d + 1
 end
def uptoSmall : (H : Type) → List (DataW H) → Bool := fun _ ds => decide (uptoBulkAll ds ≤ 1048576)
def OpenSpec.upto (s : _root_.Go.ChangeSpec) : _root_.Go.OpenSpec := { _root_.Go.OpenSpec.ofChange s with cond := some uptoSmall }

/-- 'pawllaw16.RecordTimes', WHERE WHAT IT READS IS OF BULK AT MOST 1048576: true; the input reads as it did. -/
def recordTimesUptoRow : OpenClaim := { program := "ytdlbkdnpbcpjfaa", sum := "689403ff429f382e1710a95a8800aa782ef1ae9c27200f19dc7fd1ba62b2f5ea", func := "pawl/pawllaw16.RecordTimes", spec := "recordTimes", inPlace := ["slices.overlaps[pawl/record.Record]", "math.Float64bits", "math.Float64frombits"], unfollowed := true, recurses := true, apart := false, narrowed := true }
def RecordTimesUptoSaid : Prop := recordTimesUptoRow.holds Try.pinned (OpenSpec.upto recordTimesSpec)

/-- 'pawllaw16.RecordCompares', WHERE WHAT IT READS IS OF BULK AT MOST 1048576: true; the input reads as it did. -/
def recordComparesUptoRow : OpenClaim := { program := "ytdlbkdnpbcpjfaa", sum := "689403ff429f382e1710a95a8800aa782ef1ae9c27200f19dc7fd1ba62b2f5ea", func := "pawl/pawllaw16.RecordCompares", spec := "recordCompares", inPlace := ["slices.overlaps[pawl/record.Record]", "math.Float64bits", "math.Float64frombits"], unfollowed := true, recurses := true, apart := false, narrowed := true }
def RecordComparesUptoSaid : Prop := recordComparesUptoRow.holds Try.pinned (OpenSpec.upto recordComparesSpec)

/-- 'pawllaw16.RecordPlays', WHERE WHAT IT READS IS OF BULK AT MOST 1048576: true; the input reads as it did. -/
def recordPlaysUptoRow : OpenClaim := { program := "ytdlbkdnpbcpjfaa", sum := "689403ff429f382e1710a95a8800aa782ef1ae9c27200f19dc7fd1ba62b2f5ea", func := "pawl/pawllaw16.RecordPlays", spec := "recordPlays", inPlace := ["slices.overlaps[pawl/record.Record]", "math.Float64bits", "math.Float64frombits", "slices.overlaps[pawl/session.Session]"], unfollowed := true, recurses := true, apart := false, narrowed := true }
def RecordPlaysUptoSaid : Prop := recordPlaysUptoRow.holds Try.pinned (OpenSpec.upto recordPlaysSpec)

/-- 'pawllaw16.RecordBytes', WHERE WHAT IT READS IS OF BULK AT MOST 1048576: true; the input reads as it did. -/
def recordBytesUptoRow : OpenClaim := { program := "ytdlbkdnpbcpjfaa", sum := "689403ff429f382e1710a95a8800aa782ef1ae9c27200f19dc7fd1ba62b2f5ea", func := "pawl/pawllaw16.RecordBytes", spec := "recordBytes", inPlace := ["slices.overlaps[pawl/record.Record]", "math.Float64bits", "math.Float64frombits", "slices.overlaps[pawl/session.Session]"], unfollowed := true, recurses := true, apart := false, narrowed := true }
def RecordBytesUptoSaid : Prop := recordBytesUptoRow.holds Try.pinned (OpenSpec.upto recordBytesSpec)

end Rows
end Go.Proofs.Ytdlbkdnpbcpjfaa
