/-
  No cell of these rows narrows 'for every input' (looked for: loops, veiled, ifaces, maps, wideKeys, modest, calm, conditions, laid).
  DERIVED. THE GIVEN ROWS OF THIS SEAT. 3 by the template 'for every input the law returns true; each argument reads behind the call as it read before'; 0 by the template 'total and deterministic' (their statements: YtjopgcbfahlmnaaTotals.lean).
  GIVEN WITH THE SEED: the statements are not yours to turn. If you find one false, say at which input.
  Laid BY PROGRAM, IN A SANDBOX (cutbox-rows.mjs): the forced cells as the released guide's own fill.sh prints them over the translation 7a15a89a7672fc2f… (all of the seat's roots in one cut). By AI agents, Wed Nov 11 2026. No macro, syntax, notation, axiom, sorry.
-/
import Derived.Test.YtjopgcbfahlmnaaChecked
import GoSem.Claim
import GoSem.ClaimJoined
import GoSem.ClaimMapViews
import Derived.JoinedTies
import Derived.KernelRfl
namespace Go.Proofs.Ytjopgcbfahlmnaa
/- THE CELL 'sum', in the pinned program and in every row, IS THE sha256 OF THE DUMP (.gsa) THAT YtjopgcbfahlmnaaProg.lean LOADS. Nothing in Lean hashes anything: it is a label: what it is worth is what the hold of that sum in a sandbox is worth. -/
noncomputable def Try.pinned : Pinned := { name := "ytjopgcbfahlmnaa", sum := "7a15a89a7672fc2fc74a2388768f90cea65fd6e8517aba5f9e07e39cfcf8cdac", checked := Try.checked }
namespace Rows
def none {H : Type} : Left H := { results := [], args := [] }

/-- 'pawllaw18.MailboxPlays': WHATEVER THE INPUT: true; the input reads as it did. -/
def mailboxPlaysSpec : ChangeSpec := { name := "mailboxPlays", fn := fun _ => fun
  | [d1, d2, d3, d4] => { results := [.lit (.bool true)], args := [d1, d2, d3, d4] }
  | _ => none }
def mailboxPlaysRow : OpenClaim := { program := "ytjopgcbfahlmnaa", sum := "7a15a89a7672fc2fc74a2388768f90cea65fd6e8517aba5f9e07e39cfcf8cdac", func := "pawl/pawllaw18.MailboxPlays", spec := "mailboxPlays", unfollowed := true, recurses := true, apart := false }
def MailboxPlaysSaid : Prop := mailboxPlaysRow.holds Try.pinned (OpenSpec.ofChange mailboxPlaysSpec)

/-- ITS FALSE NEIGHBOUR: 'it returns false'. Refute it at one input. -/
def mailboxPlaysWrong : ChangeSpec := { name := "mailboxPlays", fn := fun _ => fun
  | [d1, d2, d3, d4] => { results := [.lit (.bool false)], args := [d1, d2, d3, d4] }
  | _ => none }
def MailboxPlaysWrongFalsely : Prop := mailboxPlaysRow.holds Try.pinned (OpenSpec.ofChange mailboxPlaysWrong)

/-- 'pawllaw18.MailboxLong': WHATEVER THE INPUT: true; the input reads as it did. -/
def mailboxLongSpec : ChangeSpec := { name := "mailboxLong", fn := fun _ => fun
  | [d] => { results := [.lit (.bool true)], args := [d] }
  | _ => none }
def mailboxLongRow : OpenClaim := { program := "ytjopgcbfahlmnaa", sum := "7a15a89a7672fc2fc74a2388768f90cea65fd6e8517aba5f9e07e39cfcf8cdac", func := "pawl/pawllaw18.MailboxLong", spec := "mailboxLong", unfollowed := true, recurses := true, apart := false }
def MailboxLongSaid : Prop := mailboxLongRow.holds Try.pinned (OpenSpec.ofChange mailboxLongSpec)

/-- ITS FALSE NEIGHBOUR: 'it returns false'. Refute it at one input. -/
def mailboxLongWrong : ChangeSpec := { name := "mailboxLong", fn := fun _ => fun
  | [d] => { results := [.lit (.bool false)], args := [d] }
  | _ => none }
def MailboxLongWrongFalsely : Prop := mailboxLongRow.holds Try.pinned (OpenSpec.ofChange mailboxLongWrong)

/-- 'pawllaw18.MailboxKeeps': WHATEVER THE INPUT: true; the input reads as it did. -/
def mailboxKeepsSpec : ChangeSpec := { name := "mailboxKeeps", fn := fun _ => fun
  | [d1, d2, d3] => { results := [.lit (.bool true)], args := [d1, d2, d3] }
  | _ => none }
def mailboxKeepsRow : OpenClaim := { program := "ytjopgcbfahlmnaa", sum := "7a15a89a7672fc2fc74a2388768f90cea65fd6e8517aba5f9e07e39cfcf8cdac", func := "pawl/pawllaw18.MailboxKeeps", spec := "mailboxKeeps", unfollowed := true, recurses := true, apart := false }
def MailboxKeepsSaid : Prop := mailboxKeepsRow.holds Try.pinned (OpenSpec.ofChange mailboxKeepsSpec)

/-- ITS FALSE NEIGHBOUR: 'it returns false'. Refute it at one input. -/
def mailboxKeepsWrong : ChangeSpec := { name := "mailboxKeeps", fn := fun _ => fun
  | [d1, d2, d3] => { results := [.lit (.bool false)], args := [d1, d2, d3] }
  | _ => none }
def MailboxKeepsWrongFalsely : Prop := mailboxKeepsRow.holds Try.pinned (OpenSpec.ofChange mailboxKeepsWrong)

/- THE SECOND FORM. 'bulk': how many values and letters a reading holds, each counted each time it is reached (what is shared counts as often as it is met; a slice's spare places count too). A statement '..UptoSaid' is the law's where the arguments, and the package variables that the reading takes, are together of bulk at most 1048576: NARROWER than '..Said'. Prove '..Said' where nothing that the law and all that it calls make is longer than what came in: it says more and counts as full. Else prove '..UptoSaid'. A law counts once. -/
mutual
def uptoBulk {H : Type} : DataW H → Nat
  | .lit (.string bytes) => bytes.length + 1
  | .lit _ => 1
  | .nil => 1
  | .ptr d => uptoBulk d + 1
  | .slice elems spare => uptoBulkAll elems + uptoBulkAll spare + 1
  | .agg parts => uptoBulkAll parts + 1
  | .iface _ d => uptoBulk d + 1
  | .map entries => uptoBulkEntries entries + 1
  | .held _ => 1
def uptoBulkAll {H : Type} : List (DataW H) → Nat
  | [] => 0
  | d :: r => uptoBulk d + uptoBulkAll r
def uptoBulkEntries {H : Type} : List (Lit × DataW H) → Nat
  | [] => 0
  | x :: r => uptoBulkEntry x + uptoBulkEntries r
def uptoBulkEntry {H : Type} : Lit × DataW H → Nat
  | (.string bytes, d) => bytes.length + uptoBulk d + 1
  | (_, d) => uptoBulk d + 1
 end
def uptoSmall : (H : Type) → List (DataW H) → Bool := fun _ ds => decide (uptoBulkAll ds ≤ 1048576)
def OpenSpec.upto (s : _root_.Go.ChangeSpec) : _root_.Go.OpenSpec := { _root_.Go.OpenSpec.ofChange s with cond := some uptoSmall }

/-- 'pawllaw18.MailboxPlays', WHERE WHAT IT READS IS OF BULK AT MOST 1048576: true; the input reads as it did. -/
def mailboxPlaysUptoRow : OpenClaim := { program := "ytjopgcbfahlmnaa", sum := "7a15a89a7672fc2fc74a2388768f90cea65fd6e8517aba5f9e07e39cfcf8cdac", func := "pawl/pawllaw18.MailboxPlays", spec := "mailboxPlays", unfollowed := true, recurses := true, apart := false, narrowed := true }
def MailboxPlaysUptoSaid : Prop := mailboxPlaysUptoRow.holds Try.pinned (OpenSpec.upto mailboxPlaysSpec)

/-- 'pawllaw18.MailboxLong', WHERE WHAT IT READS IS OF BULK AT MOST 1048576: true; the input reads as it did. -/
def mailboxLongUptoRow : OpenClaim := { program := "ytjopgcbfahlmnaa", sum := "7a15a89a7672fc2fc74a2388768f90cea65fd6e8517aba5f9e07e39cfcf8cdac", func := "pawl/pawllaw18.MailboxLong", spec := "mailboxLong", unfollowed := true, recurses := true, apart := false, narrowed := true }
def MailboxLongUptoSaid : Prop := mailboxLongUptoRow.holds Try.pinned (OpenSpec.upto mailboxLongSpec)

/-- 'pawllaw18.MailboxKeeps', WHERE WHAT IT READS IS OF BULK AT MOST 1048576: true; the input reads as it did. -/
def mailboxKeepsUptoRow : OpenClaim := { program := "ytjopgcbfahlmnaa", sum := "7a15a89a7672fc2fc74a2388768f90cea65fd6e8517aba5f9e07e39cfcf8cdac", func := "pawl/pawllaw18.MailboxKeeps", spec := "mailboxKeeps", unfollowed := true, recurses := true, apart := false, narrowed := true }
def MailboxKeepsUptoSaid : Prop := mailboxKeepsUptoRow.holds Try.pinned (OpenSpec.upto mailboxKeepsSpec)

end Rows
end Go.Proofs.Ytjopgcbfahlmnaa
