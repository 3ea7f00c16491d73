/- WorldTime: play, and the law's call. -/
import Derived.Test.YtdkcmjifkhcfcaaGreatDoorXKa
import Derived.Test.YtdkcmjifkhcfcaaGreatDoorXSd
import Derived.Test.YtdkcmjifkhcfcaaGreatDoorXW24
set_option linter.all false
open Go Go.Sx Go.Proofs Go.RowKit
set_option linter.unusedVariables false
namespace Go.Proofs.YtdkcmjifkhcfcaaGreatDoor
set_option maxRecDepth 1000000
theorem play_run (E : Nat → Nat) : chkNew 5 (.flt .f64 0) (xcall Tryz.prog okT (fun _ _ _ => none) dhC 1000 50 7 [.int .u8 1, .nils] (st0 a7.ro E)) = true := by kernel_rfl
theorem play_any {W : World} {E : Nat → Nat} (hW : ∀ id c, (id, c) ∈ a7.ro → BlkOK (env0 Tryz.prog) W id (.mk (E id) 0 c)) :
    Calls Tryz.prog 7 #[.int .u8 1, .slice none 0 0] W fun e W' => ∃ b o cs T fr, e = .returned (.pointer (some ⟨b, o, none⟩)) ∧ Below W.heap.size W W' ∧ W.heap.size ≤ b ∧ W'.heap[b]? = some (.cells cs T fr) ∧ FrOK fr cs.size ∧ cs[o + 5]? = some (.float .f64 0) :=
  calls_new okt callsOK mixed HkGood.nil dhC_good (u := .float .f64 0) (fun _ => rfl) (args := [.int .u8 1, .nils]) rfl (by kernel_rfl) (by kernel_rfl) (play_run E) hW
theorem awake24 {W : World} {E : Nat → Nat} (hW : ∀ id c, (id, c) ∈ a7.ro → BlkOK (env0 Tryz.prog) W id (.mk (E id) 0 c)) : Calls Tryz.prog 6 #[] W fun e W' => e = .returned (.bool true) ∧ Below W.heap.size W W' :=
  closed_calls closed_a (by kernel_rfl) (by kernel_rfl) (by kernel_rfl) hW
end Go.Proofs.YtdkcmjifkhcfcaaGreatDoor
