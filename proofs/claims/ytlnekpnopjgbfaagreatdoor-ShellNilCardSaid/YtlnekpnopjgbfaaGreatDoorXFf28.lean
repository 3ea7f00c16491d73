/- ShellNil: the law's call, for any text. -/
import Derived.Test.YtlnekpnopjgbfaaGreatDoorXSk
set_option linter.all false
open Go Go.Sx Go.Proofs Go.RowKit
set_option linter.all false
namespace Go.Proofs.YtlnekpnopjgbfaaGreatDoor
set_option maxRecDepth 1000000
noncomputable def hS : Hk := hor aK.closed (hor hI (zhook Tryz.prog okT (xcall Tryz.prog okT hI dhC 1000 60) 1000 [fRun]))
theorem hS_good : HkGood Tryz.prog hS := HkGood.or closed_s (HkGood.or hI_good (zhook_good okt callsOK mixed (call_good okt callsOK mixed hI_good dhC_good 1000 60) _))
noncomputable def c3 : Code := bodyOf Tryz.prog 3
noncomputable def n3 : Nat := ntOf Tryz.prog 3
noncomputable def rs3 : List ResultVar := resultsOf Tryz.prog 3
noncomputable def c3R0 : Code := seqA c3
noncomputable def c3R1 : Code := seqA (seqA (seqB c3))
noncomputable def c3A : Code := condA (seqB (seqA (seqB c3)))
noncomputable def c3X : Code := seqB (seqB c3)
theorem c3_fn : fnOf Tryz.prog 3 = some (n3, .seq c3R0 (.seq (.seq c3R1 (.cond (.tmp 12) c3A .skip)) c3X), rs3) := by kernel_rfl
noncomputable def cl3 : Nat → List AV → St → Ro := xcall Tryz.prog okT hS dhC 1000 50
section
variable (s : ByteArray) (E : Nat → Nat)
noncomputable def r3a : Rs := xcode Tryz.prog okT cl3 n3 1000 c3R0 (argsTr 0 [.ostr s] .lf) [] (st0 aK.ro E)
noncomputable def r3b : Rs := xcode Tryz.prog okT cl3 n3 1000 c3R1 (r3a s E).t (r3a s E).d (r3a s E).s
theorem n3a : (r3a s E).isNorm = true := by kernel_rfl
theorem n3b : (r3b s E).isNorm = true := by kernel_rfl
theorem v3 : (cOp Tryz.prog (.tmp 12)).map (fun x => ev x (r3b s E).t) = some (.bool (Nat.blt 100 s.size)) := by kernel_rfl
theorem a3 : (xcode Tryz.prog okT cl3 n3 1000 c3A (r3b s E).t (r3b s E).d (r3b s E).s).isRet = true := by kernel_rfl
theorem a3t : (xleave Tryz.prog dhC rs3 (xcode Tryz.prog okT cl3 n3 1000 c3A (r3b s E).t (r3b s E).d (r3b s E).s)).isTrue = true := by kernel_rfl
theorem x3t : (xleave Tryz.prog dhC rs3 (xcode Tryz.prog okT cl3 n3 1000 c3X (r3b s E).t (r3b s E).d (r3b s E).s)).isTrue = true := by kernel_rfl
end
theorem shellNil_any (s : ByteArray) {W : World} {E : Nat → Nat} (hW : ∀ id c, (id, c) ∈ aK.ro → BlkOK (env0 Tryz.prog) W id (.mk (E id) 0 c)) :
    Calls Tryz.prog 3 #[.string s] W fun e W' => e = .returned (.bool true) ∧ Below W.heap.size W W' :=
  law_shape okt callsOK mixed hS_good dhC_good c3_fn (args := [.ostr s]) rfl (by kernel_rfl) (by kernel_rfl) hW rfl (n3a s E) rfl (n3b s E) (v3 s E) (fun _ => ⟨a3 s E, a3t s E⟩) (fun _ => x3t s E)
end Go.Proofs.YtlnekpnopjgbfaaGreatDoor
