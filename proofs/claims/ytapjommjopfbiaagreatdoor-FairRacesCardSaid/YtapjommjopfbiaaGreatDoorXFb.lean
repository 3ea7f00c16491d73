/- The types whose values may be compared; the deferred function that is idle; closed facts of the program; the hooks that hold in any heap: slices.Insert, fair.Quiet. -/
import Derived.Test.YtapjommjopfbiaaGreatDoorXInsF
import Derived.Test.YtapjommjopfbiaaGreatDoorProg
import Derived.KernelRfl
set_option linter.all false
open Go Go.Sx Go.Proofs
set_option linter.all false
namespace Go.Proofs.YtapjommjopfbiaaGreatDoor
set_option maxRecDepth 1000000
def okT (t : Nat) : Bool := memN t [7, 8, 24, 25, 48, 49, 51, 52, 61, 62, 73, 74, 84, 85, 86, 87, 89, 90, 94, 95, 96, 97, 99, 100, 101, 102, 107, 108, 113, 114, 123, 124, 128, 129, 130, 131, 137, 138, 143, 144, 146, 147, 151, 152, 158, 159, 169, 170, 181, 182, 183, 184, 186, 187, 193, 194, 198, 199, 200, 201, 209, 210, 211, 212, 221, 222, 230, 231, 235, 236, 240, 241, 257, 258, 281, 282, 293, 294, 307, 308, 311, 312, 322, 323, 336, 337, 350, 351, 382, 383, 394, 395, 396, 484, 485, 562, 563]
noncomputable def caughtC : Code := bodyOf Tryz.prog 115
noncomputable def caughtR : Code := seqB caughtC
noncomputable def caughtO : Oper := match seqA caughtC with
  | .region _ #[o] _ => o
  | _ => default
theorem caught_body : Tryz.f115.body = some (.seq (.region 0 #[caughtO] false) caughtR) := by kernel_rfl
noncomputable def dhC : Dh := dhookM Tryz.prog okT 115 15 5 1000 caughtR
theorem callsOK : CallsOK Tryz.prog := callsOK_of (by kernel_rfl)
theorem mixed : Tryz.prog.follows .mixedOrders = true := by kernel_rfl
theorem okt : OkT Tryz.prog okT := okT_of (by kernel_rfl)
theorem dhC_good : DhGood Tryz.prog dhC := dhookM_good okt callsOK mixed Tryz.func115 caught_body (by kernel_rfl) (by kernel_rfl) (by kernel_rfl) (by kernel_rfl) (fun l => by kernel_rfl) (fun e w => by kernel_rfl)
noncomputable def clZ : Nat → List AV → St → Ro := xcall Tryz.prog okT (fun _ _ _ => none) dhC 1000 50
noncomputable def hB : Hk := hor (insHook 257 102 18) (zhook Tryz.prog okT clZ 1000 [43])
theorem ins_fn : fnOf Tryz.prog 257 = some (ntOf Tryz.prog 257, bodyOf Tryz.prog 257, resultsOf Tryz.prog 257) := by kernel_rfl
theorem ins_good : HkGood Tryz.prog (insHook 257 102 18) := by
  obtain ⟨fn, h1, _, h3, _⟩ := fnOf_ok ins_fn
  exact insHook_good (by decide) ⟨fn, _, h1, h3⟩ insf_shift insf_grow
theorem hB_good : HkGood Tryz.prog hB := HkGood.or ins_good (zhook_good okt callsOK mixed (call_good okt callsOK mixed HkGood.nil dhC_good 1000 50) _)
end Go.Proofs.YtapjommjopfbiaaGreatDoor
