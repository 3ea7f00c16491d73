/- The types whose values may be compared; the deferred function that is idle; closed facts of the program; the hooks that hold in any heap: slices.Insert, copies of bytes, EncodeInner, instant.Pass, math.IsNaN. -/
import Derived.Test.YtadbbdnjcpaooaaGreatDoorXInsM
import Derived.Test.YtadbbdnjcpaooaaGreatDoorXWe
import Derived.Test.YtadbbdnjcpaooaaGreatDoorInst2
import Derived.Test.YtadbbdnjcpaooaaGreatDoorProg
import Derived.KernelRfl
set_option linter.all false
open Go Go.Sx Go.Proofs
set_option linter.all false
namespace Go.Proofs.YtadbbdnjcpaooaaGreatDoor
set_option maxRecDepth 1000000
def okT (t : Nat) : Bool := memN t [7, 8, 24, 25, 43, 44, 46, 47, 56, 57, 68, 69, 80, 81, 86, 87, 96, 97, 98, 99, 103, 104, 105, 106, 112, 113, 118, 119, 121, 122, 126, 127, 133, 134, 139, 140, 143, 144, 145, 146, 148, 149, 150, 151, 156, 157, 165, 166, 170, 171, 172, 173, 181, 182, 185, 186, 187, 188, 193, 194, 199, 200, 210, 211, 215, 216, 220, 221, 225, 226, 228, 229, 236, 237, 263, 264, 278, 279, 293, 294, 297, 298, 308, 309, 321, 322, 335, 336, 368, 369, 380, 381, 382, 472, 473, 550, 551]
noncomputable def caughtC : Code := bodyOf Tryz.prog 94
noncomputable def caughtR : Code := seqB caughtC
noncomputable def caughtO : Oper := match seqA caughtC with
  | .region _ #[o] _ => o
  | _ => default
theorem caught_body : Tryz.f94.body = some (.seq (.region 0 #[caughtO] false) caughtR) := by kernel_rfl
noncomputable def dhC : Dh := dhookM Tryz.prog okT 94 15 5 1000 caughtR
theorem callsOK : CallsOK Tryz.prog := callsOK_of (by kernel_rfl)
theorem mixed : Tryz.prog.follows .mixedOrders = true := by kernel_rfl
theorem okt : OkT Tryz.prog okT := okT_of (by kernel_rfl)
theorem dhC_good : DhGood Tryz.prog dhC := dhookM_good okt callsOK mixed Tryz.func94 caught_body (by kernel_rfl) (by kernel_rfl) (by kernel_rfl) (by kernel_rfl) (fun l => by kernel_rfl) (fun e w => by kernel_rfl)
/-- Time goes by, so much as came in. -/
def gP : List AV → Option AV
  | [.flt .f64 a, .flb b h] => if ha : a < 18446744073709551616 then some (.flb (Go.Pw.Fl.passV a b) (Go.Pw.Fl.pass_lt ha h)) else none
  | _ => none
def gN : List AV → Option AV
  | [.flb b _] => some (.bool (Go.Pw.Fl.NaN b))
  | _ => none
theorem pass_fn : fnOf Tryz.prog 20 = some (ntOf Tryz.prog 20, bodyOf Tryz.prog 20, resultsOf Tryz.prog 20) := by kernel_rfl
theorem isnan_fn : fnOf Tryz.prog 10 = some (ntOf Tryz.prog 10, bodyOf Tryz.prog 10, resultsOf Tryz.prog 10) := by kernel_rfl
theorem pass_good : HkGood Tryz.prog (pureHook 20 gP) := by
  obtain ⟨fn, h1, _, h3, _⟩ := fnOf_ok pass_fn
  refine pureHook_good ⟨fn, _, h1, h3⟩ fun args v σ us hg hd => ?_
  unfold gP at hg
  split at hg
  · rename_i a b h
    split at hg
    · rename_i ha
      obtain rfl := Option.some.inj hg
      obtain ⟨u, l1, rfl, hx, hd⟩ := denL_cons hd
      obtain ⟨u', l2, rfl, hy, hd⟩ := denL_cons hd
      obtain rfl := denL_nil hd
      obtain rfl := Option.some.inj hx
      obtain rfl := Option.some.inj hy
      exact ⟨_, rfl, fun w => Calls.mono (pass_any a b ha h w) fun e w' hq => ⟨hq.1, hq.2.symm⟩⟩
    · cases hg
  · cases hg
theorem nan_good : HkGood Tryz.prog (pureHook 10 gN) := by
  obtain ⟨fn, h1, _, h3, _⟩ := fnOf_ok isnan_fn
  refine pureHook_good ⟨fn, _, h1, h3⟩ fun args v σ us hg hd => ?_
  unfold gN at hg
  split at hg
  · rename_i b h
    obtain rfl := Option.some.inj hg
    obtain ⟨u, l1, rfl, hx, hd⟩ := denL_cons hd
    obtain rfl := denL_nil hd
    obtain rfl := Option.some.inj hx
    exact ⟨_, rfl, fun w => Calls.mono (isnan_any b w) fun e w' hq => ⟨hq.1, hq.2.symm⟩⟩
  · cases hg
noncomputable def hI : Hk := hor (insNHook 128 173 14 2 1) (insHook 233 151 18)
noncomputable def hT : Hk := hor (txHook 58 5 gTx) (hor (txHook 97 5 gTx) (hor (txHook 166 5 gE) (hor (uHook 58 gU) (hor (uHook 97 gU) (nxHook 166 5 gEU)))))
noncomputable def hB : Hk := hor hI (hor hT (hor (pureHook 20 gP) (pureHook 10 gN)))
theorem ins_fn : fnOf Tryz.prog 128 = some (ntOf Tryz.prog 128, bodyOf Tryz.prog 128, resultsOf Tryz.prog 128) := by kernel_rfl
theorem inss_fn : fnOf Tryz.prog 233 = some (ntOf Tryz.prog 233, bodyOf Tryz.prog 233, resultsOf Tryz.prog 233) := by kernel_rfl
theorem insN_good : HkGood Tryz.prog (insNHook 128 173 14 2 1) := by
  obtain ⟨fn, h1, _, h3, _⟩ := fnOf_ok ins_fn
  exact insNHook_good (by decide) (by decide) ⟨fn, _, h1, h3⟩ insm_shift insm_grow
theorem insS_good : HkGood Tryz.prog (insHook 233 151 18) := by
  obtain ⟨fn, h1, _, h3, _⟩ := fnOf_ok inss_fn
  exact insHook_good (by decide) ⟨fn, _, h1, h3⟩ insf_shift insf_grow
theorem hI_good : HkGood Tryz.prog hI := HkGood.or insN_good insS_good
theorem hT_good : HkGood Tryz.prog hT := HkGood.or tx_s_good (HkGood.or tx_b_good (HkGood.or inner_good (HkGood.or u_s_good (HkGood.or u_b_good innerU_good))))
theorem hB_good : HkGood Tryz.prog hB := HkGood.or hI_good (HkGood.or hT_good (HkGood.or pass_good nan_good))
end Go.Proofs.YtadbbdnjcpaooaaGreatDoor
