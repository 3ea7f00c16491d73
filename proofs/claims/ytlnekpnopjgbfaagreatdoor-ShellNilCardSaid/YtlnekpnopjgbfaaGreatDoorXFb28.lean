/- The types whose values may be compared; the deferred function that is idle; closed facts of the program; the hook that holds in any heap: where a byte stands in a string. -/
import Derived.Test.YtlnekpnopjgbfaaGreatDoorXIxB
import Derived.Test.YtlnekpnopjgbfaaGreatDoorXSd
import Derived.Test.YtlnekpnopjgbfaaGreatDoorProg
import Derived.KernelRfl
set_option linter.all false
open Go Go.Sx Go.Proofs
set_option linter.all false
namespace Go.Proofs.YtlnekpnopjgbfaaGreatDoor
set_option maxRecDepth 1000000
def okT (t : Nat) : Bool := memN t [7, 8, 30, 31, 44, 45, 59, 60, 62, 63, 70, 71, 94, 95, 107, 108, 119, 120, 126, 127, 138, 139, 142, 143, 144, 145, 146, 147, 149, 150, 156, 157, 166, 167, 168, 169, 175, 176, 181, 182, 183, 184, 188, 189, 195, 196, 201, 202, 205, 206, 207, 208, 210, 211, 212, 213, 218, 219, 226, 227, 229, 230, 232, 233, 237, 238, 265, 266, 267, 268, 273, 274, 279, 280, 288, 289, 293, 294, 298, 299, 303, 304, 306, 307, 312, 313, 320, 321, 363, 364, 375, 376, 390, 391, 394, 395, 405, 406, 422, 423, 431, 432, 440, 441, 448, 449, 462, 463, 491, 492, 503, 504, 505, 517, 518, 582, 583, 611, 612, 619, 620]
noncomputable def caughtC : Code := bodyOf Tryz.prog 152
noncomputable def caughtR : Code := seqB caughtC
noncomputable def caughtO : Oper := match seqA caughtC with
  | .region _ #[o] _ => o
  | _ => default
theorem caught_body : Tryz.f152.body = some (.seq (.region 0 #[caughtO] false) caughtR) := by kernel_rfl
noncomputable def dhC : Dh := dhookM Tryz.prog okT 152 15 5 1000 caughtR
theorem callsOK : CallsOK Tryz.prog := callsOK_of (by kernel_rfl)
theorem mixed : Tryz.prog.follows .mixedOrders = true := by kernel_rfl
theorem okt : OkT Tryz.prog okT := okT_of (by kernel_rfl)
theorem dhC_good : DhGood Tryz.prog dhC := dhookM_good okt callsOK mixed Tryz.func152 caught_body (by kernel_rfl) (by kernel_rfl) (by kernel_rfl) (by kernel_rfl) (fun l => by kernel_rfl) (fun e w => by kernel_rfl)

/-- Where a byte stands first. -/
def ixN (n x c k : Nat) : Int := match n with
  | 0 => -1
  | n + 1 => match Nat.beq (x % 256) c with
    | true => .ofNat k
    | false => ixN n (x / 256) c (k + 1)
theorem ixN_spec (c : Nat) (hc : c < 256) : ∀ n x k, ixN n x c k = if Lib.indexByte (unrowU x n) (UInt8.ofNat c) = -1 then -1 else Lib.indexByte (unrowU x n) (UInt8.ofNat c) + k
  | 0, x, k => rfl
  | n + 1, x, k => by
    have ih := ixN_spec c hc n (x / 256) (k + 1)
    have hge := Lib.indexByte_ge (unrowU (x / 256) n) (UInt8.ofNat c)
    unfold ixN
    simp only [unrowU]
    unfold Lib.indexByte
    by_cases h : x % 256 = c
    · have hb : Nat.beq (x % 256) c = true := by rw [h]; exact Nat.beq_refl c
      have hb2 : (UInt8.ofNat (x % 256) == UInt8.ofNat c) = true := by rw [h]; exact beq_self_eq_true _
      rw [hb]
      simp only [hb2, if_true]
      show (k : Int) = _
      rw [if_neg (by decide)]
      omega
    · have hb : Nat.beq (x % 256) c = false := by
        cases e : Nat.beq (x % 256) c
        · rfl
        · exact absurd (Nat.eq_of_beq_eq_true e) h
      have hb2 : (UInt8.ofNat (x % 256) == UInt8.ofNat c) = false := by
        rw [beq_eq_false_iff_ne]
        intro e
        have e2 := congrArg UInt8.toNat e
        rw [UInt8.toNat_ofNat', UInt8.toNat_ofNat'] at e2
        omega
      rw [hb]
      simp only [hb2, Bool.false_eq_true, if_false]
      rw [ih]
      generalize Lib.indexByte (unrowU (x / 256) n) (UInt8.ofNat c) = z at hge ⊢
      by_cases hz : z = -1
      · subst hz; rfl
      · have hz2 : (z == -1) = false := by rw [beq_eq_false_iff_ne]; exact hz
        rw [if_neg hz, hz2]
        simp only [Bool.false_eq_true, if_false]
        rw [if_neg (by omega)]
        omega

def gIx : List AV → Option AV
  | [.str n x, .int .u8 (.ofNat c)] => match Nat.blt c 256 with
    | true => some (.int .i64 (ixN n x c 0))
    | false => none
  | _ => none
theorem ix_fn : fnOf Tryz.prog 181 = some (ntOf Tryz.prog 181, bodyOf Tryz.prog 181, resultsOf Tryz.prog 181) := by kernel_rfl
noncomputable def hI : Hk := pureHook 181 gIx
theorem hI_good : HkGood Tryz.prog hI := by
  obtain ⟨fn, h1, _, h3, _⟩ := fnOf_ok ix_fn
  refine pureHook_good ⟨fn, _, h1, h3⟩ fun args v σ us hg hd => ?_
  unfold gIx at hg
  split at hg
  · rename_i n x c
    split at hg
    · rename_i hc
      have hc : c < 256 := by
        have := Nat.le_of_ble_eq_true hc
        omega
      obtain rfl := Option.some.inj hg
      obtain rfl : [Value.string (bytesOf n x), .int .u8 (Int.ofNat c)] = us := Option.some.inj hd
      refine ⟨_, rfl, fun w => Calls.mono (ixb_any (bytesOf n x) (Int.ofNat c) w) ?_⟩
      rintro e w' ⟨rfl, rfl⟩
      refine ⟨?_, rfl⟩
      have hge := Lib.indexByte_ge (unrowU x n) (UInt8.ofNat c)
      have e1 : Lib.indexByte (bytesOf n x).data.toList (Int.ofNat c).toNat.toUInt8 = Lib.indexByte (unrowU x n) (UInt8.ofNat c) := rfl
      rw [e1, ixN_spec c hc n x 0]
      split
      · rename_i h; rw [h]
      · simp
    · cases hg
  · cases hg
def fRun : Nat := 6
end Go.Proofs.YtlnekpnopjgbfaaGreatDoor
