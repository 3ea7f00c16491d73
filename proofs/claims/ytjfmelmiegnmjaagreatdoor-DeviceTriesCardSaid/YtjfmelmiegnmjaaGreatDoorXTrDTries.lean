/- DeviceTries: the law's call: by the numbers' rests. -/
import Derived.Test.YtjfmelmiegnmjaaGreatDoorXTrXk
import Derived.Test.YtjfmelmiegnmjaaGreatDoorXTrDl
set_option linter.all false
open Go Go.Sx Go.Proofs Go.RowKit
set_option linter.all false
namespace Go.Proofs.YtjfmelmiegnmjaaGreatDoor
set_option maxRecDepth 1000000
noncomputable def cF : Code := bodyOf Tryz.prog 4
noncomputable def nF : Nat := ntOf Tryz.prog 4
noncomputable def rsF : List ResultVar := resultsOf Tryz.prog 4
theorem cF_fn : fnOf Tryz.prog 4 = some (nF, cF, rsF) := by kernel_rfl
noncomputable def rF (E : Nat → Nat) (x y : AV) : Ro := xleave Tryz.prog dhC rsF (xcode Tryz.prog okT (xcall Tryz.prog okT hW dhC 1000 60) nF 1000 cF (argsTr 0 [x, y] .lf) [] (st0 roW E))
theorem f00 (n k : Nat) (h : n % 2 = 0 ∧ n < 256) (g : k % 4 = 0 ∧ k < 256) (E : Nat → Nat) : (rF E (.par .u8 n 2 0 h) (.par .u8 k 4 0 g)).isTrue = true := by kernel_rfl
theorem f01 (n k : Nat) (h : n % 2 = 0 ∧ n < 256) (g : k % 4 = 1 ∧ k < 256) (E : Nat → Nat) : (rF E (.par .u8 n 2 0 h) (.par .u8 k 4 1 g)).isTrue = true := by kernel_rfl
theorem f02 (n k : Nat) (h : n % 2 = 0 ∧ n < 256) (g : k % 4 = 2 ∧ k < 256) (E : Nat → Nat) : (rF E (.par .u8 n 2 0 h) (.par .u8 k 4 2 g)).isTrue = true := by kernel_rfl
theorem f03 (n k : Nat) (h : n % 2 = 0 ∧ n < 256) (g : k % 4 = 3 ∧ k < 256) (E : Nat → Nat) : (rF E (.par .u8 n 2 0 h) (.par .u8 k 4 3 g)).isTrue = true := by kernel_rfl
theorem f10 (n k : Nat) (h : n % 2 = 1 ∧ n < 256) (g : k % 4 = 0 ∧ k < 256) (E : Nat → Nat) : (rF E (.par .u8 n 2 1 h) (.par .u8 k 4 0 g)).isTrue = true := by kernel_rfl
theorem f11 (n k : Nat) (h : n % 2 = 1 ∧ n < 256) (g : k % 4 = 1 ∧ k < 256) (E : Nat → Nat) : (rF E (.par .u8 n 2 1 h) (.par .u8 k 4 1 g)).isTrue = true := by kernel_rfl
theorem f12 (n k : Nat) (h : n % 2 = 1 ∧ n < 256) (g : k % 4 = 2 ∧ k < 256) (E : Nat → Nat) : (rF E (.par .u8 n 2 1 h) (.par .u8 k 4 2 g)).isTrue = true := by kernel_rfl
theorem f13 (n k : Nat) (h : n % 2 = 1 ∧ n < 256) (g : k % 4 = 3 ∧ k < 256) (E : Nat → Nat) : (rF E (.par .u8 n 2 1 h) (.par .u8 k 4 3 g)).isTrue = true := by kernel_rfl
theorem deviceTries_any {W : World} {E : Nat → Nat} (hW : ∀ id c, (id, c) ∈ roW → BlkOK (env0 Tryz.prog) W id (.mk (E id) 0 c)) (n k : Nat) (hn : n < 256) (hk : k < 256) :
    Calls Tryz.prog 4 #[.int .u8 n, .int .u8 k] W fun e W' => e = .returned (.bool true) ∧ Below W.heap.size W W' := by
  have h4 : k % 4 = 0 ∨ k % 4 = 1 ∨ k % 4 = 2 ∨ k % 4 = 3 := by omega
  rcases Nat.mod_two_eq_zero_or_one n with h | h <;> rcases h4 with g | g | g | g
  · exact law_whole okt callsOK mixed hW_good dhC_good cF_fn (args := [.par .u8 n 2 0 ⟨h, hn⟩, .par .u8 k 4 0 ⟨g, hk⟩]) rfl (by kernel_rfl) (by kernel_rfl) hW (f00 n k ⟨h, hn⟩ ⟨g, hk⟩ E)
  · exact law_whole okt callsOK mixed hW_good dhC_good cF_fn (args := [.par .u8 n 2 0 ⟨h, hn⟩, .par .u8 k 4 1 ⟨g, hk⟩]) rfl (by kernel_rfl) (by kernel_rfl) hW (f01 n k ⟨h, hn⟩ ⟨g, hk⟩ E)
  · exact law_whole okt callsOK mixed hW_good dhC_good cF_fn (args := [.par .u8 n 2 0 ⟨h, hn⟩, .par .u8 k 4 2 ⟨g, hk⟩]) rfl (by kernel_rfl) (by kernel_rfl) hW (f02 n k ⟨h, hn⟩ ⟨g, hk⟩ E)
  · exact law_whole okt callsOK mixed hW_good dhC_good cF_fn (args := [.par .u8 n 2 0 ⟨h, hn⟩, .par .u8 k 4 3 ⟨g, hk⟩]) rfl (by kernel_rfl) (by kernel_rfl) hW (f03 n k ⟨h, hn⟩ ⟨g, hk⟩ E)
  · exact law_whole okt callsOK mixed hW_good dhC_good cF_fn (args := [.par .u8 n 2 1 ⟨h, hn⟩, .par .u8 k 4 0 ⟨g, hk⟩]) rfl (by kernel_rfl) (by kernel_rfl) hW (f10 n k ⟨h, hn⟩ ⟨g, hk⟩ E)
  · exact law_whole okt callsOK mixed hW_good dhC_good cF_fn (args := [.par .u8 n 2 1 ⟨h, hn⟩, .par .u8 k 4 1 ⟨g, hk⟩]) rfl (by kernel_rfl) (by kernel_rfl) hW (f11 n k ⟨h, hn⟩ ⟨g, hk⟩ E)
  · exact law_whole okt callsOK mixed hW_good dhC_good cF_fn (args := [.par .u8 n 2 1 ⟨h, hn⟩, .par .u8 k 4 2 ⟨g, hk⟩]) rfl (by kernel_rfl) (by kernel_rfl) hW (f12 n k ⟨h, hn⟩ ⟨g, hk⟩ E)
  · exact law_whole okt callsOK mixed hW_good dhC_good cF_fn (args := [.par .u8 n 2 1 ⟨h, hn⟩, .par .u8 k 4 3 ⟨g, hk⟩]) rfl (by kernel_rfl) (by kernel_rfl) hW (f13 n k ⟨h, hn⟩ ⟨g, hk⟩ E)
end Go.Proofs.YtjfmelmiegnmjaaGreatDoor
