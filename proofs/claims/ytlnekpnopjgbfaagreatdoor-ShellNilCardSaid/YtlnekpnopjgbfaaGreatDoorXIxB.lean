/- stringslite.IndexByte: where a byte stands in a string. -/
import Derived.Test.YtlnekpnopjgbfaaGreatDoorProg
import Derived.Lib.Bytealg
import Derived.WalkKit
import Derived.WalkSpells
import Derived.KernelRfl
set_option linter.all false
namespace Go.Proofs.YtlnekpnopjgbfaaGreatDoor
open Go.RowKit
set_option linter.unusedVariables false
set_option linter.unusedSimpArgs false

theorem ixb_any (s : ByteArray) (c : Int) (w : World) :
    Calls Tryz.prog 181 #[.string s, .int .u8 c] w fun e w' => e = .returned (.int .i64 (Lib.indexByte s.data.toList c.toNat.toUInt8)) ∧ w' = w := by
  have hx : ∀ w, (callFunc 272 #[.string s, .int .u8 c]).run Tryz.prog w = .ok (.value (.int .i64 (Lib.indexByte s.data.toList c.toNat.toUInt8))) w := fun w => by
    rw [run_callFunc_extern Tryz.func272 (by kernel_rfl) (by kernel_rfl) (by kernel_rfl) (e := Extern.BytealgIndexByte.indexByte) (by kernel_rfl), Lib.run_indexByteString]
    rfl
  go_enter Tryz.func181, Tryz.ntmps181
  go_wp2_with (simp only [hx])
  go_ret
  exact ⟨rfl, rfl⟩
end Go.Proofs.YtlnekpnopjgbfaaGreatDoor
