/- The tie of the row. -/
import Derived.Test.YtlnekpnopjgbfaaGreatDoorXTb
import Derived.Test.YtlnekpnopjgbfaaGreatDoorXTc
import Derived.Test.YtlnekpnopjgbfaaGreatDoorXTd
set_option linter.all false
namespace Go.Proofs.YtlnekpnopjgbfaaGreatDoor.tied
open Go
set_option maxRecDepth 100000
theorem tie : Tryz.prog.laidByTextLater vs ks true := Program.laidByTextLater_by_one 400 8 257 f1 f2 f3 f4 f5 f6 f7
theorem shellNil_row_tie : Rows.shellNilRow.laidByTextAt .later Tryz.pinned [.pinned, .data, .data, .listed, .data, .data, .data, .data, .data, .sentinel, .sentinel, .data, .pinned, .data, .pinned] true :=
  OpenClaim.laidByTextAt_pinned rfl rfl tie rfl rfl rfl rfl (fun y hy _e => by
    simp only [Rows.shellNilRow, List.zip_cons_cons, List.zip_nil_right, List.mem_cons, List.mem_nil_iff, or_false] at hy
    rcases hy with rfl | rfl | rfl | rfl | rfl | rfl | rfl | rfl | rfl | rfl | rfl | rfl | rfl | rfl | rfl
    · exact ⟨pin_laid_unicode_utf8_first, by kernel_rfl⟩
    · cases _e
    · cases _e
    · cases _e
    · cases _e
    · cases _e
    · cases _e
    · cases _e
    · cases _e
    · cases _e
    · cases _e
    · cases _e
    · exact ⟨pin_laid_internal_strconv_pow10Tab, by kernel_rfl⟩
    · cases _e
    · exact ⟨pin_laid_internal_strconv_leftcheats, by kernel_rfl⟩) fits1
end Go.Proofs.YtlnekpnopjgbfaaGreatDoor.tied
