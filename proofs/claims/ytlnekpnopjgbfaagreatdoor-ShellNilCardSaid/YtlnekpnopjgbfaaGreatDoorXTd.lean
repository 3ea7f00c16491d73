/- The pinned tables, and that the listed names fit. -/
import Derived.Test.YtlnekpnopjgbfaaGreatDoorXTa
set_option linter.all false
namespace Go.Proofs.YtlnekpnopjgbfaaGreatDoor.tied
open Go
set_option maxRecDepth 100000
theorem pin_laid_unicode_utf8_first : Tryz.pinned.checked.prog.pinnedFits "unicode/utf8.first" = true := by kernel_rfl
theorem pin_laid_internal_strconv_pow10Tab : Tryz.pinned.checked.prog.pinnedFits "internal/strconv.pow10Tab" = true := by kernel_rfl
theorem pin_laid_internal_strconv_leftcheats : Tryz.pinned.checked.prog.pinnedFits "internal/strconv.leftcheats" = true := by kernel_rfl
theorem noOwnUnsafe : Tryz.pinned.checked.prog.headLifts.contains "ownunsafe" = false := by kernel_rfl
theorem fits1 : Tryz.pinned.checked.prog.listedFits [("unicode/utf8.first", Rows.laid_unicode_utf8_first), ("unicode/utf8.acceptRanges", Rows.laid_unicode_utf8_acceptRanges), ("strings.asciiSpace", Rows.laid_strings_asciiSpace), ("unicode.White_Space", Rows.laid_unicode_White_Space), ("internal/strconv.uint64pow10", Rows.laid_internal_strconv_uint64pow10), ("math/bits.deBruijn32tab", Rows.laid_math_bits_deBruijn32tab), ("math/bits.deBruijn64tab", Rows.laid_math_bits_deBruijn64tab), ("pawl/sha.first", Rows.laid_pawl_sha_first), ("pawl/sha.round", Rows.laid_pawl_sha_round), ("strconv.ErrSyntax", Rows.laid_strconv_ErrSyntax), ("strconv.ErrRange", Rows.laid_strconv_ErrRange), ("internal/strconv.optimize", Rows.laid_internal_strconv_optimize), ("internal/strconv.pow10Tab", Rows.laid_internal_strconv_pow10Tab), ("internal/strconv.powtab", Rows.laid_internal_strconv_powtab), ("internal/strconv.leftcheats", Rows.laid_internal_strconv_leftcheats)] = true := by
  unfold Program.listedFits
  rw [noOwnUnsafe]
  kernel_rfl
end Go.Proofs.YtlnekpnopjgbfaaGreatDoor.tied
