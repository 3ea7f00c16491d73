/- The tie of the listed variables, by single facts: the words, the kinds, the names. -/
import Derived.Test.YtlnekpnopjgbfaaGreatDoorRows
import Derived.LaidByTextLater
import Derived.LaidOnce
import Derived.SevenTiedAt
import Derived.KernelRfl
set_option linter.all false
namespace Go.Proofs.YtlnekpnopjgbfaaGreatDoor.tied
open Go
set_option maxRecDepth 100000
def vs : List (String × DataW Unit) := [("unicode/utf8.acceptRanges", Rows.laid_unicode_utf8_acceptRanges), ("strings.asciiSpace", Rows.laid_strings_asciiSpace), ("unicode.White_Space", Rows.laid_unicode_White_Space), ("internal/strconv.uint64pow10", Rows.laid_internal_strconv_uint64pow10), ("math/bits.deBruijn32tab", Rows.laid_math_bits_deBruijn32tab), ("math/bits.deBruijn64tab", Rows.laid_math_bits_deBruijn64tab), ("pawl/sha.first", Rows.laid_pawl_sha_first), ("pawl/sha.round", Rows.laid_pawl_sha_round), ("strconv.ErrSyntax", Rows.laid_strconv_ErrSyntax), ("strconv.ErrRange", Rows.laid_strconv_ErrRange), ("internal/strconv.optimize", Rows.laid_internal_strconv_optimize), ("internal/strconv.powtab", Rows.laid_internal_strconv_powtab)]
def ks : List LaidKind := [.data, .data, .listed, .data, .data, .data, .data, .data, .sentinel, .sentinel, .data, .data]
theorem f1 : Tryz.prog.worded (varsWordLater true) = true := by kernel_rfl
theorem f2 : Tryz.prog.worded (varsWordLater !true) = false := by kernel_rfl
theorem f3 : Tryz.prog.worded rootWordLater = true := by kernel_rfl
theorem f4 : vs.map (fun x => Tryz.prog.kindOfLater x.1) = ks.map some := by kernel_rfl
theorem f5 : (Tryz.prog.funcNamed "gosem.cut.vars").isSome = true := by kernel_rfl
end Go.Proofs.YtlnekpnopjgbfaaGreatDoor.tied
