/- The law's step, any act. Printed by gen_rpl.py. -/
import Derived.Test.YtdlbkdnpbcpjfaaRs3
import Derived.Test.YtdlbkdnpbcpjfaaRs4
import Derived.Test.YtdlbkdnpbcpjfaaRs5
import Derived.Test.YtdlbkdnpbcpjfaaRsN
import Derived.Test.YtdlbkdnpbcpjfaaRsS
import Derived.Test.YtdlbkdnpbcpjfaaRsO
set_option linter.unusedSimpArgs false
set_option linter.unusedVariables false
namespace Go.Proofs.Ytdlbkdnpbcpjfaa
open Go.RowKit Go.Pw Go.Pw.Fl
set_option linter.unusedVariables false

theorem step_any {w0 : World} {rs : List Res} (B : Nat) (L : List Rcd) (M : List Ln) (v mv : Value) (ka A I : Int) (T D i : Nat) (w : World) (h : Pw.Sep w0 w (row 36 7 v (L.map re).length (fl rc (L.map re)) :: blk B [v] 68 :: many (L.map recR) :: row 86 6 mv M.length (fl lnc M) :: rs)) (hV : Inv i L M) (hi : i < 60) (hA : 0 ≤ A ∧ A < 256) (hI : 0 ≤ I ∧ I < 256) (hT : T < 18446744073709551616) (hD : D < 18446744073709551616) (hK : 0 ≤ ka ∧ ka < 256) :
    Calls Try.prog 23 #[.pointer (some ⟨B, 0, none⟩), mv, .agg #[.int .u8 ka, .int .u8 A, .int .u8 I, .float .f64 T, .float .f64 D], .int .i64 i] w (StepP w0 rs B i) := by
  have hat := atL_or M (A % 3) (1 + A / 3 % 3) M.length (Nat.le_refl _)
  by_cases h3 : ka % 6 = 3
  · rcases hat with ⟨ha, _⟩ | ⟨j, hj, ha, hMj⟩
    · exact step_mark0 B L M v mv ka A I T D i w h hV hi hA hI hT hD hK h3 ha
    · cases hs : M[j].st with
      | true => exact step_mark1 B L M v mv ka A I T D i w h hV hi hA hI hT hD hK h3 j hj ha hMj hs
      | false => exact step_mark2 B L M v mv ka A I T D i w h hV hi hA hI hT hD hK h3 j hj ha hMj hs
  by_cases h4 : ka % 6 = 4
  · exact step_drop B L M v mv ka A I T D i w h hV hi hA hI hT hD hK h4 _ rfl
  by_cases h5 : ka % 6 = 5
  · rcases hat with ⟨ha, _⟩ | ⟨j, hj, ha, hMj⟩
    · exact step_put0 B L M v mv ka A I T D i w h hV hi hA hI hT hD hK h5 ha
    · by_cases hn : M[j].n < 4
      · exact step_put1 B L M v mv ka A I T D i w h hV hi hA hI hT hD hK h5 j hj ha hMj hn
      · exact step_put2 B L M v mv ka A I T D i w h hV hi hA hI hT hD hK h5 j hj ha hMj (by omega)
  rcases hat with ⟨ha, _⟩ | ⟨j, hj, ha, hMj⟩
  · exact step_new B L M v mv ka A I T D i w h hV hi hA hI hT hD hK ⟨h3, h4, h5⟩ ha
  · by_cases hs : M[j].i % 3 = I % 3
    · exact step_same B L M v mv ka A I T D i w h hV hi hA hI hT hD hK ⟨h3, h4, h5⟩ j hj ha hMj hs
    · exact step_other B L M v mv ka A I T D i w h hV hi hA hI hT hD hK ⟨h3, h4, h5⟩ j hj ha hMj hs
end Go.Proofs.Ytdlbkdnpbcpjfaa
