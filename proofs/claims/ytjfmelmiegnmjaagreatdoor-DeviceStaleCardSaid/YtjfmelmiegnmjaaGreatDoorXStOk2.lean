/- The types whose values may be compared: rows of 32 bytes, too. -/
import Derived.Test.YtjfmelmiegnmjaaGreatDoorXStXh
set_option linter.all false
open Go Go.Sx Go.Proofs
set_option linter.all false
namespace Go.Proofs.YtjfmelmiegnmjaaGreatDoor
set_option maxRecDepth 1000000
def okT2 (t : Nat) : Bool := memN t (404 :: [7, 8, 22, 23, 29, 30, 39, 40, 43, 44, 52, 53, 54, 55, 81, 82, 83, 84, 87, 88, 89, 90, 91, 92, 117, 118, 120, 121, 132, 133, 137, 138, 139, 140, 146, 147, 150, 151, 153, 154, 156, 157, 165, 166, 168, 169, 170, 171, 173, 174, 176, 177, 178, 179, 184, 185, 217, 218, 226, 227, 230, 231, 241, 242, 268, 269, 273, 274, 297, 298, 310, 311, 357, 361, 362, 376, 377, 400, 401, 446, 447, 511, 512])
theorem okt2 : OkT Tryz.prog okT2 := okT_of (by kernel_rfl)
end Go.Proofs.YtjfmelmiegnmjaaGreatDoor
