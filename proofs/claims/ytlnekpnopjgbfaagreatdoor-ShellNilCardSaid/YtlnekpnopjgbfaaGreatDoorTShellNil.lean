/- The tied card of ShellNil out of its walk: written by a program of ours. -/
import Derived.Test.YtlnekpnopjgbfaaGreatDoorCShellNil0
import Derived.Test.YtlnekpnopjgbfaaGreatDoorCShellNil1
import Derived.Test.YtlnekpnopjgbfaaGreatDoorCShellNil2
import Derived.Test.YtlnekpnopjgbfaaGreatDoorCShellNil3
import Derived.Test.YtlnekpnopjgbfaaGreatDoorSShellNil
import Derived.Test.YtlnekpnopjgbfaaGreatDoorXTie
import Derived.SevenTiedAt
import Derived.KernelRfl
set_option linter.all false
namespace Go.Proofs.YtlnekpnopjgbfaaGreatDoor.shellNil
open Go
set_option maxRecDepth 100000
theorem card (walk : Walk) : Rows.ShellNilCardSaid :=
  Claim7.holds_tied_plain_at .later [] [.pinned, .data, .data, .listed, .data, .data, .data, .data, .data, .sentinel, .sentinel, .data, .pinned, .data, .pinned] true (true, "9124069f3626f414332e8c60157535a295bc02156e5516df1be17bba0c3470df") true (said walk) (fun _ h => by cases h) c1 (fun _ h => by cases h) Go.Proofs.YtlnekpnopjgbfaaGreatDoor.tied.shellNil_row_tie rfl ⟨rfl, rfl⟩ c2 rfl
    (fun f fn hf hfn => by
      obtain rfl : f = 3 := Option.some.inj (c3.symm.trans hf) |>.symm
      obtain rfl : fn = Tryz.f3 := (Option.some.inj (Tryz.func3.symm.trans hfn)).symm
      exact ⟨c4, fun j t ht => by
        rw [Tryz.params3] at ht
        have hm : t ∈ [9] := by simpa using Array.mem_of_getElem? ht
        exact (show Tryz.prog.wantsStandIn t = false by simpa using List.all_eq_true.1 c5 t hm)⟩)
    c6
end Go.Proofs.YtlnekpnopjgbfaaGreatDoor.shellNil
