/- DeviceOnce: data and runs. -/
import Derived.Test.YtjfmelmiegnmjaaGreatDoorXOnXh
set_option linter.all false
open Go Go.Sx Go.Proofs
set_option linter.all false
namespace Go.Proofs.YtjfmelmiegnmjaaGreatDoor
set_option maxRecDepth 1000000
theorem run_q161 : Rn q161 hk161 := fun E => by kernel_rfl
theorem run_q128 : Rn q128 hk128 := fun E => by kernel_rfl
theorem run_q129 : Rn q129 hk129 := fun E => by kernel_rfl
theorem run_q139 : Rn q139 hk139 := fun E => by kernel_rfl
theorem run_q140 : Rn q140 hk140 := fun E => by kernel_rfl
theorem run_q150 : Rn q150 hk150 := fun E => by kernel_rfl
theorem run_q151 : Rn q151 hk151 := fun E => by kernel_rfl
theorem run_q162 : Rn q162 hk162 := fun E => by kernel_rfl
theorem run_q163 : Rn q163 hk163 := fun E => by kernel_rfl
theorem run_q176 : Rn q176 hk176 := fun E => by kernel_rfl
theorem run_q177 : Rn q177 hk177 := fun E => by kernel_rfl
theorem run_q188 : Rn q188 hk188 := fun E => by kernel_rfl
theorem run_q189 : Rn q189 hk189 := fun E => by kernel_rfl
theorem run_q174 : Rn q174 hk174 := fun E => by kernel_rfl
theorem run_q175 : Rn q175 hk175 := fun E => by kernel_rfl
end Go.Proofs.YtjfmelmiegnmjaaGreatDoor
