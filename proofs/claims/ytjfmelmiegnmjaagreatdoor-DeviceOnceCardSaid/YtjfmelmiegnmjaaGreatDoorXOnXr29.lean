/- DeviceOnce: data and runs. -/
import Derived.Test.YtjfmelmiegnmjaaGreatDoorXOnXh
set_option linter.all false
open Go Go.Sx Go.Proofs
set_option linter.all false
namespace Go.Proofs.YtjfmelmiegnmjaaGreatDoor
set_option maxRecDepth 1000000
theorem run_q212 : Rn q212 hk212 := fun E => by kernel_rfl
theorem run_q213 : Rn q213 hk213 := fun E => by kernel_rfl
theorem run_q230 : Rn q230 hk230 := fun E => by kernel_rfl
theorem run_q235 : Rn q235 hk235 := fun E => by kernel_rfl
theorem run_q240 : Rn q240 hk240 := fun E => by kernel_rfl
theorem run_q241 : Rn q241 hk241 := fun E => by kernel_rfl
theorem run_q246 : Rn q246 hk246 := fun E => by kernel_rfl
theorem run_q247 : Rn q247 hk247 := fun E => by kernel_rfl
theorem run_q103 : Rn q103 hk103 := fun E => by kernel_rfl
theorem run_q121 : Rn q121 hk121 := fun E => by kernel_rfl
theorem run_q122 : Rn q122 hk122 := fun E => by kernel_rfl
theorem run_q180 : Rn q180 hk180 := fun E => by kernel_rfl
theorem run_q181 : Rn q181 hk181 := fun E => by kernel_rfl
theorem run_q192 : Rn q192 hk192 := fun E => by kernel_rfl
theorem run_q193 : Rn q193 hk193 := fun E => by kernel_rfl
theorem run_q218 : Rn q218 hk218 := fun E => by kernel_rfl
theorem run_q219 : Rn q219 hk219 := fun E => by kernel_rfl
theorem run_q224 : Rn q224 hk224 := fun E => by kernel_rfl
theorem run_q225 : Rn q225 hk225 := fun E => by kernel_rfl
theorem run_q252 : Rn q252 hk252 := fun E => by kernel_rfl
theorem run_q253 : Rn q253 hk253 := fun E => by kernel_rfl
theorem run_q258 : Rn q258 hk258 := fun E => by kernel_rfl
theorem run_q259 : Rn q259 hk259 := fun E => by kernel_rfl
end Go.Proofs.YtjfmelmiegnmjaaGreatDoor
