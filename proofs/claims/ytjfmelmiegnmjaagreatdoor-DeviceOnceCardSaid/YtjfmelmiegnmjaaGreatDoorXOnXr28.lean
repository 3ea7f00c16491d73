/- DeviceOnce: data and runs. -/
import Derived.Test.YtjfmelmiegnmjaaGreatDoorXOnXh
set_option linter.all false
open Go Go.Sx Go.Proofs
set_option linter.all false
namespace Go.Proofs.YtjfmelmiegnmjaaGreatDoor
set_option maxRecDepth 1000000
theorem run_q242 : Rn q242 hk242 := fun E => by kernel_rfl
theorem run_q243 : Rn q243 hk243 := fun E => by kernel_rfl
theorem run_q4 : Rn q4 hk4 := fun E => by kernel_rfl
theorem run_q8 : Rn q8 hk8 := fun E => by kernel_rfl
theorem run_q94 : Rn q94 hk94 := fun E => by kernel_rfl
theorem run_q113 : Rn q113 hk113 := fun E => by kernel_rfl
theorem run_q172 : Rn q172 hk172 := fun E => by kernel_rfl
theorem run_q184 : Rn q184 hk184 := fun E => by kernel_rfl
theorem run_q75 : Rn q75 hk75 := fun E => by kernel_rfl
theorem run_q126 : Rn q126 hk126 := fun E => by kernel_rfl
theorem run_q137 : Rn q137 hk137 := fun E => by kernel_rfl
theorem run_q148 : Rn q148 hk148 := fun E => by kernel_rfl
theorem run_q160 : Rn q160 hk160 := fun E => by kernel_rfl
theorem run_q210 : Rn q210 hk210 := fun E => by kernel_rfl
theorem run_q211 : Rn q211 hk211 := fun E => by kernel_rfl
theorem run_q194 : Rn q194 hk194 := fun E => by kernel_rfl
theorem run_q197 : Rn q197 hk197 := fun E => by kernel_rfl
theorem run_q198 : Rn q198 hk198 := fun E => by kernel_rfl
theorem run_q202 : Rn q202 hk202 := fun E => by kernel_rfl
theorem run_q203 : Rn q203 hk203 := fun E => by kernel_rfl
theorem run_q208 : Rn q208 hk208 := fun E => by kernel_rfl
theorem run_q209 : Rn q209 hk209 := fun E => by kernel_rfl
theorem run_q46 : Rn q46 hk46 := fun E => by kernel_rfl
theorem run_q64 : Rn q64 hk64 := fun E => by kernel_rfl
theorem run_q65 : Rn q65 hk65 := fun E => by kernel_rfl
theorem run_q83 : Rn q83 hk83 := fun E => by kernel_rfl
theorem run_q84 : Rn q84 hk84 := fun E => by kernel_rfl
theorem run_q134 : Rn q134 hk134 := fun E => by kernel_rfl
theorem run_q145 : Rn q145 hk145 := fun E => by kernel_rfl
theorem run_q156 : Rn q156 hk156 := fun E => by kernel_rfl
theorem run_q157 : Rn q157 hk157 := fun E => by kernel_rfl
theorem run_q168 : Rn q168 hk168 := fun E => by kernel_rfl
theorem run_q169 : Rn q169 hk169 := fun E => by kernel_rfl
theorem run_q196 : Rn q196 hk196 := fun E => by kernel_rfl
theorem run_q201 : Rn q201 hk201 := fun E => by kernel_rfl
theorem run_q206 : Rn q206 hk206 := fun E => by kernel_rfl
theorem run_q207 : Rn q207 hk207 := fun E => by kernel_rfl
end Go.Proofs.YtjfmelmiegnmjaaGreatDoor
