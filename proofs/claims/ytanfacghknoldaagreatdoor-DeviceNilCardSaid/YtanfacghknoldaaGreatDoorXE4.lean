/- The law's awake returns true, whatever the world. -/
import Derived.Test.YtanfacghknoldaaGreatDoorXE0
import Derived.Test.YtanfacghknoldaaGreatDoorXSc
import Derived.Test.YtanfacghknoldaaGreatDoorProg
import Derived.WalkKit
import Derived.Defers
import Derived.Recover
import Derived.Test.YtanfacghknoldaaGreatDoorXE1
import Derived.Test.YtanfacghknoldaaGreatDoorXE2
import Derived.Test.YtanfacghknoldaaGreatDoorXE3
set_option linter.all false
open Go Go.Sx Go.Proofs
namespace Go.Proofs.YtanfacghknoldaaGreatDoor
set_option maxRecDepth 1000000
theorem run3 : ∀ E, i3.chk (xcall Tryz.prog okT (hooksL [i0, i1, i2]) dh 100000 100 i3.f i3.args (i3.st0 E)) = true := fun E => by kernel_rfl
end Go.Proofs.YtanfacghknoldaaGreatDoor

open Go Go.Sx Go.Proofs
namespace Go.Proofs.YtanfacghknoldaaGreatDoor
set_option maxRecDepth 1000000
theorem callsOK : CallsOK Tryz.prog := callsOK_of (by kernel_rfl)
theorem mixed : Tryz.prog.follows .mixedOrders = true := by kernel_rfl
theorem okt : OkT Tryz.prog okT := okT_of (by kernel_rfl)
end Go.Proofs.YtanfacghknoldaaGreatDoor

open Go Go.Sx Go.Proofs Go.RowKit
namespace Go.Proofs.YtanfacghknoldaaGreatDoor
set_option maxRecDepth 100000

theorem caught_idle (v : Value) (w : World) : CallsD Tryz.prog 59 #[v] .returning w fun e u' w' => e = .returned (.tuple #[]) ∧ u' = .returning ∧ w' = w := by
  refine callsD_of_wpS Tryz.func59 rfl fun c₀ cs hu => ?_
  have hnil : ∀ w : World, (binOp BinOp.eql 20 .nilIface .nilIface).run Tryz.prog w = .ok (.bool true) w := fun _ => by kernel_rfl
  apply wpS_seq
  apply wpS_region
  simp [wpOpsS, go_sem, recoverD, hu, Tryz.ntmps59, Exit.thenS]
  refine wpS_of_wp ?_
  go_wp2
  cases c₀
  simp_all [bodyPostS, results, Tryz.results59, Exit.thenS]
end Go.Proofs.YtanfacghknoldaaGreatDoor

open Go Go.Sx Go.Proofs Go.RowKit
namespace Go.Proofs.YtanfacghknoldaaGreatDoor
set_option maxRecDepth 100000

theorem dh_eq {f vs u st r} (h : dh f vs u st = some r) : f = 59 ∧ u = none ∧ (∃ v, vs = [v]) ∧ r = (none, st) := by
  unfold dh at h
  cases hb : Nat.beq f 59 with
  | false => rw [hb] at h; cases h
  | true =>
    rw [hb] at h
    simp only [cond_true] at h
    split at h
    · rename_i v
      exact ⟨Nat.eq_of_beq_eq_true hb, rfl, ⟨v, rfl⟩, (Option.some.inj h).symm⟩
    · cases h

theorem dh_good : DhGood Tryz.prog dh := by
  refine ⟨fun f vs u st u' st' h σ w us m hr hg hv hm hf => ?_, fun f vs u st u' st' h => ?_, fun f vs u st r h => ?_⟩
  · obtain ⟨rfl, rfl, ⟨v, rfl⟩, he⟩ := dh_eq h
    injection he with h1 h2
    subst h1; subst h2
    obtain rfl : m = .returning := hm
    obtain ⟨x, us', rfl, h3, h4⟩ := denL_cons hv
    obtain rfl := denL_nil h4
    refine (caught_idle x w).mono ?_
    rintro e m' w' ⟨rfl, rfl, rfl⟩
    exact ⟨_, rfl, σ, Stp.refl hr, rfl⟩
  · obtain ⟨_, _, _, he⟩ := dh_eq h
    injection he with h1 h2
    subst h2
    exact Nat.le_refl _
  · obtain ⟨rfl, _, _, _⟩ := dh_eq h
    exact ⟨Tryz.f59, _, by rw [nthL_eq, Array.getElem?_toList]; exact Tryz.func59, rfl⟩

theorem hooks : HkGood Tryz.prog (hooksL [i0, i1, i2]) := hooks_good fun i hi => by
  simp only [List.mem_cons, List.not_mem_nil, or_false] at hi
  rcases hi with rfl | rfl | rfl
  · exact inst_good okt callsOK mixed HkGood.nil dh_good i0 (by kernel_rfl) (by kernel_rfl) run0
  · exact inst_good okt callsOK mixed HkGood.nil dh_good i1 (by kernel_rfl) (by kernel_rfl) run1
  · exact inst_good okt callsOK mixed HkGood.nil dh_good i2 (by kernel_rfl) (by kernel_rfl) run2

theorem awake_any (W : World) (E : Nat → Nat) (hW : ∀ id c, (id, c) ∈ i3.ro → BlkOK (env0 Tryz.prog) W id (.mk (E id) 0 c)) : Calls Tryz.prog 12 #[] W fun e W' => e = .returned (.bool true) ∧ Below W.heap.size W W' := by
  refine (calls_closed okt callsOK mixed hooks dh_good i3 run3 (by kernel_rfl) rfl (by kernel_rfl) (us := []) rfl E hW).mono ?_
  rintro e W' ⟨u, σ', rfl, hu, hb⟩
  obtain rfl : Value.bool true = u := Option.some.inj hu
  exact ⟨rfl, hb⟩
end Go.Proofs.YtanfacghknoldaaGreatDoor
