/- Time passes in a world: Do at a tick, Now. -/
import Derived.Test.YtdkcmjifkhcfcaaGreatDoorInst2
import Derived.Test.YtdkcmjifkhcfcaaGreatDoorWt
import Derived.Test.YtdkcmjifkhcfcaaGreatDoorJr
import Derived.Deep.Cut
import Derived.StillTailTactics
set_option linter.all false
namespace Go.Proofs.YtdkcmjifkhcfcaaGreatDoor
open Go.RowKit Go.Pw Go.Pw.Fl
set_option linter.unusedVariables false
set_option linter.unusedSimpArgs false

/-- A world's block: its time is so. -/
def WB (w : World) (b o now : Nat) : Prop := ∃ (cs : Array Value) (T : TypeId) (fr : Nat × Nat), w.heap[b]? = some (.cells cs T fr) ∧ cs[o + 5]? = some (.float .f64 now) ∧
  ∀ (w' : World) (cs' : Array Value), cs'.size = cs.size → w'.heap[b]? = some (.cells cs' T fr) → w'.frozen? ⟨b, o + 5, none⟩ = false

theorem WB.off {w w' : World} {b o now : Nat} (h : WB w b o now) {L : List Nat} (ho : Only w w' L) (hn : b ∉ L) : WB w' b o now := by
  obtain ⟨cs, T, fr, h1, h2, h3⟩ := h
  exact ⟨cs, T, fr, ho.at h1 hn, h2, h3⟩
theorem WB.cell {w : World} {b o now : Nat} (h : WB w b o now) : w.cell? ⟨b, o + 5, none⟩ = some (.float .f64 now) := by
  obtain ⟨cs, T, fr, h1, h2, h3⟩ := h
  rw [cell_in h1]; exact h2
theorem WB.free {w : World} {b o now : Nat} (h : WB w b o now) : w.frozen? ⟨b, o + 5, none⟩ = false := by
  obtain ⟨cs, T, fr, h1, h2, h3⟩ := h
  exact h3 w cs rfl h1
theorem WB.set {w : World} {b o now : Nat} (h : WB w b o now) (t : Nat) : WB (w.setCell ⟨b, o + 5, none⟩ (.float .f64 t)) b o t := by
  obtain ⟨cs, T, fr, h1, h2, h3⟩ := h
  refine ⟨_, T, fr, set_at h1 _, ?_, fun w' cs' hs hh => h3 w' cs' (by simpa using hs) hh⟩
  have := (Array.getElem?_eq_some_iff.1 h2).1
  simp [Array.getElem?_setIfInBounds, this]

set_option maxRecDepth 100000 in
theorem now_any (b o now : Nat) (w : World) (h : WB w b o now) :
    Calls Tryz.prog 9 #[.pointer (some ⟨b, o, none⟩)] w fun e w' => e = .returned (.float .f64 now) ∧ w' = w := by
  have hc := h.cell
  clear h
  go_enter Tryz.func9, Tryz.ntmps9
  go_wp2_with fail
  go_ret
  exact ⟨rfl, rfl⟩

set_option maxRecDepth 100000 in
set_option maxHeartbeats 800000 in
theorem tick_any (b o now x : Nat) (hn : now < 18446744073709551616) (hx : x < 18446744073709551616) (w : World) (h : WB w b o now) :
    Calls Tryz.prog 8 #[.pointer (some ⟨b, o, none⟩), .agg #[.int .u8 8, .int .i64 0, .int .i64 0, .int .i64 0, .float .f64 x, .slice none 0 0]] w fun e w' => e = .returned (.int .i64 0) ∧ Only w w' [b] ∧ WB w' b o (passV now x) := by
  have HP := fun w' => (pass_any now x hn hx w').mono (R' := fun e w'' => e = .returned (.float .f64 (passV now x)) ∧ w'' = w') fun e w'' ⟨h1, h2⟩ => ⟨h1, h2.symm⟩
  generalize passV now x = t at *
  clear hn hx
  go_enter Tryz.func8, Tryz.ntmps8
  go_upto_region 13 with (refine wpList_box_new rfl 31 _ rfl (.agg #[.int .u8 8, .int .i64 0, .int .i64 0, .int .i64 0, .float .f64 x, .slice none 0 0]) rfl ?_; intro X wX oX hXl hX; have hx0 := cell_in hX 0; have hx4 := cell_in hX 4)
  have hB := h.off (oX.trans (Only.drew wX [])) (by simp)
  have hx4 := cell_in ((Only.drew wX []).at hX (by simp)) 4
  have hc := hB.cell
  have hf := hB.free
  have ho := oX.trans (Only.drew wX [])
  clear h hX hXl hx0 oX
  go_still_tail 10, (by kernel_rfl)
  still_call (HP _)
  repeat still_step
  refine wpStill_nil ?_
  change wpList _ _ _ _ _ wX.drew
  generalize wX.drew = w9 at *
  have hsf : (store (⟨b, o + 5, none⟩ : Addr) (.float .f64 t)).run Tryz.prog w9 = .ok () (w9.setCell ⟨b, o + 5, none⟩ (.float .f64 t)) := by
    rw [run_store _ _ _ _ _ rfl]
    simp [stored, hc, hf]
  go_wp2_with fail
  go_ret
  exact ⟨rfl, (ho.mono (by simp)).trans (Only.setCell _ _ _ _ (by simp)), hB.set t⟩
end Go.Proofs.YtdkcmjifkhcfcaaGreatDoor
