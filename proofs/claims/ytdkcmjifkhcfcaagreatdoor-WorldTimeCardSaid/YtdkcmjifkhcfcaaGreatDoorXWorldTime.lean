/- WorldTime: the tied card of the law. No condition beyond the row's own. -/
import Derived.Test.YtdkcmjifkhcfcaaGreatDoorXLm
import Derived.Test.YtdkcmjifkhcfcaaGreatDoorXW24t
import Derived.Test.YtdkcmjifkhcfcaaGreatDoorWt2
import Derived.Test.YtdkcmjifkhcfcaaGreatDoorTWorldTime
set_option linter.all false
open Go Go.Proofs Go.RowKit
set_option linter.unusedVariables false
namespace Go.Proofs.YtdkcmjifkhcfcaaGreatDoor
set_option maxRecDepth 100000
theorem ro_at : a7.ro = [(3, Go.Sx.Cont.cells (pows.map fun z => Go.Sx.AV.int .u64 z))] := by kernel_rfl
theorem worldTime_walk : worldTime.Walk := by
  intro H enc base W v0 d0 p0 hL k0 t0
  obtain ⟨ao, len, cap, rfl⟩ := Go.WideShapes.okWide_slice Tryz.underlying22 k0
  rw [MakeChecks.laidMetH_plain _ _ _ (by kernel_rfl)] at hL
  obtain ⟨el, hb⟩ := laid_ro hL (List.mem_of_getElem? (show Rows.worldTimeRow.laid[2]? = some (_, _) from rfl)) (by kernel_rfl) (by kernel_rfl)
  have hW : ∀ W', Go.Pw.Only W W' [] → ∀ id c, (id, c) ∈ a7.ro → Go.Sx.BlkOK (Go.Sx.env0 Tryz.prog) W' id (.mk el 0 c) := fun W' ho id c hm =>
    Go.Sx.blk_still ⟨ho.os, ho.tape, ho.output, ho.size, fun k hk => ho.block k hk (by simp)⟩ (hb id c (by rw [← ro_at]; exact hm))
  obtain ⟨ao', c', l, he, hs, hq⟩ := Go.Pw.reads_recs (α := Nat) (enc := fc) (k := 1) fc_len (by decide) (Q := fun x => x < 18446744073709551616) Tryz.underlying22 (by kernel_rfl) (fun cs' _ hr => by
    obtain ⟨b, h1, h2⟩ := Go.Pw.reads_float Tryz.underlying26 hr
    exact ⟨b, h1, h2⟩) (Go.Pw.reads_of t0)
  have he : ([.slice ao len cap] : List Value) = [.slice ao' l.length c'] := he
  simp only [List.cons.injEq, Value.slice.injEq, and_true] at he
  obtain ⟨rfl, rfl, rfl⟩ := he
  refine (time_any _ l W hs hq (fun W' ho => awake24 (E := fun _ => el) (hW W' ho)) (fun W' ho => (play_any (E := fun _ => el) (hW W' ho)).mono ?_)).mono ?_
  · rintro e w ⟨b, o, cs, T, fr, rfl, bel, hsz, hbk, hfr, hc⟩
    have ho5 := (Array.getElem?_eq_some_iff.1 hc).1
    exact ⟨b, o, rfl, bel, ⟨cs, T, fr, hbk, hc, fun w' cs' hcs hh => Go.Sx.world_free hh (by rw [hcs]; exact hfr) (by rw [hcs]; exact ho5)⟩, hsz⟩
  · rintro e w ⟨rfl, ho⟩
    exact ⟨rfl, ⟨ho.os, ho.tape, ho.output, ho.size, fun k hk => ho.block k hk (by simp)⟩⟩

theorem worldTimeCard_holds : Rows.WorldTimeCardSaid := worldTime.card worldTime_walk
end Go.Proofs.YtdkcmjifkhcfcaaGreatDoor
