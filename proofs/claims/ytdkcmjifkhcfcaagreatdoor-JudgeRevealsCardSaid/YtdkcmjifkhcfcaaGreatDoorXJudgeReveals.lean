/- JudgeReveals: the tied card of the law. No condition beyond the row's own. -/
import Derived.Test.YtdkcmjifkhcfcaaGreatDoorXLm
import Derived.Test.YtdkcmjifkhcfcaaGreatDoorXW26
import Derived.Test.YtdkcmjifkhcfcaaGreatDoorJr3
import Derived.Test.YtdkcmjifkhcfcaaGreatDoorTJudgeReveals
set_option linter.all false
open Go Go.Proofs Go.RowKit
set_option linter.unusedVariables false
namespace Go.Proofs.YtdkcmjifkhcfcaaGreatDoor
set_option maxRecDepth 100000
instance : Inhabited Mk := ⟨⟨0, 0, 0, .nilFunc, .nilFunc, .nilFunc, .nilFunc, .nilFunc, .nilFunc⟩⟩
theorem ro_b : b7.ro = [(3, Go.Sx.Cont.cells (pows.map fun z => Go.Sx.AV.int .u64 z))] := by kernel_rfl
theorem mark_in {W : World} {cs : List Value} (hl : cs.length = 9) (h : Go.Pw.Reads Tryz.prog W 55 cs) : ∃ x : Mk, cs = mc x ∧ True := by
  obtain _ | ⟨y0, l⟩ := cs
  · simp at hl
  obtain _ | ⟨y1, l⟩ := l
  · simp at hl
  obtain _ | ⟨y2, l⟩ := l
  · simp at hl
  obtain _ | ⟨y3, l⟩ := l
  · simp at hl
  obtain _ | ⟨y4, l⟩ := l
  · simp at hl
  obtain _ | ⟨y5, l⟩ := l
  · simp at hl
  obtain _ | ⟨y6, l⟩ := l
  · simp at hl
  obtain _ | ⟨y7, l⟩ := l
  · simp at hl
  obtain _ | ⟨y8, l⟩ := l
  · simp at hl
  obtain _ | ⟨z, l⟩ := l
  · have h0 := Go.Pw.reads_field Tryz.underlying55 h 0 _ rfl 0 1 5 rfl rfl (by kernel_rfl)
    have h1 := Go.Pw.reads_field Tryz.underlying55 h 1 _ rfl 1 2 52 rfl rfl (by kernel_rfl)
    have h2 := Go.Pw.reads_field Tryz.underlying52 h1 0 _ rfl 0 1 3 rfl rfl (by kernel_rfl)
    have h3 := Go.Pw.reads_field Tryz.underlying52 h1 1 _ rfl 1 1 3 rfl rfl (by kernel_rfl)
    obtain ⟨k, e0, _⟩ := Go.Pw.reads_int Tryz.underlying5 h0
    obtain ⟨u, e1, _⟩ := Go.Pw.reads_int Tryz.underlying3 h2
    obtain ⟨d, e2, _⟩ := Go.Pw.reads_int Tryz.underlying3 h3
    simp only [List.drop_zero, List.take_succ_cons, List.take_zero, List.drop_succ_cons, List.cons.injEq, and_true] at e0 e1 e2
    subst e0 e1 e2
    exact ⟨⟨k, u, d, y3, y4, y5, y6, y7, y8⟩, rfl, trivial⟩
  · simp at hl

theorem judgeReveals_walk : judgeReveals.Walk := by
  intro H enc base W v0 v1 v2 d0 p0 d1 p1 d2 p2 hL k0 t0 k1 t1 k2 t2
  obtain ⟨ao, len, cap, rfl⟩ := Go.WideShapes.okWide_slice Tryz.underlying48 k0
  obtain ⟨pl, rfl⟩ := Go.WideShapes.okWide_int Tryz.underlying3 k1
  obtain ⟨u, d, rfl⟩ := open52 k2 t2
  rw [MakeChecks.laidMetH_plain _ _ _ (by kernel_rfl)] at hL
  obtain ⟨el, hb⟩ := laid_ro hL (List.mem_of_getElem? (show Rows.judgeRevealsRow.laid[2]? = some (_, _) from rfl)) (by kernel_rfl) (by kernel_rfl)
  have hW : ∀ W', Go.Pw.Only W W' [] → ∀ id c, (id, c) ∈ b7.ro → Go.Sx.BlkOK (Go.Sx.env0 Tryz.prog) W' id (.mk el 0 c) := fun W' ho id c hm =>
    Go.Sx.blk_still ⟨ho.os, ho.tape, ho.output, ho.size, fun k hk => ho.block k hk (by simp)⟩ (hb id c (by rw [← ro_b]; exact hm))
  obtain ⟨ao', c', l, he, hs, _⟩ := Go.Pw.reads_recs (α := Mk) (enc := mc) (k := 9) mc_len (by decide) (Q := fun _ => True) Tryz.underlying48 (by kernel_rfl) (fun cs' hl hr => mark_in hl hr) (Go.Pw.reads_of t0)
  have he : ([.slice ao len cap] : List Value) = [.slice ao' l.length c'] := he
  simp only [List.cons.injEq, Value.slice.injEq, and_true] at he
  obtain ⟨rfl, rfl, rfl⟩ := he
  refine (reveals_any pl u d _ l W hs (fun W' ho => awake26 (E := fun _ => el) (hW W' ho))).mono ?_
  rintro e w ⟨rfl, ho⟩
  exact ⟨rfl, ⟨ho.os, ho.tape, ho.output, ho.size, fun k hk => ho.block k hk (by simp)⟩⟩

theorem judgeRevealsCard_holds : Rows.JudgeRevealsCardSaid := judgeReveals.card judgeReveals_walk
end Go.Proofs.YtdkcmjifkhcfcaaGreatDoor
