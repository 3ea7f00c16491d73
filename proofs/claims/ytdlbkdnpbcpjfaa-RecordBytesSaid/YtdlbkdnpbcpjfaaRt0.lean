/- Plain facts of what a book tells. Printed by gen_rt.py. -/
import Derived.Test.YtdlbkdnpbcpjfaaRs0
import Derived.Deep.Cut
import Derived.Deep.CutBlock
import Derived.Deep.CutRange
set_option linter.unusedSimpArgs false
set_option linter.unusedVariables false
namespace Go.Proofs.Ytdlbkdnpbcpjfaa
open Go.RowKit Go.Pw Go.Pw.Fl
set_option linter.unusedVariables false

/-- Is a device among the first j lines? -/
def hitB (M : List Ln) (u d : Int) (j : Nat) : Bool := (M.take j).any fun y => decide (y.u = u ∧ y.d = d)
theorem hit_step {M : List Ln} (u d : Int) {j : Nat} (hj : j < M.length) : hitB M u d (j + 1) = (hitB M u d j || decide (M[j].u = u ∧ M[j].d = d)) := by
  unfold hitB
  rw [List.take_succ_eq_append_getElem hj, List.any_append]
  simp
theorem hit_zero (M : List Ln) (u d : Int) : hitB M u d 0 = false := rfl
theorem hit_end {i : Nat} {L : List Rcd} {M : List Ln} (h : Inv i L M) {k : Nat} (hk : k < L.length) : hitB M L[k].u L[k].d M.length = true := by
  obtain ⟨j, hj, e⟩ := h.line_of hk
  have e1 : L[k].u = M[j].u := congrArg Ent.u e
  have e2 : L[k].d = M[j].d := congrArg Ent.d e
  unfold hitB
  rw [List.take_length, List.any_eq_true]
  exact ⟨M[j], List.getElem_mem hj, by simp [e1, e2]⟩
/-- How many lines of a user that aren't stale are among the first k. -/
def cntM (M : List Ln) (u : Int) (k : Nat) : Nat := ((M.take k).filter fun y => y.u == u && !y.st).length
theorem cnt_step {M : List Ln} (u : Int) {k : Nat} (hk : k < M.length) : cntM M u (k + 1) = cntM M u k + (if (M[k].u == u && !M[k].st) = true then 1 else 0) := by
  unfold cntM
  rw [List.take_succ_eq_append_getElem hk, List.filter_append, List.length_append]
  cases h : (M[k].u == u && !M[k].st) <;> simp [h]
theorem cnt_le (M : List Ln) (u : Int) (k : Nat) : cntM M u k ≤ k := by
  unfold cntM
  have := List.length_filter_le (fun y : Ln => y.u == u && !y.st) (M.take k)
  rw [List.length_take] at this
  omega
theorem cnt_end {i : Nat} {L : List Rcd} {M : List Ln} (h : Inv i L M) (u : Int) : cntM M u M.length = (lstL (L.map re) u).length := by
  unfold cntM lstL
  rw [List.take_length, List.length_map, List.filter_map, List.length_map]
  have hp := (h.perm.filter fun e => e.u == u && !e.st).length_eq
  rw [List.filter_map, List.filter_map, List.length_map, List.length_map] at hp
  exact hp.symm
theorem lst_at {L : List Rcd} {u : Int} {k : Nat} (hk : k < (lstL (L.map re) u).length) : ∃ m, ∃ hm : m < L.length, (lstL (L.map re) u)[k] = (L[m].u, L[m].d) ∧ L[m].u = u ∧ L[m].st = false := by
  have hm := List.getElem_mem hk
  obtain ⟨r, hr, e⟩ := List.mem_map.1 hm
  obtain ⟨hr1, hr2⟩ := List.mem_filter.1 hr
  obtain ⟨q, hq, rfl⟩ := List.mem_map.1 hr1
  obtain ⟨m, hm, rfl⟩ := List.mem_iff_getElem.1 hq
  simp only [inL, re, Bool.and_eq_true, beq_iff_eq, Bool.not_eq_true'] at hr2
  exact ⟨m, hm, e.symm, hr2.1, hr2.2⟩
theorem lst_asc {L : List Rcd} (h : Asc L) {u : Int} {k : Nat} (hk : k + 1 < (lstL (L.map re) u).length) : (lstL (L.map re) u)[k].1 < (lstL (L.map re) u)[k + 1].1 ∨ (lstL (L.map re) u)[k].1 = (lstL (L.map re) u)[k + 1].1 ∧ (lstL (L.map re) u)[k].2 < (lstL (L.map re) u)[k + 1].2 := by
  have h1 : (L.map re).Pairwise fun a b => a.u < b.u ∨ a.u = b.u ∧ a.d < b.d := List.pairwise_map.2 h
  have h2 : (lstL (L.map re) u).Pairwise fun a b => a.1 < b.1 ∨ a.1 = b.1 ∧ a.2 < b.2 := List.pairwise_map.2 (h1.sublist List.filter_sublist)
  exact List.pairwise_iff_getElem.1 h2 k (k + 1) (by omega) hk (by omega)
end Go.Proofs.Ytdlbkdnpbcpjfaa
