/- Plain facts of a book that was read (RecordBytes). Printed by gen_rbt.py. -/
import Derived.Test.YtdlbkdnpbcpjfaaRbG
import Derived.Test.YtdlbkdnpbcpjfaaRt0
set_option linter.unusedSimpArgs false
set_option linter.unusedVariables false
namespace Go.Proofs.Ytdlbkdnpbcpjfaa
open Go.RowKit Go.Pw Go.Pw.Fl
set_option linter.unusedVariables false

/-- A record of any book: its agree is one byte. -/
structure Rg where
  u : Int
  d : Int
  x : Int
  a1 : Option Addr
  c1 : Nat
  a2 : Option Addr
  n2 : Nat
  c2 : Nat
  Q : Nat
  n : Nat
  st : Bool
  t : Nat
def reg (r : Rg) : Re := ⟨r.u, r.d, r.a1, 1, r.c1, r.a2, r.n2, r.c2, some ⟨r.Q, 0, none⟩, r.st, r.t⟩
structure EnK where
  u : Int
  d : Int
  x : Int
  st : Bool
  k : Int
  n : Nat
def entG (r : Rg) : EnK := ⟨r.u, r.d, r.x, r.st, kKey r.t, r.n⟩
def entK (y : Ln) : EnK := ⟨y.u, y.d, y.i % 3, y.st, kKey y.t, y.n⟩
def AscG (L : List Rg) : Prop := L.Pairwise fun a b => a.u < b.u ∨ a.u = b.u ∧ a.d < b.d
structure InvG (i : Nat) (L : List Rg) (M : List Ln) : Prop where
  perm : (L.map entG).Perm (M.map entK)
  asc : AscG L
  len : L.length ≤ i
  rx : ∀ r ∈ L, (0 ≤ r.x ∧ r.x < 256) ∧ r.t < 18446744073709551616
  lx : ∀ y ∈ M, (0 ≤ y.i ∧ y.i < 256) ∧ y.t < 18446744073709551616
theorem g_place_self {L : List Rg} (h : AscG L) {k : Nat} (hk : k < L.length) : placeL (L.map reg) L[k].u L[k].d = k := by
  show List.findIdx _ _ = _
  rw [List.findIdx_eq (by simpa using hk)]
  refine ⟨?_, fun j hj => ?_⟩
  · have h0 := (cmpW_zero L[k].u L[k].d L[k].u L[k].d).2 ⟨rfl, rfl⟩
    simp only [List.getElem_map, reg, decide_eq_true_eq]
    omega
  · have hp := List.pairwise_iff_getElem.1 h j k (by omega) hk hj
    have hn := (cmpW_neg L[j].u L[j].d L[k].u L[k].d).2 hp
    simp only [List.getElem_map, reg, decide_eq_false_iff_not]
    omega
theorem g_found_self {L : List Rg} (h : AscG L) {k : Nat} (hk : k < L.length) : foundL (L.map reg) L[k].u L[k].d = true := by
  unfold foundL
  rw [g_place_self h hk, List.getElem?_eq_getElem (by simpa using hk)]
  simp only [List.getElem_map, reg, beq_iff_eq]
  exact (cmpW_zero _ _ _ _).2 ⟨rfl, rfl⟩
theorem g_asc_key {L : List Rg} (h : AscG L) {j k : Nat} (hj : j < L.length) (hk : k < L.length) (e : L[j].u = L[k].u ∧ L[j].d = L[k].d) : j = k := by
  have h1 := List.pairwise_iff_getElem.1 h
  rcases Nat.lt_trichotomy j k with c | c | c
  · have := h1 j k hj hk c; omega
  · exact c
  · have := h1 k j hk hj c; omega
theorem AscG.rise {L : List Rg} (h : AscG L) : Rise (L.map reg) := fun u d i j hi hj hlt => by
  have hj' : j < L.length := by simpa using hj
  have hp := List.pairwise_iff_getElem.1 h i j (by omega) hj' hi
  rw [cmpW_neg] at *
  simp only [List.getElem_map, reg] at *
  omega
theorem InvG.key_of {i : Nat} {L : List Rg} {M : List Ln} (h : InvG i L M) {j : Nat} (hj : j < M.length) : ∃ k, ∃ hk : k < L.length, entG L[k] = entK M[j] := by
  have : entK M[j] ∈ L.map entG := h.perm.mem_iff.2 (List.mem_map.2 ⟨_, List.getElem_mem hj, rfl⟩)
  obtain ⟨r, hr, e⟩ := List.mem_map.1 this
  obtain ⟨k, hk, rfl⟩ := List.mem_iff_getElem.1 hr
  exact ⟨k, hk, e⟩
theorem InvG.line_of {i : Nat} {L : List Rg} {M : List Ln} (h : InvG i L M) {k : Nat} (hk : k < L.length) : ∃ j, ∃ hj : j < M.length, entG L[k] = entK M[j] := by
  have : entG L[k] ∈ M.map entK := h.perm.mem_iff.1 (List.mem_map.2 ⟨_, List.getElem_mem hk, rfl⟩)
  obtain ⟨y, hy, e⟩ := List.mem_map.1 this
  obtain ⟨j, hj, rfl⟩ := List.mem_iff_getElem.1 hy
  exact ⟨j, hj, e.symm⟩
theorem InvG.same {i : Nat} {L : List Rg} {M : List Ln} (h : InvG i L M) {k j : Nat} (hk : k < L.length) (hj : j < M.length) (e : M[j].u = L[k].u ∧ M[j].d = L[k].d) : entG L[k] = entK M[j] := by
  obtain ⟨k', hk', e'⟩ := h.key_of hj
  have e1 : L[k'].u = M[j].u := congrArg EnK.u e'
  have e2 : L[k'].d = M[j].d := congrArg EnK.d e'
  obtain rfl := g_asc_key h.asc hk' hk ⟨by omega, by omega⟩
  exact e'
theorem InvG.mlen {i : Nat} {L : List Rg} {M : List Ln} (h : InvG i L M) : M.length = L.length := by
  simpa using h.perm.length_eq.symm
theorem g_hit_end {i : Nat} {L : List Rg} {M : List Ln} (h : InvG i L M) {k : Nat} (hk : k < L.length) : hitB M L[k].u L[k].d M.length = true := by
  obtain ⟨j, hj, e⟩ := h.line_of hk
  have e1 : L[k].u = M[j].u := congrArg EnK.u e
  have e2 : L[k].d = M[j].d := congrArg EnK.d e
  unfold hitB
  rw [List.take_length, List.any_eq_true]
  exact ⟨M[j], List.getElem_mem hj, by simp [e1, e2]⟩
theorem g_cnt_end {i : Nat} {L : List Rg} {M : List Ln} (h : InvG i L M) (u : Int) : cntM M u M.length = (lstL (L.map reg) u).length := by
  unfold cntM lstL
  rw [List.take_length, List.length_map, List.filter_map, List.length_map]
  have hp := (h.perm.filter fun e => e.u == u && !e.st).length_eq
  rw [List.filter_map, List.filter_map, List.length_map, List.length_map] at hp
  exact hp.symm
theorem g_lst_at {L : List Rg} {u : Int} {k : Nat} (hk : k < (lstL (L.map reg) u).length) : ∃ m, ∃ hm : m < L.length, (lstL (L.map reg) u)[k] = (L[m].u, L[m].d) ∧ L[m].u = u ∧ L[m].st = false := by
  have hm := List.getElem_mem hk
  obtain ⟨r, hr, e⟩ := List.mem_map.1 hm
  obtain ⟨hr1, hr2⟩ := List.mem_filter.1 hr
  obtain ⟨q, hq, rfl⟩ := List.mem_map.1 hr1
  obtain ⟨m, hm, rfl⟩ := List.mem_iff_getElem.1 hq
  simp only [inL, reg, Bool.and_eq_true, beq_iff_eq, Bool.not_eq_true'] at hr2
  exact ⟨m, hm, e.symm, hr2.1, hr2.2⟩
theorem g_lst_asc {L : List Rg} (h : AscG L) {u : Int} {k : Nat} (hk : k + 1 < (lstL (L.map reg) u).length) : (lstL (L.map reg) u)[k].1 < (lstL (L.map reg) u)[k + 1].1 ∨ (lstL (L.map reg) u)[k].1 = (lstL (L.map reg) u)[k + 1].1 ∧ (lstL (L.map reg) u)[k].2 < (lstL (L.map reg) u)[k + 1].2 := by
  have h1 : (L.map reg).Pairwise fun a b => a.u < b.u ∨ a.u = b.u ∧ a.d < b.d := List.pairwise_map.2 h
  have h2 : (lstL (L.map reg) u).Pairwise fun a b => a.1 < b.1 ∨ a.1 = b.1 ∧ a.2 < b.2 := List.pairwise_map.2 (h1.sublist List.filter_sublist)
  exact List.pairwise_iff_getElem.1 h2 k (k + 1) (by omega) hk (by omega)
theorem g_got_re {L : List Rg} {u d : Int} {k : Nat} (hk : k < L.length) (hp : placeL (L.map reg) u d = k) (hf : foundL (L.map reg) u d = true) : gotL (L.map reg) u d = .agg (rc (reg L[k])).toArray := by
  unfold gotL
  rw [if_pos hf, hp, List.getElem?_eq_getElem (by simpa using hk)]
  simp only [List.getElem_map]
  rfl
end Go.Proofs.Ytdlbkdnpbcpjfaa
