/- append(p, make([]byte, k)...) onto a row of the call's own. No program. -/
import Derived.Test.YtemmdhfmdgpfmaaSep
import Derived.Lib.AppendZerosOnto
import Derived.Laws.OwnMore
namespace Go.Pw
open Go.RowKit
set_option linter.unusedVariables false

theorem zeroCells_one (z : Value) (k : Nat) : (Builtin.zeroCells #[z] k).toList = List.replicate k z := by
  apply List.ext_getElem?
  intro j
  by_cases hj : j < k
  · simp [Builtin.zeroCells, hj, Nat.mod_one]
  · simp [Builtin.zeroCells, hj]

theorem run_append_zeros {P : Program} (w : World) (t tn ty e : TypeId) (i : TypeInfo) (z : Value) (kn : IntKind) (ht : P.underlying t = some (.slice e)) (htn : P.underlying tn = some (.int kn)) (hi : P.info? e = some i) (hz : i.zero = some z)
    (hsize : i.size = 1) (hby : i.bytes = 1) (hzc : z.cells = #[z]) (h1 : z.oneCell' = true)
    (v : Value) (n : Nat) (xs : List Value) (hown : w.ownsRow 0 e 1 v n xs) (k : Nat) (hl : n + k ≤ 1000000000) :
    ∃ v' w', (Builtin.append_ #[t, tn] ty #[v, .int .i64 (k : Int)]).run P w = .ok v' w' ∧ w'.ownsRow 0 e 1 v' (n + k) (xs ++ List.replicate k z) ∧ w.grownBy w' v.ownBlock ∧ SoN w v v' := by
  have hxl : xs.length = n := by simpa using hown.1
  have hlen : (xs ++ List.replicate k z).length = (n + k) * 1 := by simp [hxl]
  have hwk : IntKind.i64.wrap (k : Int) = k := by rw [IntKind.wrap_i64]; omega
  have hneg : ¬ ((k : Int) < 0) := by omega
  have h48 : ¬ (281474976710656 < (k : Int)) := by omega
  by_cases hk0 : k = 0
  · subst hk0
    have hw0 : IntKind.i64.wrap (0 : Int) = 0 := by decide
    rcases hown.2 with ⟨rfl, rfl⟩ | ⟨g, cap, cur, rfl, hbg, hg, hnc, hcm, hcs, htake⟩
    · refine ⟨.slice none 0 0, w, ?_, by simpa using hown, ⟨rfl, rfl, rfl, Nat.le_refl _, fun _ _ _ => rfl⟩, SoN.refl _ _⟩
      simp [Builtin.append_, run_underlying ht, run_underlying htn, sizeOf, typeInfo, hi, hsize, hby, asInt, asIntOf, hw0]
    · refine ⟨.slice (some ⟨g, 0, none⟩) n cap, w, ?_, by simpa using hown, ⟨rfl, rfl, rfl, Nat.le_refl _, fun _ _ _ => rfl⟩, SoN.refl _ _⟩
      simp [Builtin.append_, run_underlying ht, run_underlying htn, sizeOf, typeInfo, hi, hsize, hby, asInt, asIntOf, hw0, hnc, storeCells]
  · have hfresh : ∀ (old : Nat), old < n + k → ∀ (row : Option Nat),
        (w.drew.alloc (.cells (xs.toArray ++ Builtin.zeroCells z.cells k ++ Builtin.zeroCells z.cells (grownCap w (n + k) old e - (n + k))) e)).ownsRow 0 e 1
          (.slice (some ⟨w.heap.size, 0, none⟩) (n + k) (grownCap w (n + k) old e)) (n + k) (xs ++ List.replicate k z) ∧
        w.grownBy (w.drew.alloc (.cells (xs.toArray ++ Builtin.zeroCells z.cells k ++ Builtin.zeroCells z.cells (grownCap w (n + k) old e - (n + k))) e)) row := by
      intro old ho row
      have hge := grownCap_ge w (n + k) old e
      have hcm : grownCap w (n + k) old e ≤ maxLen := grownCap_le_maxLen w (n + k) old e (by unfold maxLen; omega)
      refine ⟨⟨hlen, .inr ⟨w.heap.size, _, _, rfl, Nat.zero_le _, heap_alloc_new w.drew _, hge, hcm, ?_, ?_⟩⟩, ⟨rfl, rfl, rfl, by simp, fun k hk _ => Below.heap_alloc w.drew _ k hk⟩⟩
      · simp only [Array.size_append, List.size_toArray, size_zeroCells, hzc, hxl]
        simp
        omega
      · rw [hzc, Array.toList_append, Array.toList_append, zeroCells_one, ← hlen]
        exact List.take_left
    rcases hown.2 with ⟨rfl, rfl⟩ | ⟨g, cap, cur, rfl, hbg, hg, hnc, hcm, hcs, htake⟩
    · have hx : xs = [] := List.eq_nil_of_length_eq_zero hxl
      subst hx
      have hr := Lib.run_append_nil_zeros (P := P) w t tn ty e i z .i64 kn ht htn hi hz k (by omega) (by omega) (by omega) (by rw [hby]; omega)
      have hgr := hfresh 0 (by omega) (Value.ownBlock (.slice none 0 0))
      simp only [Nat.zero_add, List.nil_append, Array.empty_append] at hgr ⊢
      exact ⟨_, _, hr, hgr.1, hgr.2, fun k hk => .inr (by simp [Value.ownBlock] at hk; omega)⟩
    · by_cases hroom : n + k ≤ cap
      · have hcs' : cur.size = cap := by simpa using hcs
        have hst := run_storeCells_at P g n e (List.replicate k z) 0 cur w hg (by simp; omega) (fun u hu => by rw [List.eq_of_mem_replicate hu]; exact h1)
        simp only [Nat.add_zero] at hst
        refine ⟨.slice (some ⟨g, 0, none⟩) (n + k) cap, _, ?_, ⟨hlen, .inr ⟨g, cap, _, rfl, hbg, setRow_heap w g cur (cur.toList.take n ++ List.replicate k z ++ cur.toList.drop (n + (List.replicate k z).length)).toArray e _ hg, hroom, hcm, ?_, ?_⟩⟩, ⟨rfl, rfl, rfl, by simp, fun k _ hk => setRow_other w g k _ (fun e => hk (by simp [Value.ownBlock, e]))⟩, fun k hk => .inl hk⟩
        · simp [Builtin.append_, run_underlying ht, run_underlying htn, sizeOf, typeInfo, zeroValue, hi, hz, hsize, hby, asInt, asIntOf, hwk, hneg, h48, hk0, hroom, hzc, zeroCells_one, Addr.add_lit, hst]
        · simp; omega
        · have ht' : cur.toList.take n = xs := by simpa using htake
          rw [← hlen, ht']
          exact List.take_left
      · have holds : ∀ j u, xs[j]? = some u → w.cell? ((⟨g, 0, none⟩ : Addr).add j) = some u := hown.cells (g := g) rfl
        have hf := run_firstCells_some (P := P) w.drew i.size n ⟨g, 0, none⟩ n cap xs (by rw [hsize]; simpa using hown.1) (by simpa using holds)
        have hr := Lib.run_append_grow_zeros (P := P) w t tn ty e i z .i64 kn ht htn hi hz (some ⟨g, 0, none⟩) n cap xs hf k (by omega) (by omega) (by omega) (by omega) (by rw [hby]; omega) (growslice_fits (by omega) (by rw [hby]; omega))
        have hgr := hfresh cap (by omega) (Value.ownBlock (.slice (some ⟨g, 0, none⟩) n cap))
        exact ⟨_, _, hr, hgr.1, hgr.2, fun k hk => .inr (by simp [Value.ownBlock] at hk; omega)⟩
end Go.Pw
