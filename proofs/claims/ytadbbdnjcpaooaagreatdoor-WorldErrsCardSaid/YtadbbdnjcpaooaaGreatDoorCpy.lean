/- copy() between rows of elements of k cells; a row's spare room; what an insertion leaves. No program. -/
import Derived.Test.YtadbbdnjcpaooaaGreatDoorRec
import Derived.Laws.IdiomCopy
import Derived.Lib.Overlaps
import Derived.Lib.AppendZerosOnto
set_option linter.all false
namespace Go.Pw
open Go.RowKit
set_option linter.unusedVariables false

theorem run_copy_k {P : Program} (w : World) (dT sT ty elem : TypeId) (k : Nat) (b o dLen dCap : Nat) (a : Addr) (sLen sCap : Nat) (cs : List Value) (m : Nat)
    (hu : P.underlying dT = some (.slice elem)) (hs : (P.info? elem).map (·.size) = some k) (hm : Nat.min sLen dLen = m) (hn : cs.length = m * k)
    (hsrc : ∀ j v, cs[j]? = some v → w.cell? (a.add j) = some v) (hc : ∀ j, j < cs.length → (w.cell? ⟨b, o + j, none⟩).isSome = true) (hf : ∀ j, j < cs.length → w.frozen? ⟨b, o + j, none⟩ = false) (h1 : ∀ v ∈ cs, v.oneCell' = true) :
    (Builtin.copy_ #[dT, sT] ty #[.slice (some ⟨b, o, none⟩) dLen dCap, .slice (some a) sLen sCap]).run P w = .ok (goInt m) (w.setCells b o cs) := by
  have hl := run_loadCells_list (P := P) w a cs hsrc
  have hst := run_storeCells_cells (P := P) b o cs 0 w (by simpa using hc) (by simpa using hf) h1
  cases hq : P.info? elem with
  | none => simp [hq] at hs
  | some i =>
    have hi : i.size = k := by simpa [hq] using hs
    simp [Builtin.copy_, run_underlying hu, Builtin.lenOf, Builtin.firstCells, sizeOf, typeInfo, hq, hi, hm, ← hn, hl, hst]

theorem wp_copy_k {P : Program} (w : World) {o : Oper} {a : Act} {K : Act → World → Prop} {Q : Exit → Act → World → Prop} (d s : Operand) (t t' : TypeId)
    (ho : o.op = .call { callee := .builtin .copy, args := #[d, s], argTypes := #[t, t'] }) (v u : Value) (hd : a.eval d = v) (hs : a.eval s = u) {v' : Value} {w' : World}
    (hr : (Builtin.copy_ #[t, t'] o.type #[v, u]).run P w = .ok v' w') (h : K (a.put o.dst v') w') : o.wp P a w K Q := by
  unfold Oper.wp execOp
  simp only [ho, resolve, invoke, builtin, Sem.run_bind, Sem.run_pure, Result.andThen_ok, List.map_toArray, List.map_cons, List.map_nil, hd, hs, hr]
  exact h
theorem wpList_copy_k {P : Program} (w : World) {ops : Array Oper} {rest : List Oper} {o : Oper} {a : Act} {Q : Exit → Act → World → Prop} (hgd : o.guard = none) (d s : Operand) (t t' : TypeId)
    (ho : o.op = .call { callee := .builtin .copy, args := #[d, s], argTypes := #[t, t'] }) (v u : Value) (hd : a.eval d = v) (hs : a.eval s = u) {v' : Value} {w' : World}
    (hr : (Builtin.copy_ #[t, t'] o.type #[v, u]).run P w = .ok v' w') (h : wpList P ops Q rest (a.put o.dst v') w') : wpList P ops Q (o :: rest) a w :=
  wpList_plain hgd fun _ hK => wp_copy_k w d s t t' ho v u hd hs hr (hK _ _ h)
theorem step_copy_k {P : Program} {ops : Array Oper} {o : Oper} {a : Act} {w : World} {K : Act → World → Prop} {Q : Exit → Act → World → Prop} {E : Prop}
    (hg : o.guard = none) (d x : Operand) (dT sT : TypeId) (hop : o.op = Op.call { callee := Callee.builtin Builtin.copy, args := #[d, x], argTypes := #[dT, sT] })
    (v u : Value) (hd : a.eval d = v) (hx : a.eval x = u) {v' : Value} {w' : World} (hr : (Builtin.copy_ #[dT, sT] o.type #[v, u]).run P w = .ok v' w') (hK : K (a.put o.dst v') w') :
    if Region.wanted o (yielded ops a.tmps) = true then Oper.wp P o a w K Q else E := by
  have hw : Region.wanted o (yielded ops a.tmps) = true := by simp [Region.wanted, hg]
  rw [if_pos hw]
  unfold Oper.wp
  simp [execOp, hop, resolve, invoke, builtin, hd, hx, hr, Result.andThen]
  exact hK

theorem wpList_append_run2 {P : Program} {w : World} {ops : Array Oper} {rest : List Oper} {o : Oper} {a : Act} {Q : Exit → Act → World → Prop} (hgd : o.guard = none) (s x : Operand) (t t' : TypeId)
    (ho : o.op = .call { callee := .builtin .append, args := #[s, x], argTypes := #[t, t'] }) (v xv : Value) (hs : a.eval s = v) (hx : a.eval x = xv) {v' : Value} {w' : World}
    (hrun : (Builtin.append_ #[t, t'] o.type #[v, xv]).run P w = .ok v' w') (h : wpList P ops Q rest (a.put o.dst v') w') : wpList P ops Q (o :: rest) a w :=
  wpList_plain hgd fun _ hK => by
    unfold Oper.wp
    simp [execOp, ho, resolve, invoke, builtin, hs, hx, hrun, Result.andThen]
    exact hK _ _ h

/-- A row with its spare room. -/
theorem row_more {w : World} {e size n cap g : Nat} {xs : List Value} (h : w.ownsRow 0 e size (.slice (some ⟨g, 0, none⟩) n cap) n xs) (m : Nat) (hm : n + m ≤ cap) : ∃ junk, junk.length = m * size ∧ w.ownsRow 0 e size (.slice (some ⟨g, 0, none⟩) (n + m) cap) (n + m) (xs ++ junk) := by
  rcases h.2 with ⟨h', _⟩ | ⟨g', cap', cur, h', hb, hg, hnc, hcm, hcs, htake⟩
  · simp at h'
  · simp only [Value.slice.injEq, Option.some.injEq, Addr.mk.injEq, and_true, true_and] at h'
    obtain ⟨rfl, rfl⟩ := h'
    have hle : n * size + m * size ≤ cap * size := by rw [← Nat.add_mul]; exact Nat.mul_le_mul_right _ hm
    have hjl : ((cur.toList.drop (n * size)).take (m * size)).length = m * size := by
      rw [List.length_take, List.length_drop, Array.length_toList, hcs]; omega
    refine ⟨(cur.toList.drop (n * size)).take (m * size), hjl, by rw [List.length_append, h.1, hjl, Nat.add_mul], .inr ⟨g, cap, cur, rfl, hb, hg, hm, hcm, hcs, ?_⟩⟩
    rw [Nat.add_mul, List.take_add, htake]
theorem row_cap {w : World} {e size n cap g : Nat} {xs : List Value} (h : w.ownsRow 0 e size (.slice (some ⟨g, 0, none⟩) n cap) n xs) : n ≤ cap ∧ cap ≤ maxLen := by
  rcases h.2 with ⟨h', _⟩ | ⟨g', cap', cur, h', hb, hg, hnc, hcm, hcs, htake⟩
  · simp at h'
  · simp only [Value.slice.injEq, Option.some.injEq, Addr.mk.injEq, and_true, true_and] at h'
    obtain ⟨rfl, rfl⟩ := h'
    exact ⟨hnc, hcm⟩
theorem row_shape {w : World} {e size n cap g : Nat} {xs : List Value} (h : w.ownsRow 0 e size (.slice (some ⟨g, 0, none⟩) n cap) n xs) (hc : 0 < cap) (hs : 0 < size) : ∃ t k, w.shape? g = some (t, k) ∧ k ≠ 0 := by
  rcases h.2 with ⟨h', _⟩ | ⟨g', cap', cur, h', hb, hg, hnc, hcm, hcs, htake⟩
  · simp at h'
  · simp only [Value.slice.injEq, Option.some.injEq, Addr.mk.injEq, and_true, true_and] at h'
    obtain ⟨rfl, rfl⟩ := h'
    refine ⟨e, cur.size, by simp [World.shape?, hg], ?_⟩
    rw [hcs]
    exact Nat.mul_ne_zero (by omega) (by omega)
theorem cells_shape {w : World} {b : Nat} {cs : Array Value} {t : TypeId} {fr : Nat × Nat} (h : w.heap[b]? = some (.cells cs t fr)) : w.shape? b = some (t, cs.size) := by simp [World.shape?, h]

/-- What an insertion leaves. -/
theorem setL_ins (L A B vs : List Value) (i k : Nat) (hk : vs.length = k) (hi : A.length = i * k) (hL : L.length = i * k + k + B.length) (hA : L.take (i * k) = A) :
    setL (setL L (i * k) vs) ((i + 1) * k) B = A ++ vs ++ B ∧ setL (setL L ((i + 1) * k) B) (i * k) vs = A ++ vs ++ B := by
  obtain ⟨H, T, hH, hT, rfl⟩ : ∃ H T, H.length = k ∧ T.length = B.length ∧ L = A ++ H ++ T := by
    refine ⟨(L.drop (i * k)).take k, (L.drop (i * k)).drop k, ?_, ?_, ?_⟩
    · rw [List.length_take, List.length_drop]; omega
    · rw [List.length_drop, List.length_drop]; omega
    · rw [List.append_assoc, List.take_append_drop, ← hA, List.take_append_drop]
  have e1 := setL_app H A vs T (by rw [hH, hk])
  have e2 := setL_app T (A ++ vs) B [] (by rw [hT])
  have e3 := setL_app T (A ++ H) B [] (by rw [hT])
  have e4 := setL_app H A vs B (by rw [hH, hk])
  rw [hi] at e1 e4
  rw [List.length_append, hi, hk, show i * k + k = (i + 1) * k by rw [Nat.add_mul]; omega] at e2
  rw [List.length_append, hi, hH, show i * k + k = (i + 1) * k by rw [Nat.add_mul]; omega] at e3
  simp only [List.append_nil] at e2 e3
  exact ⟨by rw [e1, e2], by rw [e3, e4]⟩
theorem only_setCells2 {w : World} {g o o' : Nat} {vs vs' : List Value} : Only w ((w.drew.setCells g o vs).setCells g o' vs') [g] :=
  ((Only.drew _ _).trans (only_setCells _ _ _)).trans (only_setCells _ _ _)
end Go.Pw
