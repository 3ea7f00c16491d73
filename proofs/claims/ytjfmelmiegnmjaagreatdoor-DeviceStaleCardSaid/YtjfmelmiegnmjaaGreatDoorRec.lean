/- Rows of records of so many cells each: reading one, writing one, clearing some, cutting. No program. -/
import Derived.Test.YtjfmelmiegnmjaaGreatDoorSep
import Derived.Deep.MidRow
import Derived.Laws.OwnMore
namespace Go.Pw
open Go.RowKit
set_option linter.all false

section
variable {α : Type} {enc : α → List Value} {k : Nat}

def fl (enc : α → List Value) (l : List α) : List Value := l.flatMap enc

theorem fl_nil : fl enc [] = [] := rfl
theorem fl_cons (x : α) (l : List α) : fl enc (x :: l) = enc x ++ fl enc l := rfl
theorem fl_app (l m : List α) : fl enc (l ++ m) = fl enc l ++ fl enc m := by simp [fl]
theorem fl_snoc (l : List α) (x : α) : fl enc (l ++ [x]) = fl enc l ++ enc x := by simp [fl]
theorem fl_len (hk : ∀ x, (enc x).length = k) (l : List α) : (fl enc l).length = l.length * k := by
  induction l with
  | nil => simp [fl]
  | cons x l ih => rw [fl_cons, List.length_append, ih, hk, List.length_cons, Nat.add_mul]; omega
theorem fl_drop (hk : ∀ x, (enc x).length = k) (l : List α) : ∀ i, (fl enc l).drop (i * k) = fl enc (l.drop i) := by
  induction l with
  | nil => intro i; simp [fl]
  | cons x l ih =>
    intro i
    cases i with
    | zero => simp
    | succ i =>
      rw [List.drop_succ_cons, ← ih i, fl_cons, Nat.add_mul, Nat.one_mul, Nat.add_comm (i * k) k, ← List.drop_drop, List.drop_append_of_le_length (l₁ := enc x) (by rw [hk]; exact Nat.le_refl _), List.drop_of_length_le (l := enc x) (by rw [hk]; exact Nat.le_refl _), List.nil_append]
theorem fl_take (hk : ∀ x, (enc x).length = k) (l : List α) : ∀ i, (fl enc l).take (i * k) = fl enc (l.take i) := by
  induction l with
  | nil => intro i; simp [fl]
  | cons x l ih =>
    intro i
    cases i with
    | zero => simp [fl]
    | succ i =>
      rw [List.take_succ_cons, fl_cons, fl_cons, ← ih i, Nat.add_mul, Nat.one_mul, Nat.add_comm (i * k) k]
      have := List.take_length_add_append (l₁ := enc x) (l₂ := fl enc l) (i := i * k)
      rwa [hk] at this
theorem fl_at (hk : ∀ x, (enc x).length = k) {l : List α} {i j : Nat} (hi : i < l.length) (hj : j < k) : (fl enc l)[i * k + j]? = (enc l[i])[j]? := by
  have h := fl_drop hk l i
  rw [List.drop_eq_getElem_cons hi, fl_cons] at h
  have := congrArg (fun x => x[j]?) h
  simp only [List.getElem?_drop] at this
  rw [this, List.getElem?_append_left (by rw [hk]; exact hj)]
theorem fl_one (h1 : ∀ x, ∀ u ∈ enc x, u.oneCell' = true) (l : List α) : ∀ u ∈ fl enc l, u.oneCell' = true := fun u hu => by
  obtain ⟨x, _, hx⟩ := List.mem_flatMap.1 hu
  exact h1 x u hx

/-- So many values from a place on are others. -/
def setL (xs : List Value) : Nat → List Value → List Value
  | _, [] => xs
  | o, v :: r => setL (xs.set o v) (o + 1) r
theorem setL_app (xs pre : List Value) : ∀ vs suf, vs.length = xs.length → setL (pre ++ xs ++ suf) pre.length vs = pre ++ vs ++ suf := by
  induction xs generalizing pre with
  | nil => intro vs suf h; obtain rfl : vs = [] := List.eq_nil_of_length_eq_zero (by simpa using h); simp [setL]
  | cons x xs ih =>
    intro vs suf h
    cases vs with
    | nil => simp at h
    | cons v r =>
      have := ih (pre ++ [v]) r suf (by simpa using h)
      simp only [setL]
      rw [show (pre ++ x :: xs ++ suf).set pre.length v = pre ++ [v] ++ xs ++ suf by simp [List.set_append]]
      rw [List.length_append, List.length_singleton] at this
      rw [this]
      simp
theorem fl_set (hk : ∀ x, (enc x).length = k) {l : List α} {i : Nat} (hi : i < l.length) (x : α) : setL (fl enc l) (i * k) (enc x) = fl enc (l.set i x) := by
  have e1 : fl enc l = fl enc (l.take i) ++ enc l[i] ++ fl enc (l.drop (i + 1)) := by
    conv => lhs; rw [← List.take_append_drop i l, List.drop_eq_getElem_cons hi]
    rw [fl_app, fl_cons, List.append_assoc]
  have e2 : fl enc (l.set i x) = fl enc (l.take i) ++ enc x ++ fl enc (l.drop (i + 1)) := by
    rw [List.set_eq_take_append_cons_drop, if_pos hi, fl_app, fl_cons, List.append_assoc]
  have e3 : i * k = (fl enc (l.take i)).length := by rw [fl_len hk, List.length_take, Nat.min_eq_left (by omega)]
  rw [e1, e2, e3]
  exact setL_app _ _ _ _ (by rw [hk, hk])
end

theorem setL_take : ∀ (vs xs : List Value) (o i : Nat), i ≤ o → (setL xs o vs).take i = xs.take i
  | [], _, _, _, _ => rfl
  | v :: r, xs, o, i, h => by
    rw [setL, setL_take r _ _ _ (by omega), List.take_set_of_le h]
theorem setL_length : ∀ (vs xs : List Value) (o : Nat), (setL xs o vs).length = xs.length
  | [], _, _ => rfl
  | v :: r, xs, o => by rw [setL, setL_length r, List.length_set]
theorem row_setCells {w : World} {e size g n cap : Nat} : ∀ (vs : List Value) (o : Nat) (w : World) (xs : List Value), w.ownsRow 0 e size (.slice (some ⟨g, 0, none⟩) n cap) n xs → (w.setCells g o vs).ownsRow 0 e size (.slice (some ⟨g, 0, none⟩) n cap) n (setL xs o vs)
  | [], _, _, _, h => h
  | v :: r, o, w, xs, h => row_setCells (w := w) r (o + 1) _ _ (h.stored o v).1
theorem only_setCells {g : Nat} : ∀ (vs : List Value) (o : Nat) (w : World), Only w (w.setCells g o vs) [g]
  | [], _, w => Only.refl _ _
  | v :: r, o, w => (Only.setCell w ⟨g, o, none⟩ v [g] (by simp)).trans (only_setCells r (o + 1) _)
/-- Cells of a row are written. -/
theorem Sep.puts {w0 w : World} {rs : List Res} {e size g n cap : Nat} {xs : List Value} (h : Sep w0 w (row e size (.slice (some ⟨g, 0, none⟩) n cap) n xs :: rs)) (o : Nat) (vs : List Value) : Sep w0 (w.setCells g o vs) (row e size (.slice (some ⟨g, 0, none⟩) n cap) n (setL xs o vs) :: rs) :=
  h.step (L := [g]) (only_setCells vs o w) (fun k hk => .inl (by simpa [row, Value.ownBlock] using hk)) (row_setCells (w := w) vs o w xs h.head) (fun k hk => .inl hk)
/-- The head of a row. -/
theorem row_head {w : World} {e size g n cap i : Nat} {xs : List Value} (h : w.ownsRow 0 e size (.slice (some ⟨g, 0, none⟩) n cap) n xs) (hi : i ≤ n) : w.ownsRow 0 e size (.slice (some ⟨g, 0, none⟩) i cap) i (xs.take (i * size)) := by
  have hle : i * size ≤ n * size := Nat.mul_le_mul_right _ hi
  rcases h.2 with ⟨h', _⟩ | ⟨g', cap', cur, h', hb, hg, hnc, hcm, hcs, htake⟩
  · simp at h'
  · simp only [Value.slice.injEq, Option.some.injEq, Addr.mk.injEq, and_true, true_and] at h'
    obtain ⟨rfl, rfl⟩ := h'
    refine ⟨by rw [List.length_take, h.1, Nat.min_eq_left hle], .inr ⟨g, cap, cur, rfl, hb, hg, by omega, hcm, hcs, ?_⟩⟩
    rw [← htake, List.take_take, Nat.min_eq_left hle]
/-- A row may be written. -/
theorem row_there {w : World} {e size g n cap : Nat} {xs : List Value} (h : w.ownsRow 0 e size (.slice (some ⟨g, 0, none⟩) n cap) n xs) (o m : Nat) (hm : o + m ≤ n * size) : w.there g o m := fun j hj => ⟨by
  rw [h.cellAt (o + j) (by omega), List.getElem?_eq_getElem (by rw [h.1]; omega)]; rfl, h.frozenAt _⟩
/-- A row may be read. -/
theorem row_range {w : World} {e size g n cap : Nat} {xs : List Value} (h : w.ownsRow 0 e size (.slice (some ⟨g, 0, none⟩) n cap) n xs) (o m : Nat) (vs : List Value) (hv : ∀ j, j < vs.length → xs[o + j]? = vs[j]?) (hm : o + vs.length ≤ n * size) : w.rangeAt g o vs := fun j v hj => by
  have hl := (List.getElem?_eq_some_iff.1 hj).1
  rw [h.cellAt (o + j) (by omega), hv j hl, hj]

/-- 'clear(s)', s a slice of n > 0 records. -/
theorem run_clear_recs {P : Program} (w : World) (t e ty : TypeId) (z : Value) (k : Nat) (ht : P.underlying t = some (.slice e)) (hv : ∀ w, (zeroValue e).run P w = .ok z w) (hz : z.cells.size = k) (h1 : ∀ u ∈ z.cells.toList, u.oneCell' = true) (b o n c : Nat) (hn : 0 < n) (hk : 0 < k)
    (hc : w.there b o (n * k)) :
    ∃ vs, vs.length = n * k ∧ (Builtin.clear_ #[t] ty #[.slice (some ⟨b, o, none⟩) n c]).run P w = .ok (.tuple #[]) (w.setCells b o vs) := by
  refine ⟨(Builtin.zeroCells z.cells n).toList, by rw [Array.length_toList, size_zeroCells, hz], ?_⟩
  have hone : ∀ u ∈ (Builtin.zeroCells z.cells n).toList, u.oneCell' = true := by
    intro u hu
    simp only [Builtin.zeroCells, Array.toList_map, Array.toList_range, List.mem_map, List.mem_range] at hu
    obtain ⟨i, hi, rfl⟩ := hu
    have hlt : i % z.cells.size < z.cells.size := Nat.mod_lt _ (by omega)
    rw [getElem!_pos z.cells _ hlt]
    exact h1 _ (by simp)
  have hl : (Builtin.zeroCells z.cells n).toList.length = n * k := by rw [Array.length_toList, size_zeroCells, hz]
  have hst := run_storeCells_cells (P := P) b o (Builtin.zeroCells z.cells n).toList 0 w (fun j hj => (hc j (by omega)).1) (fun j hj => (hc j (by omega)).2) hone
  simp only [Nat.add_zero] at hst
  obtain ⟨m, rfl⟩ : ∃ m, n = m + 1 := ⟨n - 1, by omega⟩
  simp [Builtin.clear_, run_underlying ht, hv, hst]
end Go.Pw
