/- Plain laws of layer 17's lines (registry): strictly rising lines, who is found, who is listed, what an added and a removed device turn. No walk. -/
import Derived.Test.YteljkfihmbddaaaRg8
namespace Go.Proofs.Yteljkfihmbddaaa
open Go.RowKit Go.Pw
set_option linter.unusedVariables false

theorem cmpW_zero (u d u' d' : Int) : (cmpW u d u' d' = 0) ↔ (u = u' ∧ d = d') := by
  simp only [cmpW, orL, cmpI]
  repeat' split
  all_goals simp_all
  all_goals omega

def Strict (l : List Li) : Prop := ∀ (i j : Nat) (hi : i < j) (hj : j < l.length), cmpW (l[i]'(by omega)).u (l[i]'(by omega)).d l[j].u l[j].d < 0
theorem Strict.rise {l : List Li} (h : Strict l) : Rise l := fun u d i j hi hj hlt => by
  have := h i j hi hj
  rw [cmpW_neg] at *
  omega
theorem strict_nil : Strict [] := fun i j hi hj => by simp at hj
theorem place_self {l : List Li} (h : Strict l) {i : Nat} (hi : i < l.length) : placeL l l[i].u l[i].d = i := by
  show List.findIdx _ _ = _
  rw [List.findIdx_eq hi]
  refine ⟨by simp [cmpW_self], fun j hj => ?_⟩
  have := h j i hj hi
  simp only [decide_eq_false_iff_not]
  omega
theorem found_self {l : List Li} (h : Strict l) {i : Nat} (hi : i < l.length) : foundL l l[i].u l[i].d = true := by
  unfold foundL
  rw [place_self h hi, List.getElem?_eq_getElem hi]
  simp [cmpW_self]
theorem isL_self {l : List Li} (h : Strict l) {i : Nat} (hi : i < l.length) : isL l l[i].u l[i].d = l[i].on := by
  unfold isL
  rw [found_self h hi, place_self h hi, List.getElem?_eq_getElem hi]
  rfl
theorem found_key {l : List Li} {u d : Int} (h : foundL l u d = true) : ∃ x ∈ l, x.u = u ∧ x.d = d := by
  obtain ⟨hk, h0⟩ := found_at h
  exact ⟨_, List.getElem_mem hk, (cmpW_zero _ _ _ _).1 h0⟩
theorem not_found {l : List Li} {u d : Int} (h : ∀ x ∈ l, ¬ (x.u = u ∧ x.d = d)) : foundL l u d = false := by
  cases hf : foundL l u d with
  | false => rfl
  | true =>
    obtain ⟨x, hx, hk⟩ := found_key hf
    exact absurd hk (h x hx)

def key (x : Li) : Int × Int := (x.u, x.d)
theorem listL_eq {l : List Li} (h : Strict l) (user : Int) : listL l user = (l.filter fun x => x.u == user && x.on).map key := by
  show ((l.map key).filter _) = _
  rw [List.filter_map]
  congr 1
  apply List.filter_congr
  intro x hx
  obtain ⟨i, hi, rfl⟩ := List.mem_iff_getElem.1 hx
  show (l[i].u == user && isL l l[i].u l[i].d) = _
  rw [isL_self h hi]
theorem cntL_eq (l : List Li) (user : Int) : cntL l user = (l.filter fun x => x.u == user).length := by
  show ((l.map key).filter _).length = _
  rw [List.filter_map, List.length_map]
  rfl

theorem strict_set {l : List Li} (h : Strict l) {k : Nat} (hk : k < l.length) {x : Li} (hu : x.u = l[k].u) (hd : x.d = l[k].d) : Strict (l.set k x) := fun i j hi hj => by
  rw [List.length_set] at hj
  have h0 := h i j hi hj
  rw [List.getElem_set, List.getElem_set]
  split
  · rename_i e
    subst e
    rw [if_neg (by omega), hu, hd]
    exact h0
  · split
    · rename_i e
      subst e
      rw [hu, hd]
      exact h0
    · exact h0
theorem strict_ins {l : List Li} (h : Strict l) {x : Li} (hn : ∀ y ∈ l, ¬ (y.u = x.u ∧ y.d = x.d)) : Strict (insL l x) := fun i j hi hj => by
  have hr := h.rise
  have hi' : i < (insL l x).length := by omega
  rcases insL_at l x j hj with ⟨h1, hj1, e1⟩ | ⟨h1, e1⟩ | ⟨h1, hj1, e1⟩
  · rcases insL_at l x i hi' with ⟨h2, hi2, e2⟩ | ⟨h2, e2⟩ | ⟨h2, hi2, e2⟩
    · rw [e1, e2]; exact h i j hi hj1
    · omega
    · omega
  · rcases insL_at l x i hi' with ⟨h2, hi2, e2⟩ | ⟨h2, e2⟩ | ⟨h2, hi2, e2⟩
    · rw [e1, e2]
      obtain ⟨_, h3⟩ := place_lt h2
      exact h3
    · omega
    · omega
  · rcases insL_at l x i hi' with ⟨h2, hi2, e2⟩ | ⟨h2, e2⟩ | ⟨h2, hi2, e2⟩
    · rw [e1, e2]; exact h i (j - 1) (by omega) hj1
    · rw [e1, e2]
      have h3 := place_ge hr (u := x.u) (d := x.d) (i := j - 1) (by omega) hj1
      have h4 := hn l[j - 1] (List.getElem_mem hj1)
      rw [cmpW_neg] at *
      omega
    · rw [e1, e2]; exact h (i - 1) (j - 1) (by omega) hj1
theorem insL_set (l : List Li) (x x' : Li) : (insL l x).set (placeL l x.u x.d) x' = l.take (placeL l x.u x.d) ++ x' :: l.drop (placeL l x.u x.d) := by
  have hp := place_le l x.u x.d
  have htl : (l.take (placeL l x.u x.d)).length = placeL l x.u x.d := by rw [List.length_take]; omega
  unfold insL
  rw [List.set_append_right _ _ (by omega), htl, Nat.sub_self, List.set_cons_zero]
theorem filter_put (p : Li → Bool) (l : List Li) (k : Nat) (x : Li) : ((l.take k ++ x :: l.drop k).filter p).length = (l.filter p).length + (if p x = true then 1 else 0) := by
  conv => rhs; rw [← List.take_append_drop k l]
  rw [List.filter_append, List.filter_append, List.length_append, List.length_append, List.filter_cons]
  split <;> simp <;> omega
theorem filter_set (p : Li → Bool) {l : List Li} {k : Nat} (hk : k < l.length) (x : Li) : ((l.set k x).filter p).length + (if p l[k] = true then 1 else 0) = (l.filter p).length + (if p x = true then 1 else 0) := by
  have e : l = l.take k ++ l[k] :: l.drop (k + 1) := by
    conv => lhs; rw [← List.take_append_drop k l, List.drop_eq_getElem_cons hk]
  have e2 : l.set k x = l.take k ++ x :: l.drop (k + 1) := by rw [List.set_eq_take_append_cons_drop, if_pos hk]
  rw [e2]
  conv => rhs; rw [e]
  simp only [List.filter_append, List.length_append, List.filter_cons]
  split <;> split <;> simp <;> omega
theorem mem_put {l : List Li} {k : Nat} {x y : Li} : y ∈ l.take k ++ x :: l.drop k ↔ y = x ∨ y ∈ l := by
  conv => rhs; rw [← List.take_append_drop k l]
  simp only [List.mem_append, List.mem_cons]
  constructor
  · rintro (h | h | h)
    · exact .inr (.inl h)
    · exact .inl h
    · exact .inr (.inr h)
  · rintro (h | h | h)
    · exact .inr (.inl h)
    · exact .inl h
    · exact .inr (.inr h)
end Go.Proofs.Yteljkfihmbddaaa
