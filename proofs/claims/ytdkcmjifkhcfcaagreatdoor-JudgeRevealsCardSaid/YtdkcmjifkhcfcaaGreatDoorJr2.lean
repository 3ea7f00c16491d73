/- Revealed of layer 26 (judge) at any marks, any place, any device. -/
import Derived.Test.YtdkcmjifkhcfcaaGreatDoorJr
set_option linter.all false
namespace Go.Proofs.YtdkcmjifkhcfcaaGreatDoor
open Go.RowKit Go.Pw
set_option linter.unusedVariables false
set_option linter.unusedSimpArgs false

theorem RdM.take {w : World} {ao : Option Addr} {c : Nat} {l : List Mk} (h : RdM w (.slice ao l.length c) l) {m : Nat} (hm : m ≤ l.length) : RdM w (.slice ao m c) (l.take m) := by
  obtain ⟨ao', c', he, h1, h2, h3, h4, h5⟩ := h
  simp only [Value.slice.injEq] at he
  obtain ⟨rfl, _, rfl⟩ := he
  have hl : (l.take m).length = m := by simp; omega
  have hf : fl mc (l.take m) = (fl mc l).take (m * 9) := by
    apply List.ext_getElem?
    intro j
    by_cases hj : j < m * 9
    · have hi : j / 9 < m := by omega
      have ej : j = j / 9 * 9 + j % 9 := by omega
      rw [List.getElem?_take, if_pos hj]
      rw [ej, fl_at mc_len (by omega) (Nat.mod_lt _ (by decide)), fl_at mc_len (by omega) (Nat.mod_lt _ (by decide))]
      simp
    · have e1 : (fl mc (l.take m)).length = m * 9 := by rw [fl_len mc_len, hl]
      rw [List.getElem?_eq_none (by omega), List.getElem?_take, if_neg hj]
  show Pw.Src w (.slice ao m c) 9 (l.take m).length (fl mc (l.take m))
  rw [hl]
  refine ⟨ao, c, rfl, by omega, h2, by rw [hf, List.length_take, h3]; omega, fun hn => ?_, fun b hb j u hj => ?_⟩
  · have := h4 hn
    refine ⟨by omega, this.2⟩
  · rw [hf, List.getElem?_take] at hj
    split at hj
    · exact h5 b hb j u hj
    · cases hj

/-- How many marks lie ahead of the place. -/
def cutM (at_ : Int) (n : Nat) : Nat := (min (max at_ 0) n).toNat

set_option maxRecDepth 100000 in
theorem revealed_any (pl u d : Int) (v : Value) (l : List Mk) (w : World) (h : RdM w v l) (hl : l.length ≤ 1000000) :
    Calls Tryz.prog 22 #[v, .int .i64 pl, .agg #[.int .i64 u, .int .i64 d]] w fun e w' => e = .returned (.bool ((l.take (cutM pl l.length)).any (revM u d))) ∧ Only w w' [] := by
  obtain ⟨ao, c, rfl⟩ := h.slice
  have hc : l.length ≤ c ∧ c ≤ maxLen := by
    obtain ⟨ao', c', he, h1, h2, _⟩ := h
    simp only [Value.slice.injEq] at he
    obtain ⟨rfl, _, rfl⟩ := he
    exact ⟨h1, h2⟩
  have hcut : cutM pl l.length ≤ l.length := by unfold cutM; omega
  have HT := h.take hcut
  have HC := fun (A : Nat) (w' : World) (hX : w'.heap[A]? = some (.cells #[.int .i64 u, .int .i64 d] 52 (0, 0))) (ho : Only w w' []) => mcontains A (revM u d) _ _ w' (HT.off ho) (by simp; omega) (closM A u d w' hX)
  unfold cutM at HC ⊢
  clear h HT hcut
  have hlen : l.length ≤ c := hc.1
  go_enter Tryz.func22, Tryz.ntmps22
  go_wp2_with (refine wpList_box_new rfl 52 _ rfl (.agg #[.int .i64 u, .int .i64 d]) rfl ?_; intro X wX oX hXl hX; have HCX := HC X wX hX oX)
  refine HCX.mono ?_
  rintro e w1 ⟨rfl, o1⟩
  go_wp2_with fail
  go_ret
  exact ⟨rfl, oX.trans o1⟩

/-- The first k marks, and one more. -/
theorem any_succ (pd : Mk → Bool) (l : List Mk) (k : Nat) (h : k < l.length) : (l.take (k + 1)).any pd = ((l.take k).any pd || pd l[k]) := by
  rw [List.take_add_one, List.getElem?_eq_getElem h, List.any_append]
  simp

end Go.Proofs.YtdkcmjifkhcfcaaGreatDoor
