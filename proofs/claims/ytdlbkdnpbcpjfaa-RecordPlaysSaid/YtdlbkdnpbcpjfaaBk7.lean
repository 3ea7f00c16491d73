/- bytes.Equal, agree.Same, Queue.Len of layer 16's book. Ours. -/
import Derived.Test.YtdlbkdnpbcpjfaaBk6
namespace Go.Proofs.Ytdlbkdnpbcpjfaa
open Go.RowKit Go.Pw
set_option linter.unusedVariables false

theorem bequal_any (a b : Value) (xs ys : List Int) (w : World) (ha : Pw.Src w a 1 xs.length (xs.map (Value.int .u8))) (hb : Pw.Src w b 1 ys.length (ys.map (Value.int .u8))) (bx : ∀ x ∈ xs, 0 ≤ x ∧ x < 256) (by' : ∀ x ∈ ys, 0 ≤ x ∧ x < 256) :
    Calls Try.prog 60 #[a, b] w fun e w' => e = .returned (.bool (decide (xs = ys))) ∧ w = w' := by
  obtain ⟨ao, c, rfl, _⟩ := id ha
  obtain ⟨bo, c', rfl, _⟩ := id hb
  have hsa := run_str (P := Try.prog) (S := 28) (T := 9) Try.underlying28 Try.underlying5 Try.underlying9 ha rfl
  have hsb := run_str (P := Try.prog) (S := 28) (T := 9) Try.underlying28 Try.underlying5 Try.underlying9 hb rfl
  have he := Lib.hid (str_beq bx by')
  clear ha hb bx by'
  go_enter Try.func60, Try.ntmps60
  go_wp2
  go_ret
  exact ⟨by rw [← he.out]; rfl, rfl⟩

/-- A block that never changes. -/
def cst (A T : Nat) (g : Nat × Nat) (cells : List Value) : Res where
  fp := [A]
  ok w := w.heap[A]? = some (.cells cells.toArray T g)
  loc w w' h k := (h A (by simp)).trans k
  lt w h k hk := by obtain rfl : k = A := by simpa using hk
                    exact (Array.getElem?_eq_some_iff.1 h).1
theorem cst_src {w : World} {A T : Nat} {g : Nat × Nat} {x : Int} (h : (cst A T g [.int .u8 x]).ok w) : Pw.Src w (.slice (some ⟨A, 0, none⟩) 1 1) 1 ([x] : List Int).length (([x] : List Int).map (Value.int .u8)) := by
  refine ⟨some ⟨A, 0, none⟩, 1, rfl, Nat.le_refl _, by unfold maxLen; omega, rfl, by simp, fun ad had i u hu => ?_⟩
  obtain rfl := Option.some.inj had
  cases i with
  | zero =>
    simp at hu
    subst hu
    have h0 : w.heap[A]? = some (.cells #[.int .u8 x] T g) := h
    show World.cell? _ ⟨A, 0 + 0, _⟩ = _
    unfold World.cell?
    rw [h0]
    rfl
  | succ j => simp at hu

set_option maxRecDepth 100000 in
set_option maxHeartbeats 1600000 in
/-- Two idents of ours: are they the same? -/
theorem same_any (A1 A2 C1 C2 : Nat) (x y : Int) (w : World) (h1 : Pw.Src w (.slice (some ⟨A1, 0, none⟩) 1 1) 1 ([x] : List Int).length (([x] : List Int).map (Value.int .u8))) (h2 : Pw.Src w (.slice (some ⟨A2, 0, none⟩) 1 1) 1 ([115] : List Int).length (([115] : List Int).map (Value.int .u8)))
    (h3 : Pw.Src w (.slice (some ⟨C1, 0, none⟩) 1 1) 1 ([y] : List Int).length (([y] : List Int).map (Value.int .u8))) (h4 : Pw.Src w (.slice (some ⟨C2, 0, none⟩) 1 1) 1 ([115] : List Int).length (([115] : List Int).map (Value.int .u8))) (hx : 0 ≤ x ∧ x < 256) (hy : 0 ≤ y ∧ y < 256) (z : Bool) (hz : decide (x = y) = z) :
    Calls Try.prog 29 #[.agg #[.slice (some ⟨A1, 0, none⟩) 1 1, .slice (some ⟨A2, 0, none⟩) 1 1], .agg #[.slice (some ⟨C1, 0, none⟩) 1 1, .slice (some ⟨C2, 0, none⟩) 1 1]] w fun e w' => e = .returned (.bool z) ∧ Only w w' [] := by
  have E1 := fun (w' : World) (o : Only w w' []) => bequal_any _ _ [x] [y] w' (h1.off o (fun _ _ _ => by simp)) (h3.off o (fun _ _ _ => by simp)) (by simpa using hx) (by simpa using hy)
  have E2 := fun (w' : World) (o : Only w w' []) => bequal_any _ _ [115] [115] w' (h2.off o (fun _ _ _ => by simp)) (h4.off o (fun _ _ _ => by simp)) (by simp) (by simp)
  rw [show decide (([x] : List Int) = [y]) = z by rw [← hz]; simp] at E1
  clear h1 h2 h3 h4 hz hx hy
  go_enter Try.func29, Try.ntmps29
  go_wp2_with (first
    | (refine wpList_box_new (op := ⟨some 2, .box 30 _, _, _, _, _⟩) rfl 30 _ rfl (.agg #[.slice (some ⟨A1, 0, none⟩) 1 1, .slice (some ⟨A2, 0, none⟩) 1 1]) rfl ?_; intro X wX oX hXl hX)
    | (refine wpList_box_new (op := ⟨some 3, .box 30 _, _, _, _, _⟩) rfl 30 _ rfl (.agg #[.slice (some ⟨C1, 0, none⟩) 1 1, .slice (some ⟨C2, 0, none⟩) 1 1]) rfl ?_; intro Y wY oY hYl hY; have x0 := cell_two0 (oY.at hX (by simp)); have x1 := cell_two1 (oY.at hX (by simp)); have y0 := cell_two0 hY; have y1 := cell_two1 hY; have o1 := oX.trans oY; clear hX hY oX oY))
  refine (E1 _ o1).mono ?_
  rintro e w1 ⟨rfl, rfl⟩
  cases z with
  | false =>
    go_wp2_with fail
    go_ret
    exact ⟨rfl, o1⟩
  | true =>
    go_wp2_with fail
    refine (E2 _ o1).mono ?_
    rintro e w2 ⟨rfl, rfl⟩
    go_wp2_with fail
    go_ret
    exact ⟨by simp, o1⟩
end Go.Proofs.Ytdlbkdnpbcpjfaa
