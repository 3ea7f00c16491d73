/- The document's example of layer 18 (mailbox) holds: awake returns true and leaves what was there. -/
import Derived.Test.YtjopgcbfahlmnaaBox3
import Derived.Test.YtjopgcbfahlmnaaBox4
import Derived.Lib.SlBytesConst
namespace Go.Proofs.Ytjopgcbfahlmnaa
open Go.RowKit Go.Pw
set_option linter.unusedVariables false

theorem box_new {w0 w : World} {rs : List Res} (h : Sep w0 w rs) : Sep w0 (w.alloc (.cells #[.slice none 0 0, .int .u64 0] 31)) (box w.heap.size (.slice none 0 0) [] 0 :: rs) := by
  have s1 := (h.many_nil.rown 36 2).join
  have s2 := s1.box [.slice none 0 0, .int .u64 0] 31
  exact s2.join

theorem ct_one {l : List It} {n : Int} {bs : List Int} (h : l.map ct = [(n, bs)]) : ∃ ao cp, l = [⟨n, ao, cp, bs⟩] := by
  cases l with
  | nil => simp at h
  | cons x l =>
    simp only [List.map_cons, List.cons.injEq, List.map_eq_nil_iff] at h
    obtain ⟨h1, rfl⟩ := h
    obtain ⟨xn, ao, cp, ys⟩ := x
    simp only [ct, Prod.mk.injEq] at h1
    obtain ⟨rfl, rfl⟩ := h1
    exact ⟨ao, cp, rfl⟩

set_option maxRecDepth 100000 in
set_option maxHeartbeats 1600000 in
theorem awake18 (w : World) : Calls Try.prog 6 #[] w fun e w' => e = .returned (.bool true) ∧ Only w w' [] := by
  have kc := fun (w : World) (C : Array Value) (n c : Nat) => Lib.run_convert_bytes_const (P := Try.prog) w 23 5 C n c Try.underlying23 Try.underlying5
  have kc1 := kc (w.alloc (.cells #[.slice none 0 0, .int .u64 0] 31)) #[.int .u8 97] 1 1
  simp only [World.size_alloc] at kc1
  go_enter Try.func6, Try.ntmps6
  go_wp2_with fail
  have s1 := box_new (Sep.nil w)
  have hX := src_litF (w.alloc (.cells #[.slice none 0 0, .int .u64 0] 31)) [.int .u8 97] 5 (1, 2) 1 1 rfl
  have s2 := s1.quiet (Only.alloc _ (.cells #[.int .u8 97] 5 (1, 2)) [])
  refine (put_ok w.heap.size _ [] 0 _ [97] _ s2 (by decide) (by decide) (by simpa using hX) (fun k hk => by simp [Value.ownBlock] at hk; omega) (by decide)).mono ?_
  rintro e w1 ⟨rfl, v1, x1, hx1, t1⟩
  clear s1 hX s2
  generalize w.heap.size = B at *
  go_wp2_with fail
  have hX := src_litF w1 [.int .u8 98] 5 (1, 2) 1 1 rfl
  have s2 := t1.quiet (Only.alloc _ (.cells #[.int .u8 98] 5 (1, 2)) [])
  refine (put_ok B _ _ _ _ [98] _ s2 (by simp) (by decide) (by simpa using hX) (fun k hk => by have := ((Array.getElem?_eq_some_iff.1 (box_facts t1).1).1); simp [Value.ownBlock] at hk; omega) (by decide)).mono ?_
  rintro e w2 ⟨rfl, v2, x2, hx2, t2⟩
  clear t1 hX s2
  go_wp2_with fail
  refine (ack_any B _ _ _ 1 _ t2 (by simp)).mono ?_
  rintro e w3 ⟨rfl, v3, t3⟩
  obtain ⟨x1n, a1, c1, b1⟩ := x1
  obtain ⟨x2n, a2, c2, b2⟩ := x2
  simp only [ct, Prod.mk.injEq] at hx1 hx2
  obtain ⟨rfl, rfl⟩ := hx1
  obtain ⟨rfl, rfl⟩ := hx2
  have e1 : kp 1 ([] ++ [(⟨0 + 1, a1, c1, [97]⟩ : It)] ++ [⟨0 + 1 + 1, a2, c2, [98]⟩]) = [⟨2, a2, c2, [98]⟩] := by simp [kp]
  rw [e1] at t3
  clear t2 e1
  go_wp2_with fail
  refine (from_any B v3 _ _ 0 9 _ t3 (by simp) (by simp) (by decide) (by decide)).mono ?_
  rintro e w4 ⟨v4, l4, rfl, hl4, t4⟩
  have e2 : fromF 0 9 [] [((2 : Int), ([98] : List Int))] = [(2, [98])] := by simp [fromF]
  obtain ⟨a4, c4, rfl⟩ := ct_one (hl4.trans e2)
  obtain ⟨hrow, henv⟩ := items_facts t4
  have ho := t4.only
  obtain ⟨a5, c5, rfl⟩ := own_slice hrow
  obtain ⟨g, rfl, _⟩ := own_some hrow (by simp)
  obtain ⟨k0, k1⟩ := item_at hrow (k := 0) (by simp)
  have hst := run_str (P := Try.prog) (S := 23) (T := 9) Try.underlying23 Try.underlying5 Try.underlying9 (own_src (henv ⟨2, a4, c4, [98]⟩ (by simp))) rfl
  simp only [ev, List.getElem_cons_zero, List.length_cons, List.length_nil, Nat.zero_mul, Nat.zero_add] at k0 k1 hst
  have hq : ((strOfNums [98]).toList == [98]) = true := by rw [Lib.strOfNums_toList]; rfl
  clear t3 t4 hrow henv hl4 e2
  go_wp2_with fail
  go_ret
  exact ⟨rfl, ho⟩
end Go.Proofs.Ytjopgcbfahlmnaa
