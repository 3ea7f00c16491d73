/- Sessions in a queue: IndexFunc, find (none). Printed by gen_bq.py. -/
import Derived.Test.YtdlbkdnpbcpjfaaBka
import Derived.Test.YtdlbkdnpbcpjfaaInsS
import Derived.Test.YtdlbkdnpbcpjfaaPk
set_option linter.unusedSimpArgs false
set_option linter.unusedVariables false
namespace Go.Proofs.Ytdlbkdnpbcpjfaa
open Go.RowKit Go.Pw
set_option linter.unusedVariables false

/-- A session that is put: where its name lies, and its byte. -/
def sc (p : Nat × Int) : List Value := [.slice (some ⟨p.1, 0, none⟩) 1 1, .slice none 0 0, .slice none 0 0, .slice none 0 0, .slice none 0 0, .int .u32 0, .bool false, .int .u32 0, .bool false, .slice none 0 0, .slice none 0 0, .slice none 0 0, .slice none 0 0, .int .u32 0, .slice none 0 0, .int .u32 0, .int .u32 0, .pointer none]
theorem sc_len (p : Nat × Int) : (sc p).length = 18 := rfl
theorem sc_one (p : Nat × Int) : ∀ u ∈ sc p, u.oneCell' = true := by simp [sc, Value.oneCell']

set_option maxRecDepth 100000 in
set_option maxHeartbeats 1600000 in
theorem sclos_ne (A I X : Nat) (b x : Int) (w : World) (hA : w.heap[A]? = some (.cells #[.slice (some ⟨I, 0, none⟩) 1 1] 28 (0, 0))) (hI : Pw.Src w (.slice (some ⟨I, 0, none⟩) 1 1) 1 ([x] : List Int).length (([x] : List Int).map (Value.int .u8)))
    (hX : Pw.Src w (.slice (some ⟨X, 0, none⟩) 1 1) 1 ([b] : List Int).length (([b] : List Int).map (Value.int .u8))) (hb : 0 ≤ b ∧ b < 256) (hx : 0 ≤ x ∧ x < 256) (hne : b ≠ x) :
    Calls Try.prog 79 #[.agg (sc (X, b)).toArray, .pointer (some ⟨A, 0, none⟩)] w fun e w' => e = .returned (.bool false) ∧ Only w w' [] := by
  have E := fun (w' : World) (o : Only w w' []) => bequal_any _ _ [b] [x] w' (hX.off o (fun _ _ _ => by simp)) (hI.off o (fun _ _ _ => by simp)) (by simpa using hb) (by simpa using hx)
  rw [show decide (([b] : List Int) = [x]) = false by simp [hne]] at E
  have h0 : (sc (X, b)).toArray[0]? = some (.slice (some ⟨X, 0, none⟩) 1 1) := rfl
  clear hI hX hb hx hne
  generalize sc (X, b) = cs at *
  go_enter Try.func79, Try.ntmps79
  go_wp2_with (refine wpList_box_new rfl 97 _ rfl (.agg cs.toArray) rfl ?_; intro Z wZ oZ hZl hZ; have hz0 := (cell_in hZ 0).trans h0; have hA0 := cell_of_one (oZ.at hA (by simp)))
  refine (E _ oZ).mono ?_
  rintro e w1 ⟨rfl, rfl⟩
  go_wp2_with fail
  go_ret
  exact ⟨rfl, oZ⟩

set_option maxRecDepth 100000 in
set_option maxHeartbeats 1600000 in
theorem sindex_none (A : Nat) (v : Value) (ss : List (Nat × Int)) (w : World) (h : w.ownsRow 0 97 18 v ss.length (fl sc ss)) (hl : ss.length ≤ 1000000)
    (hF : ∀ k (hk : k < ss.length) w', Only w w' [] → Calls Try.prog 79 #[.agg (sc ss[k]).toArray, .pointer (some ⟨A, 0, none⟩)] w' fun e w'' => e = .returned (.bool false) ∧ Only w' w'' []) :
    Calls Try.prog 78 #[v, .func (.func 79) #[] #[.pointer (some ⟨A, 0, none⟩)]] w fun e w' => e = .returned (.int .i64 (-1)) ∧ Only w w' [] := by
  obtain ⟨ao, c, rfl⟩ := own_slice h
  have HS := fun (hp : 0 < ss.length) => own_some h hp
  go_enter Try.func78, Try.ntmps78
  go_wp2_with fail
  go_loopw [8] (fun i wr => ∃ k : Nat, i = .int .i64 k ∧ k ≤ ss.length ∧ Only w wr []) (fun i _ => ss.length - (intOf i).toNat)
  case atStart => exact ⟨0, rfl, Nat.zero_le _, Only.refl _ _⟩
  case round =>
    obtain ⟨k, rfl, hk, ho⟩ := hrel
    by_cases hkl : k < ss.length
    · obtain ⟨g, rfl, _⟩ := HS (by omega)
      have hrng := rec_range sc_len (own_only h ho (fun _ _ => by simp)) hkl
      have hFx := hF k hkl wr ho
      generalize ss[k] = x at *
      have hll := sc_len x
      clear HS
      have d1 : decide ((k : Int) < ss.length) = true := by simpa using hkl
      generalize sc x = cs at *
      go_wp2_with (refine wpList_load_mid rfl 97 _ rfl g (k * 18) rfl cs _ hrng Try.underlying97 (by rfl) (by rw [hll]; kernel_rfl) ?_)
      refine hFx.mono ?_
      rintro e w2 ⟨rfl, ho2⟩
      go_wp2_with fail
      refine ⟨⟨k + 1, by simp, by omega, ho.trans ho2⟩, by simp [intOf]; omega⟩
    · obtain rfl : k = ss.length := by omega
      have d1 : decide ((ss.length : Int) < ss.length) = false := by simp
      go_wp2_with fail
      go_ret
      exact ⟨rfl, ho⟩

set_option maxRecDepth 100000 in
theorem qfind_none (Q I : Nat) (v : Value) (ss : List (Nat × Int)) (x : Int) (w : World) (hQ : w.heap[Q]? = some (.cells #[v] 74 (0, 0))) (h : w.ownsRow 0 97 18 v ss.length (fl sc ss)) (hl : ss.length ≤ 1000000)
    (ids : ∀ p ∈ ss, Pw.Src w (.slice (some ⟨p.1, 0, none⟩) 1 1) 1 ([p.2] : List Int).length (([p.2] : List Int).map (Value.int .u8)) ∧ (0 ≤ p.2 ∧ p.2 < 256) ∧ p.2 ≠ x)
    (hI : Pw.Src w (.slice (some ⟨I, 0, none⟩) 1 1) 1 ([x] : List Int).length (([x] : List Int).map (Value.int .u8))) (hx : 0 ≤ x ∧ x < 256) :
    Calls Try.prog 65 #[.pointer (some ⟨Q, 0, none⟩), .slice (some ⟨I, 0, none⟩) 1 1] w fun e w' => e = .returned (.int .i64 (-1)) ∧ Only w w' [] := by
  have E := fun (A : Nat) (w' : World) (o : Only w w' []) (hA : w'.heap[A]? = some (.cells #[.slice (some ⟨I, 0, none⟩) 1 1] 28 (0, 0))) => sindex_none A v ss w' (own_only h o (fun _ _ => by simp)) hl (fun k hk w2 o2 => by
    obtain ⟨h1, h2, h3⟩ := ids ss[k] (List.getElem_mem hk)
    have o3 := o.trans o2
    exact sclos_ne A I _ _ x w2 (o2.at hA (by simp)) (hI.off o3 (fun _ _ _ => by simp)) (h1.off o3 (fun _ _ _ => by simp)) h2 hx h3)
  have oA := Only.alloc w (.cells #[.slice (some ⟨I, 0, none⟩) 1 1] 28) []
  have E1 := E w.heap.size _ oA (heap_alloc_new w _)
  have q0 := cell_of_one (oA.at hQ (by simp))
  clear E ids hI hx hQ hl
  obtain ⟨ao, c, rfl⟩ := own_slice h
  clear h
  go_enter Try.func65, Try.ntmps65
  go_wp2_with fail
  refine E1.mono ?_
  rintro e w1 ⟨rfl, o1⟩
  go_wp2_with fail
  go_ret
  exact ⟨rfl, oA.trans o1⟩
end Go.Proofs.Ytdlbkdnpbcpjfaa
