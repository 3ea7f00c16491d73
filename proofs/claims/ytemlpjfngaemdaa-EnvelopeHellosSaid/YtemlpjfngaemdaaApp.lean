/- append onto a row of the call's own: what was there reads as it did. No program. -/
import Derived.Test.YtemlpjfngaemdaaBase
namespace Go.Pw
open Go.RowKit
set_option linter.unusedVariables false

theorem own_prefix {w : World} {base size n m cap : Nat} {e g : Nat} {xs ys : List Value} (h : w.ownsRow base e size (.slice (some ⟨g, 0, none⟩) (n + m) cap) (n + m) (xs ++ ys)) (hx : xs.length = n * size) (k : Nat) (hk : n ≤ k) (hkm : k ≤ maxLen) : Src w (.slice (some ⟨g, 0, none⟩) n k) size n xs :=
  ⟨_, _, rfl, hk, hkm, hx, by simp, fun b hb j u hj => by
    obtain rfl : b = ⟨g, 0, none⟩ := by simpa using hb.symm
    exact h.cells (g := g) rfl j u (by rw [List.getElem?_append_left (List.getElem?_eq_some_iff.1 hj).1]; exact hj)⟩

theorem run_append_keep {P : Program} (w : World) (t ty e : TypeId) (i : TypeInfo) (z : Value) (size bytes : Nat) (ht : P.underlying t = some (.slice e)) (hi : P.info? e = some i) (hz : i.zero = some z)
    (hsize : i.size = size) (hby : i.bytes = bytes) (hzs : z.cells.size = size) (hsz : 0 < size)
    (v : Value) (n : Nat) (xs : List Value) (hown : w.ownsRow 0 e size v n xs)
    (x : Value) (m : Nat) (news : List Value) (hx : Src w x size m news) (h1 : ∀ u ∈ news, u.oneCell' = true) (hm0 : 0 < m)
    (h63 : n + m ≤ maxLen) (hbytes : (n + m) * bytes ≤ 140737488355328) :
    ∃ v' w', (Builtin.append_ #[t, t] ty #[v, x]).run P w = .ok v' w' ∧ w'.ownsRow 0 e size v' (n + m) (xs ++ news) ∧ w.grownBy w' v.ownBlock ∧ SoN w v v' ∧ Src w' v size n xs := by
  obtain ⟨ao, c, rfl, _, _, hl, hnone, hnews⟩ := hx
  cases ao with
  | none => have := (hnone rfl).1; omega
  | some a =>
    have hnews := hnews a rfl
    subst hsize
    subst hby
    have hsmall : n + m ≤ 9223372036854775807 := by simp only [maxLen] at h63; omega
    have hlen : (xs ++ news).length = (n + m) * i.size := by rw [List.length_append, hown.1, hl, Nat.add_mul]
    have grown : ∀ (old : Nat), old < n + m → ∀ (row : Option Nat),
        (w.drew.alloc (.cells (xs.toArray ++ news.toArray ++ Builtin.zeroCells z.cells (grownCap w (n + m) old e - (n + m))) e)).ownsRow 0 e i.size
          (.slice (some ⟨w.heap.size, 0, none⟩) (n + m) (grownCap w (n + m) old e)) (n + m) (xs ++ news) ∧
        w.grownBy (w.drew.alloc (.cells (xs.toArray ++ news.toArray ++ Builtin.zeroCells z.cells (grownCap w (n + m) old e - (n + m))) e)) row := by
      intro old ho row
      have hge := grownCap_ge w (n + m) old e
      have hcm : grownCap w (n + m) old e ≤ maxLen := grownCap_le_maxLen w (n + m) old e h63
      refine ⟨⟨hlen, .inr ⟨w.heap.size, _, _, rfl, Nat.zero_le _, heap_alloc_new w.drew _, hge, hcm, ?_, ?_⟩⟩, ⟨rfl, rfl, rfl, by simp, fun k hk _ => Below.heap_alloc w.drew _ k hk⟩⟩
      · simp only [Array.size_append, List.size_toArray, size_zeroCells, hzs, hown.1, hl, ← Nat.add_mul]
        congr 1
        omega
      · simp only [Array.toList_append, List.append_assoc]
        rw [← List.append_assoc, ← hlen]
        exact List.take_left
    have keep' : ∀ (w' : World), Only w w' [] → Src w' v i.size n xs := fun w' ho => (own_src hown).off ho (fun _ _ _ => by simp)
    rcases hown.2 with ⟨rfl, rfl⟩ | ⟨g, cap, cur, rfl, hbg, hg, hnc, hcm, hcs, htake⟩
    · have hx : xs = [] := List.eq_nil_of_length_eq_zero (by simpa using hown.1)
      subst hx
      have hr := run_append_nil (P := P) w t ty e i z ht hi hz a m c news hl hnews (by omega) (by omega) (by have hb := hbytes; simp only [Nat.zero_add] at hb; omega)
      have hgr := grown 0 (by omega) (Value.ownBlock (.slice none 0 0))
      simp only [Nat.zero_add, List.nil_append, Array.empty_append] at hgr ⊢
      exact ⟨_, _, hr, hgr.1, hgr.2, fun k hk => .inr (by simp [Value.ownBlock] at hk; omega), ⟨none, 0, rfl, Nat.le_refl _, Nat.zero_le _, by simp, fun _ => ⟨rfl, rfl⟩, by simp⟩⟩
    · by_cases hroom : n + m ≤ cap
      · have hfit : n * i.size + news.length ≤ cur.size := by rw [hl, hcs, ← Nat.add_mul]; exact Nat.mul_le_mul_right _ hroom
        have hr := run_append_room (P := P) w t ty e i ht hi g n cap cur hg a m c news hl hnews h1 hroom hfit
        have hro : (w.setRow g (cur.toList.take (n * i.size) ++ news ++ cur.toList.drop (n * i.size + news.length)).toArray).ownsRow 0 e i.size (.slice (some ⟨g, 0, none⟩) (n + m) cap) (n + m) (xs ++ news) := by
          refine ⟨hlen, .inr ⟨g, cap, _, rfl, hbg, setRow_heap w g cur _ e _ hg, hroom, hcm, ?_, ?_⟩⟩
          · simp only [List.size_toArray, List.length_append, List.length_take, List.length_drop, Array.length_toList]
            omega
          · rw [htake, ← hlen]
            exact List.take_left
        exact ⟨_, _, hr, hro, ⟨rfl, rfl, rfl, by simp, fun k _ hk => setRow_other w g k _ (fun e => hk (by simp [Value.ownBlock, e]))⟩, fun k hk => .inl hk, own_prefix hro hown.1 cap (by omega) hcm⟩
      · have holds : ∀ j u, xs[j]? = some u → w.cell? ((⟨g, 0, none⟩ : Addr).add j) = some u := hown.cells (g := g) rfl
        have hr := run_append_grow (P := P) w t ty e i z ht hi hz ⟨g, 0, none⟩ n cap xs hown.1 holds a m c news hl hnews (by omega) (by omega) (growslice_fits (by omega) hbytes)
        have hgr := grown cap (by omega) (Value.ownBlock (.slice (some ⟨g, 0, none⟩) n cap))
        exact ⟨_, _, hr, hgr.1, hgr.2, fun k hk => .inr (by simp [Value.ownBlock] at hk; omega), keep' _ ⟨rfl, rfl, rfl, by simp, fun k hk _ => Below.heap_alloc w.drew _ k hk⟩⟩

theorem wpList_append_keep {P : Program} {w : World} {ops : Array Oper} {rest : List Oper} {o : Oper} {a : Act} {Q : Exit → Act → World → Prop} (hgd : o.guard = none) (s x : Operand) (t : TypeId)
    (ho : o.op = .call { callee := .builtin .append, args := #[s, x], argTypes := #[t, t] })
    (e : TypeId) (i : TypeInfo) (z : Value) (size bytes : Nat) (ht : P.underlying t = some (.slice e)) (hi : P.info? e = some i) (hz : i.zero = some z)
    (hsize : i.size = size) (hby : i.bytes = bytes) (hzs : z.cells.size = size) (hsz : 0 < size)
    (v : Value) (n : Nat) (xs : List Value) (hs : a.eval s = v) (hown : w.ownsRow 0 e size v n xs)
    (xv : Value) (m : Nat) (news : List Value) (hx : a.eval x = xv) (hsrc : Src w xv size m news) (h1 : ∀ u ∈ news, u.oneCell' = true) (hm0 : 0 < m)
    (h63 : n + m ≤ maxLen) (hbytes : (n + m) * bytes ≤ 140737488355328)
    (h : ∀ v' w', w'.ownsRow 0 e size v' (n + m) (xs ++ news) → w.grownBy w' v.ownBlock → SoN w v v' → Src w' v size n xs → wpList P ops Q rest (a.put o.dst v') w') : wpList P ops Q (o :: rest) a w :=
  wpList_plain hgd fun _ hK => by
    obtain ⟨v', w', hrun, r1, r2, r3, r4⟩ := run_append_keep (P := P) w t o.type e i z size bytes ht hi hz hsize hby hzs hsz v n xs hown xv m news hsrc h1 hm0 h63 hbytes
    unfold Oper.wp
    simp [execOp, ho, resolve, invoke, builtin, hs, hx, hrun, Result.andThen]
    exact hK _ _ (h v' w' r1 r2 r3 r4)
end Go.Pw
