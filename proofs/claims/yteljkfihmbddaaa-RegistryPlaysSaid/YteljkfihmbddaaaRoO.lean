/- A row of the call's own that begins anywhere in its block: read, its tail, append, an element. No program. -/
import Derived.Test.YteljkfihmbddaaaPk
import Derived.ArgAppend
set_option linter.unusedSimpArgs false
set_option linter.unusedVariables false
namespace Go.Pw
open Go.RowKit
set_option linter.unusedVariables false

/-- What the row holds. -/
def OwnO (w : World) (e size : Nat) (v : Value) (n : Nat) (xs : List Value) : Prop :=
  xs.length = n * size ∧ ((v = .slice none 0 0 ∧ n = 0) ∨ ∃ g off cap cur, v = .slice (some ⟨g, off, none⟩) n cap ∧ w.heap[g]? = some (.cells cur e (0, 0)) ∧ n ≤ cap ∧ cap ≤ maxLen ∧ off + cap * size ≤ cur.size ∧ (cur.toList.drop off).take (n * size) = xs)
def rowO (e size : Nat) (v : Value) (n : Nat) (xs : List Value) : Res where
  fp := v.ownBlock.toList
  ok w := OwnO w e size v n xs
  loc w w' h k := ⟨k.1, by
    rcases k.2 with hn | ⟨g, off, cap, cur, rfl, hg, rest⟩
    · exact .inl hn
    · exact .inr ⟨g, off, cap, cur, rfl, (h g (by simp [Value.ownBlock])).trans hg, rest⟩⟩
  lt w h k hk := by
    rcases h.2 with ⟨rfl, _⟩ | ⟨g, off, cap, cur, rfl, hg, _⟩
    · simp [Value.ownBlock] at hk
    · obtain rfl : k = g := by simpa [Value.ownBlock] using hk
      exact (Array.getElem?_eq_some_iff.1 hg).1
theorem ownO_nil (w : World) (e size : Nat) : OwnO w e size (.slice none 0 0) 0 [] := ⟨by simp, .inl ⟨rfl, rfl⟩⟩
theorem ownO_of {w : World} {e size n : Nat} {v : Value} {xs : List Value} (h : w.ownsRow 0 e size v n xs) : OwnO w e size v n xs := by
  refine ⟨h.1, ?_⟩
  rcases h.2 with h0 | ⟨g, cap, cur, rfl, _, hg, h2, h3, h4, h5⟩
  · exact .inl h0
  · exact .inr ⟨g, 0, cap, cur, rfl, hg, h2, h3, by omega, by simpa using h5⟩
theorem OwnO.slice {w : World} {e size n : Nat} {v : Value} {xs : List Value} (h : OwnO w e size v n xs) : ∃ ao c, v = .slice ao n c := by
  rcases h.2 with ⟨rfl, rfl⟩ | ⟨g, off, cap, cur, rfl, _⟩
  · exact ⟨none, 0, rfl⟩
  · exact ⟨_, _, rfl⟩
theorem OwnO.one {w : World} {e size n : Nat} {v : Value} {xs : List Value} (h : OwnO w e size v n xs) : v.oneCell' = true := by
  rcases h.2 with ⟨rfl, rfl⟩ | ⟨g, off, cap, cur, rfl, _⟩ <;> rfl
theorem OwnO.at {w : World} {e size n c g off : Nat} {xs : List Value} (h : OwnO w e size (.slice (some ⟨g, off, none⟩) n c) n xs) {j : Nat} {u : Value} (hj : xs[j]? = some u) : w.cell? ⟨g, off + j, none⟩ = some u := by
  rcases h.2 with ⟨he, _⟩ | ⟨g', off', cap, cur, he, hg, _, _, _, ht⟩
  · simp at he
  · simp only [Value.slice.injEq, Option.some.injEq, Addr.mk.injEq, and_true, true_and] at he
    obtain ⟨⟨rfl, rfl⟩, rfl⟩ := he
    rw [cell_in hg, ← hj, ← ht, List.getElem?_take, List.getElem?_drop]
    have hlt : j < n * size := by
      have := (List.getElem?_eq_some_iff.1 hj).1
      rwa [h.1] at this
    rw [if_pos hlt]
    simp
theorem OwnO.addr {w : World} {e size n c : Nat} {ao : Option Addr} {xs : List Value} (h : OwnO w e size (.slice ao n c) n xs) (hn : 0 < n) : ∃ g off, ao = some ⟨g, off, none⟩ ∧ n ≤ c ∧ c ≤ maxLen := by
  rcases h.2 with ⟨he, h0⟩ | ⟨g, off, cap, cur, he, hg, h1, h2, _⟩
  · omega
  · simp only [Value.slice.injEq, true_and] at he
    obtain ⟨rfl, rfl⟩ := he
    exact ⟨g, off, rfl, h1, h2⟩
theorem OwnO.src {w : World} {e size n : Nat} {v : Value} {xs : List Value} (h : OwnO w e size v n xs) : Src w v size n xs := by
  obtain ⟨ao, c, rfl⟩ := h.slice
  rcases h.2 with ⟨he, rfl⟩ | ⟨g, off, cap, cur, he, hg, h1, h2, _⟩
  · simp only [Value.slice.injEq, true_and] at he
    obtain ⟨rfl, rfl⟩ := he
    exact ⟨none, 0, rfl, Nat.le_refl _, Nat.zero_le _, h.1, fun _ => ⟨rfl, rfl⟩, by simp⟩
  · simp only [Value.slice.injEq, true_and] at he
    obtain ⟨rfl, rfl⟩ := he
    refine ⟨_, _, rfl, h1, h2, h.1, by simp, fun b hb j u hj => ?_⟩
    obtain rfl : b = ⟨g, off, none⟩ := by simpa using hb.symm
    rw [Addr.add_lit]
    exact h.at hj
/-- What is behind the first. -/
theorem OwnO.tail {w : World} {e size n c g off : Nat} {xs : List Value} (h : OwnO w e size (.slice (some ⟨g, off, none⟩) (n + 1) c) (n + 1) xs) : OwnO w e size (.slice (some (if c = 1 then ⟨g, off, none⟩ else ⟨g, off + size, none⟩)) n (c - 1)) n (xs.drop size) := by
  rcases h.2 with ⟨he, h0⟩ | ⟨g', off', cap, cur, he, hg, h1, h2, h3, h4⟩
  · omega
  · simp only [Value.slice.injEq, Option.some.injEq, Addr.mk.injEq, and_true, true_and] at he
    obtain ⟨⟨rfl, rfl⟩, rfl⟩ := he
    have hl : (xs.drop size).length = n * size := by rw [List.length_drop, h.1, Nat.add_mul]; omega
    refine ⟨hl, .inr ?_⟩
    by_cases hc : c = 1
    · subst hc
      obtain rfl : n = 0 := by omega
      refine ⟨g, off, 0, cur, by simp, hg, Nat.le_refl _, Nat.zero_le _, by omega, ?_⟩
      have : xs.drop size = [] := List.eq_nil_of_length_eq_zero (by omega)
      rw [this]; simp
    · refine ⟨g, off + size, c - 1, cur, by rw [if_neg hc], hg, by omega, by omega, ?_, ?_⟩
      · have : c * size = (c - 1) * size + size := by
          obtain ⟨m, rfl⟩ : ∃ m, c = m + 1 := ⟨c - 1, by omega⟩
          rw [Nat.add_mul]; simp
        omega
      · rw [← h4, List.drop_take, List.drop_drop]
        congr 1
        rw [Nat.add_mul]; omega

theorem run_append_o {P : Program} (w : World) (t ty e : TypeId) (i : TypeInfo) (z : Value) (size bytes : Nat) (ht : P.underlying t = some (.slice e)) (hi : P.info? e = some i) (hz : i.zero = some z)
    (hsize : i.size = size) (hby : i.bytes = bytes) (hzs : z.cells.size = size) (hsz : 0 < size)
    (v : Value) (n : Nat) (xs : List Value) (hown : OwnO w e size v n xs)
    (x : Value) (m : Nat) (news : List Value) (hx : Src w x size m news) (hm : 0 < m) (h1 : ∀ u ∈ news, u.oneCell' = true)
    (h63 : n + m ≤ maxLen) (hbytes : (n + m) * bytes ≤ 140737488355328) :
    ∃ v' w', (Builtin.append_ #[t, t] ty #[v, x]).run P w = .ok v' w' ∧ OwnO w' e size v' (n + m) (xs ++ news) ∧ Only w w' v.ownBlock.toList ∧ SoN w v v' := by
  rcases hown.2 with ⟨rfl, rfl⟩ | ⟨g, off, cap, cur, rfl, hg, hnc, hcm, hcs, htake⟩
  · have hx0 : xs = [] := List.eq_nil_of_length_eq_zero (by simpa using hown.1)
    subst hx0
    obtain ⟨v', w', r1, r2, r3, r4⟩ := run_append_src (P := P) w t ty e i z size bytes ht hi hz hsize hby hzs hsz (.slice none 0 0) 0 [] (World.ownsRow_nil w 0 e size) x m news hx h1 h63 hbytes
    exact ⟨v', w', r1, ownO_of r2, Only.grown r3 (fun k hk => by simp [hk]), r4⟩
  · obtain ⟨ao, c, rfl, _, _, hl, hnone, hnews⟩ := hx
    cases ao with
    | none => have := (hnone rfl).1; omega
    | some a =>
      have hnews := hnews a rfl
      by_cases hroom : n + m ≤ cap
      · have hfit : off + n * size + news.length ≤ cur.size := by
          have : (n + m) * size ≤ cap * size := Nat.mul_le_mul_right _ hroom
          rw [Nat.add_mul] at this
          omega
        subst hsize
        have hr := run_append_room_cells (P := P) w t ty e i ht hi g off n cap a m c news hl hnews h1 hroom (fun j hj => by rw [cell_in hg]; simp; omega) (fun j hj => by simp [World.frozen?, hg])
        refine ⟨_, _, hr, ⟨by rw [List.length_append, hown.1, hl, Nat.add_mul], .inr ⟨g, off, cap, _, rfl, setCells_block news _ w cur hg, hroom, hcm, ?_, ?_⟩⟩, by simpa [Value.ownBlock] using only_setCells news _ w, fun k hk => .inl hk⟩
        · simpa [setL_length] using hcs
        · have e1 : cur.toList = cur.toList.take (off + n * i.size) ++ (cur.toList.drop (off + n * i.size)).take news.length ++ cur.toList.drop (off + n * i.size + news.length) := by
            rw [show cur.toList.drop (off + n * i.size + news.length) = (cur.toList.drop (off + n * i.size)).drop news.length by rw [List.drop_drop], List.append_assoc, List.take_append_drop, List.take_append_drop]
          have e4 : ((cur.toList.drop (off + n * i.size)).take news.length).length = news.length := by
            rw [List.length_take, List.length_drop]
            exact Nat.min_eq_left (by have : cur.toList.length = cur.size := Array.length_toList; omega)
          have e2 : (cur.toList.take (off + n * i.size)).length = off + n * i.size := by rw [List.length_take]; have : cur.toList.length = cur.size := Array.length_toList; omega
          have e3 : setL cur.toList (off + n * i.size) news = cur.toList.take (off + n * i.size) ++ news ++ cur.toList.drop (off + n * i.size + news.length) := by
            conv => lhs; rw [e1]
            have := setL_app ((cur.toList.drop (off + n * i.size)).take news.length) (cur.toList.take (off + n * i.size)) news (cur.toList.drop (off + n * i.size + news.length)) e4.symm
            rw [e2] at this
            exact this
          rw [List.toList_toArray, e3, List.append_assoc, List.drop_append_of_le_length (by omega), List.drop_take]
          rw [show off + n * i.size - off = n * i.size by omega, htake, ← List.append_assoc]
          have : (xs ++ news).length = (n + m) * i.size := by rw [List.length_append, hown.1, hl, Nat.add_mul]
          rw [← this]
          exact List.take_left
      · obtain ⟨v', w', r1, r2, r3⟩ := run_append_arg_grows (P := P) w t ty e i z size bytes ht hi hz hsize hby hzs hsz ⟨g, off, none⟩ n cap xs hown.1 (fun j u hj => by rw [Addr.add_lit]; exact hown.at hj) a m c news hl hnews (by omega) h63 hbytes
        refine ⟨v', w', r1, ?_, Only.grown r3 (fun k hk => by simp at hk), fun k hk => ?_⟩
        · refine ownO_of ⟨r2.1, ?_⟩
          rcases r2.2 with h0 | ⟨g', cap', cur', a1, a2, rest⟩
          · exact .inl h0
          · exact .inr ⟨g', cap', cur', a1, Nat.zero_le _, rest⟩
        · rcases r2.2 with ⟨rfl, _⟩ | ⟨g', cap', cur', rfl, a2, _⟩
          · simp [Value.ownBlock] at hk
          · right
            simp [Value.ownBlock] at hk
            omega

/-- append onto such a row, as one step of a region that draws. -/
theorem step_append_o {P : Program} {ops : Array Oper} {o : Oper} {a : Act} {w w0 : World} {rs : List Res} {K : Act → World → Prop} {Q : Exit → Act → World → Prop} {E : Prop}
    (hg : o.guard = none) (s x : Operand) (t : TypeId) (hop : o.op = Op.call { callee := Callee.builtin Builtin.append, args := #[s, x], argTypes := #[t, t] })
    (e : TypeId) (i : TypeInfo) (z : Value) (size bytes : Nat) (ht : P.underlying t = some (.slice e)) (hi : P.info? e = some i) (hz : i.zero = some z)
    (hsize : i.size = size) (hby : i.bytes = bytes) (hzs : z.cells.size = size) (hsz : 0 < size)
    (v : Value) (n : Nat) (xs : List Value) (hs : a.eval s = v) (hsep : Sep w0 w (rowO e size v n xs :: rs))
    (xv : Value) (m : Nat) (news : List Value) (hx : a.eval x = xv) (hsrc : Src w xv size m news) (hm : 0 < m) (h1 : ∀ u ∈ news, u.oneCell' = true)
    (h63 : n + m ≤ maxLen) (hbytes : (n + m) * bytes ≤ 140737488355328)
    (hK : ∀ v' w', Only w w' v.ownBlock.toList → Sep w0 w' (rowO e size v' (n + m) (xs ++ news) :: rs) → K (a.put o.dst v') w') :
    if Region.wanted o (yielded ops a.tmps) = true then Oper.wp P o a w K Q else E := by
  have hw : Region.wanted o (yielded ops a.tmps) = true := by simp [Region.wanted, hg]
  rw [if_pos hw]
  obtain ⟨v', w', hrun, r1, r2, r3⟩ := run_append_o (P := P) w t o.type e i z size bytes ht hi hz hsize hby hzs hsz v n xs hsep.head xv m news hsrc hm h1 h63 hbytes
  unfold Oper.wp
  simp [execOp, hop, resolve, invoke, builtin, hs, hx, hrun, Result.andThen]
  exact hK v' w' r2 (hsep.step r2 (fun k hk => .inl hk) r1 (fun k hk => by
    rcases r3 k (by simpa [rowO] using hk) with h | h
    · exact .inl (by simpa [rowO] using h)
    · exact .inr h))
end Go.Pw
