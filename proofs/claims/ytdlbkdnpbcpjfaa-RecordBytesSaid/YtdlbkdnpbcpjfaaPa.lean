/- Several texts in one: Base, Sep, Region, Rec, RegT, Who. -/
import Derived.WalkKit
import Derived.WalkSpells
import Derived.WalkLawsBesides
import Derived.Deep.RegionLaw
import Derived.Deep.QuietTactic
import Derived.BigQuiet
import Derived.BigRegion
import Derived.Lib.Hide
import Derived.Shelf.Bytes.SlEqualAll
import Derived.Deep.RegionHeld3
import Derived.Deep.MidRow
import Derived.Laws.OwnMore
set_option linter.unusedSimpArgs false
set_option linter.unusedVariables false
/- The vocabulary of our walks: frames by blocks, rows that the call owns, one step law for an append to an own row inside a region that draws its order. No program. -/
namespace Go.Pw
open Go.RowKit
set_option linter.unusedVariables false

/-- Only the blocks of L may have turned; new blocks may have come. -/
structure Only (w w' : World) (L : List Nat) : Prop where
  os : w'.os = w.os
  tape : w'.tape = w.tape
  output : w'.output = w.output
  size : w.heap.size ≤ w'.heap.size
  block : ∀ k, k < w.heap.size → k ∉ L → w'.heap[k]? = w.heap[k]?

theorem Only.refl (w : World) (L : List Nat) : Only w w L := ⟨rfl, rfl, rfl, Nat.le_refl _, fun _ _ _ => rfl⟩
theorem Only.trans {a b c : World} {L : List Nat} (h : Only a b L) (k : Only b c L) : Only a c L :=
  ⟨k.os.trans h.os, k.tape.trans h.tape, k.output.trans h.output, Nat.le_trans h.size k.size, fun i hi hn => (k.block i (Nat.lt_of_lt_of_le hi h.size) hn).trans (h.block i hi hn)⟩
theorem Only.mono {a b : World} {L L' : List Nat} (h : Only a b L) (hs : ∀ k, k < a.heap.size → k ∈ L → k ∈ L') : Only a b L' :=
  ⟨h.os, h.tape, h.output, h.size, fun i hi hn => h.block i hi (fun m => hn (hs i hi m))⟩
theorem Only.below {a b : World} {L : List Nat} (h : Only a b L) {B : Nat} (hB : B ≤ a.heap.size) (hL : ∀ k ∈ L, B ≤ k) : Below B a b :=
  ⟨h.os, h.tape, h.output, h.size, fun i hi => h.block i (by omega) (fun m => by have := hL i m; omega)⟩
theorem Only.drew (w : World) (L : List Nat) : Only w w.drew L := ⟨rfl, rfl, rfl, Nat.le_refl _, fun _ _ _ => rfl⟩
theorem Only.alloc (w : World) (o : Obj) (L : List Nat) : Only w (w.alloc o) L := ⟨rfl, rfl, rfl, by simp, fun k hk _ => Below.heap_alloc _ _ _ hk⟩
theorem Only.setCell (w : World) (a : Addr) (u : Value) (L : List Nat) (h : a.block ∈ L) : Only w (w.setCell a u) L :=
  ⟨rfl, rfl, rfl, by simp [World.setCell], fun k _ hn => Below.heap_setCell _ _ _ _ (fun e => hn (e ▸ h))⟩
theorem Only.grown {w w' : World} {row : Option Nat} {L : List Nat} (hg : w.grownBy w' row) (hr : ∀ k, row = some k → k ∈ L) : Only w w' L :=
  ⟨hg.os, hg.tape, hg.output, hg.size, fun k hk hn => hg.block k hk (fun e => hn (hr k e.symm))⟩

/-- What is read: m elements of 'size' cells each, the cells 'news', through the slice value x; nil and empty ones too. -/
def Src (w : World) (x : Value) (size m : Nat) (news : List Value) : Prop :=
  ∃ ao c, x = .slice ao m c ∧ m ≤ c ∧ c ≤ maxLen ∧ news.length = m * size ∧ (ao = none → m = 0 ∧ c = 0) ∧ ∀ b, ao = some b → ∀ j u, news[j]? = some u → w.cell? (b.add j) = some u

/-- The block of v' is that of v, or a new one. -/
def SoN (w : World) (v v' : Value) : Prop := ∀ k, v'.ownBlock = some k → v.ownBlock = some k ∨ w.heap.size ≤ k

theorem SoN.refl (w : World) (v : Value) : SoN w v v := fun _ h => .inl h
theorem SoN.trans {w w1 : World} {v v1 v2 : Value} (h : SoN w v v1) (k : SoN w1 v1 v2) (hs : w.heap.size ≤ w1.heap.size) : SoN w v v2 := fun i hi => by
  rcases k i hi with h1 | h1
  · exact h i h1
  · exact .inr (Nat.le_trans hs h1)

theorem run_append_src {P : Program} (w : World) (t ty e : TypeId) (i : TypeInfo) (z : Value) (size bytes : Nat) (ht : P.underlying t = some (.slice e)) (hi : P.info? e = some i) (hz : i.zero = some z)
    (hsize : i.size = size) (hby : i.bytes = bytes) (hzs : z.cells.size = size) (hsz : 0 < size)
    (v : Value) (n : Nat) (xs : List Value) (hown : w.ownsRow 0 e size v n xs)
    (x : Value) (m : Nat) (news : List Value) (hx : Src w x size m news) (h1 : ∀ u ∈ news, u.oneCell' = true)
    (h63 : n + m ≤ maxLen) (hbytes : (n + m) * bytes ≤ 140737488355328) :
    ∃ v' w', (Builtin.append_ #[t, t] ty #[v, x]).run P w = .ok v' w' ∧ w'.ownsRow 0 e size v' (n + m) (xs ++ news) ∧ w.grownBy w' v.ownBlock ∧ SoN w v v' := by
  obtain ⟨ao, c, rfl, _, _, hl, hnone, hnews⟩ := hx
  cases ao with
  | none =>
    obtain ⟨rfl, rfl⟩ := hnone rfl
    obtain rfl : news = [] := List.eq_nil_of_length_eq_zero (by simpa using hl)
    exact ⟨v, w, run_append_owned_none (P := P) (w := w) 0 t ty e i size ht hi v n xs hown, by simpa using hown, ⟨rfl, rfl, rfl, Nat.le_refl _, fun _ _ _ => rfl⟩, SoN.refl _ _⟩
  | some a =>
    have hnews := hnews a rfl
    subst hsize
    subst hby
    have hsmall : n + m ≤ 9223372036854775807 := by simp only [maxLen] at h63; omega
    have hlen : (xs ++ news).length = (n + m) * i.size := by rw [List.length_append, hown.1, hl, Nat.add_mul]
    have grown : ∀ (old : Nat), old < n + m → ∀ (row : Option Nat),
        (w.drew.alloc (.cells (xs.toArray ++ news.toArray ++ Builtin.zeroCells z.cells (grownCap w (n + m) old e - (n + m))) e)).ownsRow 0 e i.size
          (.slice (some ⟨w.heap.size, 0, none⟩) (n + m) (grownCap w (n + m) old e)) (n + m) (xs ++ news) ∧
        w.grownBy (w.drew.alloc (.cells (xs.toArray ++ news.toArray ++ Builtin.zeroCells z.cells (grownCap w (n + m) old e - (n + m))) e)) row := by
      intro old ho row
      have hge := grownCap_ge w (n + m) old e
      have hcm : grownCap w (n + m) old e ≤ maxLen := grownCap_le_maxLen w (n + m) old e h63
      refine ⟨⟨hlen, .inr ⟨w.heap.size, _, _, rfl, Nat.zero_le _, heap_alloc_new w.drew _, hge, hcm, ?_, ?_⟩⟩, ⟨rfl, rfl, rfl, by simp, fun k hk _ => Below.heap_alloc w.drew _ k hk⟩⟩
      · simp only [Array.size_append, List.size_toArray, size_zeroCells, hzs, hown.1, hl, ← Nat.add_mul]
        congr 1
        omega
      · simp only [Array.toList_append, List.append_assoc]
        rw [← List.append_assoc, ← hlen]
        exact List.take_left
    rcases hown.2 with ⟨rfl, rfl⟩ | ⟨g, cap, cur, rfl, hbg, hg, hnc, hcm, hcs, htake⟩
    · have hx : xs = [] := List.eq_nil_of_length_eq_zero (by simpa using hown.1)
      subst hx
      by_cases hm : m = 0
      · subst hm
        have hn : news = [] := List.eq_nil_of_length_eq_zero (by simpa using hl)
        subst hn
        refine ⟨.slice none 0 0, w, ?_, World.ownsRow_nil w 0 e i.size, ⟨rfl, rfl, rfl, Nat.le_refl _, fun _ _ _ => rfl⟩, SoN.refl _ _⟩
        simp [Builtin.append_, run_underlying ht, sizeOf, typeInfo, hi, Builtin.lenOf, Builtin.firstCells, loadCells, loadCellsFrom]
      · have hr := run_append_nil (P := P) w t ty e i z ht hi hz a m c news hl hnews (by omega) (by omega) (by have hb := hbytes; simp only [Nat.zero_add] at hb; omega)
        have hgr := grown 0 (by omega) (Value.ownBlock (.slice none 0 0))
        simp only [Nat.zero_add, List.nil_append, Array.empty_append] at hgr ⊢
        exact ⟨_, _, hr, hgr.1, hgr.2, fun k hk => .inr (by simp [Value.ownBlock] at hk; omega)⟩
    · by_cases hroom : n + m ≤ cap
      · have hfit : n * i.size + news.length ≤ cur.size := by rw [hl, hcs, ← Nat.add_mul]; exact Nat.mul_le_mul_right _ hroom
        have hr := run_append_room (P := P) w t ty e i ht hi g n cap cur hg a m c news hl hnews h1 hroom hfit
        refine ⟨_, _, hr, ⟨hlen, .inr ⟨g, cap, _, rfl, hbg, setRow_heap w g cur _ e _ hg, hroom, hcm, ?_, ?_⟩⟩, ⟨rfl, rfl, rfl, by simp, fun k _ hk => setRow_other w g k _ (fun e => hk (by simp [Value.ownBlock, e]))⟩, fun k hk => .inl hk⟩
        · simp only [List.size_toArray, List.length_append, List.length_take, List.length_drop, Array.length_toList]
          omega
        · rw [htake, ← hlen]
          exact List.take_left
      · have holds : ∀ j u, xs[j]? = some u → w.cell? ((⟨g, 0, none⟩ : Addr).add j) = some u := hown.cells (g := g) rfl
        have hr := run_append_grow (P := P) w t ty e i z ht hi hz ⟨g, 0, none⟩ n cap xs hown.1 holds a m c news hl hnews (by omega) (by omega) (growslice_fits (by omega) hbytes)
        have hgr := grown cap (by omega) (Value.ownBlock (.slice (some ⟨g, 0, none⟩) n cap))
        exact ⟨_, _, hr, hgr.1, hgr.2, fun k hk => .inr (by simp [Value.ownBlock] at hk; omega)⟩

/-- append onto a row of the call's own, for the walk. -/
theorem wpList_append_src {P : Program} {w : World} {ops : Array Oper} {rest : List Oper} {o : Oper} {a : Act} {Q : Exit → Act → World → Prop} (hgd : o.guard = none) (s x : Operand) (t : TypeId)
    (ho : o.op = .call { callee := .builtin .append, args := #[s, x], argTypes := #[t, t] })
    (e : TypeId) (i : TypeInfo) (z : Value) (size bytes : Nat) (ht : P.underlying t = some (.slice e)) (hi : P.info? e = some i) (hz : i.zero = some z)
    (hsize : i.size = size) (hby : i.bytes = bytes) (hzs : z.cells.size = size) (hsz : 0 < size)
    (v : Value) (n : Nat) (xs : List Value) (hs : a.eval s = v) (hown : w.ownsRow 0 e size v n xs)
    (xv : Value) (m : Nat) (news : List Value) (hx : a.eval x = xv) (hsrc : Src w xv size m news) (h1 : ∀ u ∈ news, u.oneCell' = true)
    (h63 : n + m ≤ maxLen) (hbytes : (n + m) * bytes ≤ 140737488355328)
    (h : ∀ v' w', w'.ownsRow 0 e size v' (n + m) (xs ++ news) → w.grownBy w' v.ownBlock → SoN w v v' → wpList P ops Q rest (a.put o.dst v') w') : wpList P ops Q (o :: rest) a w :=
  wpList_plain hgd fun _ hK => by
    obtain ⟨v', w', hrun, r1, r2, r3⟩ := run_append_src (P := P) w t o.type e i z size bytes ht hi hz hsize hby hzs hsz v n xs hown xv m news hsrc h1 h63 hbytes
    unfold Oper.wp
    simp [execOp, ho, resolve, invoke, builtin, hs, hx, hrun, Result.andThen]
    exact hK _ _ (h v' w' r1 r2 r3)

/-- append onto a row of the call's own, as one step of a region that draws. -/
theorem step_append_src {P : Program} {ops : Array Oper} {o : Oper} {a : Act} {w : World} {K : Act → World → Prop} {Q : Exit → Act → World → Prop} {E : Prop}
    (hg : o.guard = none) (s x : Operand) (t : TypeId) (hop : o.op = Op.call { callee := Callee.builtin Builtin.append, args := #[s, x], argTypes := #[t, t] })
    (e : TypeId) (i : TypeInfo) (z : Value) (size bytes : Nat) (ht : P.underlying t = some (.slice e)) (hi : P.info? e = some i) (hz : i.zero = some z)
    (hsize : i.size = size) (hby : i.bytes = bytes) (hzs : z.cells.size = size) (hsz : 0 < size)
    (v : Value) (n : Nat) (xs : List Value) (hs : a.eval s = v) (hown : w.ownsRow 0 e size v n xs)
    (xv : Value) (m : Nat) (news : List Value) (hx : a.eval x = xv) (hsrc : Src w xv size m news) (h1 : ∀ u ∈ news, u.oneCell' = true)
    (h63 : n + m ≤ maxLen) (hbytes : (n + m) * bytes ≤ 140737488355328)
    (hK : ∀ v' w', w'.ownsRow 0 e size v' (n + m) (xs ++ news) → w.grownBy w' v.ownBlock → SoN w v v' → K (a.put o.dst v') w') :
    if Region.wanted o (yielded ops a.tmps) = true then Oper.wp P o a w K Q else E := by
  have hw : Region.wanted o (yielded ops a.tmps) = true := by simp [Region.wanted, hg]
  rw [if_pos hw]
  obtain ⟨v', w', hrun, r1, r2, r3⟩ := run_append_src (P := P) w t o.type e i z size bytes ht hi hz hsize hby hzs hsz v n xs hown xv m news hsrc h1 h63 hbytes
  unfold Oper.wp
  simp [execOp, hop, resolve, invoke, builtin, hs, hx, hrun, Result.andThen]
  exact hK v' w' r1 r2 r3

/-- An owned row's value, written out. -/
theorem own_slice {w : World} {base size n : Nat} {e : TypeId} {v : Value} {xs : List Value} (h : w.ownsRow base e size v n xs) : ∃ ao c, v = .slice ao n c := by
  rcases h.2 with ⟨rfl, rfl⟩ | ⟨g, cap, _, rfl, _⟩
  · exact ⟨_, _, rfl⟩
  · exact ⟨_, _, rfl⟩

/-- The slice of one element that the translation lays for append's last argument. -/
theorem src_one (w : World) (x : Value) (E : TypeId) : Src (w.alloc (.cells #[x] E)) (.slice (some ⟨w.heap.size, 0, none⟩) 1 1) 1 1 [x] :=
  ⟨_, _, rfl, Nat.le_refl _, by decide, rfl, by simp, fun b hb j u hj => by
    obtain rfl : b = ⟨w.heap.size, 0, none⟩ := by simpa using hb.symm
    exact cell_one_new _ _ _ j u hj⟩

theorem Src.drew {w : World} {x : Value} {size m : Nat} {news : List Value} (h : Src w x size m news) : Src w.drew x size m news := h

theorem Only.step {a b c : World} {L L' : List Nat} (h : Only a b L) (k : Only b c L') (hL : ∀ i ∈ L', i ∈ L ∨ a.heap.size ≤ i) : Only a c L :=
  ⟨k.os.trans h.os, k.tape.trans h.tape, k.output.trans h.output, Nat.le_trans h.size k.size, fun i hi hn => (k.block i (Nat.lt_of_lt_of_le hi h.size) (fun m => by rcases hL i m with h1 | h1; exact hn h1; omega)).trans (h.block i hi hn)⟩

theorem Only.new {a b c : World} {L : List Nat} (h : Only a b []) (k : Only b c L) (hL : ∀ i ∈ L, a.heap.size ≤ i) : Only a c [] := h.step k fun i hi => .inr (hL i hi)

theorem SoN.toList {w : World} {v v' : Value} (h : SoN w v v') : ∀ i ∈ v'.ownBlock.toList, i ∈ v.ownBlock.toList ∨ w.heap.size ≤ i := by
  intro i hi
  have hi' : v'.ownBlock = some i := by simpa using hi
  rcases h i hi' with h1 | h1
  · exact .inl (by simp [h1])
  · exact .inr h1

theorem SoN.weaken {w w1 : World} {v v' : Value} (h : SoN w1 v v') (hs : w.heap.size ≤ w1.heap.size) : SoN w v v' := fun i hi => by
  rcases h i hi with h1 | h1
  · exact .inl h1
  · exact .inr (Nat.le_trans hs h1)

/-- Behind an append onto the own row v, a block that isn't the row's reads as it did. -/
theorem grown_block {w w' : World} {v : Value} {B : Nat} {o : Obj} (hg : w.grownBy w' v.ownBlock) (h : w.heap[B]? = some o) (hne : v.ownBlock ≠ some B) : w'.heap[B]? = some o :=
  (hg.block B (Array.getElem?_eq_some_iff.1 h).1 (fun e => hne e.symm)).trans h

/-- A block of another element type is not the row's block. -/
theorem own_ne {w : World} {base size n : Nat} {e T : TypeId} {v : Value} {xs : List Value} {B : Nat} {cs : Array Value} {fr : Nat × Nat} (h : w.ownsRow base e size v n xs) (hB : w.heap[B]? = some (.cells cs T fr)) (hT : T ≠ e) : v.ownBlock ≠ some B := by
  rcases h.2 with ⟨rfl, rfl⟩ | ⟨g, cap, cur, rfl, _, hg, _⟩
  · simp [Value.ownBlock]
  · simp only [Value.ownBlock, ne_eq, Option.some.injEq]
    rintro rfl
    rw [hg] at hB
    simp at hB
    exact hT hB.2.1.symm

theorem cell_al {w : World} {a : Addr} {v : Value} (h : w.cell? a = some v) (o : Obj) : (w.alloc o).cell? a = some v :=
  (World.cell?_of_block (w := w) (Below.heap_alloc w o a.block (World.block_lt_of_cell? w a h))).trans h
theorem free_al {w : World} {a : Addr} {v : Value} (h : w.cell? a = some v) (hf : w.frozen? a = false) (o : Obj) : (w.alloc o).frozen? a = false :=
  (World.frozen?_of_block (w := w) (Below.heap_alloc w o a.block (World.block_lt_of_cell? w a h))).trans hf

/-- None of the blocks of L is that of the slice x. -/
def Apart (x : Value) (L : List Nat) : Prop := ∀ k, x.ownBlock = some k → k ∉ L

theorem Src.only {w w' : World} {x : Value} {size m : Nat} {news : List Value} {L : List Nat} (h : Src w x size m news) (ho : Only w w' L) (ha : Apart x L) : Src w' x size m news := by
  obtain ⟨ao, c, rfl, h1, h2, h3, h4, h5⟩ := h
  refine ⟨ao, c, rfl, h1, h2, h3, h4, fun b hb j u hj => ?_⟩
  have hc := h5 b hb j u hj
  have hbk : (b.add j).block = b.block := by unfold Addr.add; split <;> rfl
  refine (World.cell?_of_block (w := w) (ho.block _ (World.block_lt_of_cell? w _ hc) ?_)).trans hc
  rw [hbk]
  exact ha _ (by subst hb; rfl)

/-- The length of a slice value. -/
def slen : Value → Nat
  | .slice _ n _ => n
  | _ => 0

/-- No element of the slice x lies in a block of L. -/
def Off (x : Value) (L : List Nat) : Prop := 0 < slen x → Apart x L

theorem Src.off {w w' : World} {x : Value} {size m : Nat} {news : List Value} {L : List Nat} (h : Src w x size m news) (ho : Only w w' L) (ha : Off x L) : Src w' x size m news := by
  by_cases hm : 0 < slen x
  · exact h.only ho (ha hm)
  · obtain ⟨ao, c, rfl, h1, h2, h3, h4, h5⟩ := h
    have hm : m = 0 := by simpa [slen] using hm
    subst hm
    refine ⟨ao, c, rfl, h1, h2, h3, h4, fun b hb j u hj => ?_⟩
    have : news = [] := List.eq_nil_of_length_eq_zero (by simpa using h3)
    subst this
    simp at hj

/-- The elements of a slice that is read lie in a block that is there. -/
theorem Src.lt {w : World} {x : Value} {size m : Nat} {news : List Value} (h : Src w x size m news) (hs : 0 < size) (hm : 0 < slen x) : ∀ k, x.ownBlock = some k → k < w.heap.size := by
  obtain ⟨ao, c, rfl, h1, h2, h3, h4, h5⟩ := h
  intro k hk
  have hm : 0 < m := hm
  cases ao with
  | none => simp [Value.ownBlock] at hk
  | some a =>
    simp only [Value.ownBlock, Option.some.injEq] at hk
    subst hk
    have hl : 0 < news.length := by rw [h3]; exact Nat.mul_pos hm hs
    have hc := h5 a rfl 0 news[0] (by simp)
    rw [show a.add 0 = a by simp [Addr.add]] at hc
    exact World.block_lt_of_cell? w a hc

theorem Src.off_new {w : World} {x : Value} {size m : Nat} {news : List Value} {L : List Nat} (h : Src w x size m news) (hs : 0 < size) (hL : ∀ k ∈ L, w.heap.size ≤ k) : Off x L := fun hm k hk hkL => by
  have := h.lt hs hm k hk
  have := hL k hkL
  omega

theorem own_src {w : World} {base e size n : Nat} {v : Value} {xs : List Value} (h : w.ownsRow base e size v n xs) : Src w v size n xs := by
  obtain ⟨h0, h1⟩ := h
  rcases h1 with ⟨rfl, rfl⟩ | ⟨g, cap, cur, rfl, hb, hg, h2, h3, h4, h5⟩
  · exact ⟨none, 0, rfl, Nat.le_refl _, Nat.zero_le _, h0, by simp, by simp⟩
  · refine ⟨some ⟨g, 0, none⟩, cap, rfl, h2, h3, h0, by simp, fun b hbb j u hj => ?_⟩
    obtain rfl : b = ⟨g, 0, none⟩ := by simpa using hbb.symm
    exact World.ownsRow.cells (base := base) (e := e) (size := size) (n := n) (v := .slice (some ⟨g, 0, none⟩) n cap) (xs := xs) ⟨h0, .inr ⟨g, cap, cur, rfl, hb, hg, h2, h3, h4, h5⟩⟩ rfl j u hj

theorem own_only {w w' : World} {base e size n : Nat} {v : Value} {xs : List Value} {L : List Nat} (h : w.ownsRow base e size v n xs) (ho : Only w w' L) (ha : Apart v L) : w'.ownsRow base e size v n xs := by
  refine ⟨h.1, ?_⟩
  rcases h.2 with hn | ⟨g, cap, cur, rfl, hb, hgg, rest⟩
  · exact .inl hn
  · exact .inr ⟨g, cap, cur, rfl, hb, (ho.block g (Array.getElem?_eq_some_iff.1 hgg).1 (ha g rfl)).trans hgg, rest⟩

/-- An own row stays while blocks are written that came later. -/
theorem own_new {w w' : World} {base e size n : Nat} {v : Value} {xs : List Value} {L : List Nat} (h : w.ownsRow base e size v n xs) (ho : Only w w' L) (hL : ∀ k ∈ L, w.heap.size ≤ k) : w'.ownsRow base e size v n xs :=
  own_only h ho fun k hk hm => by
    have := (h.lt k hk).2
    have := hL k hm
    omega

/-- An own row of one element or more. -/
theorem own_some {w : World} {base size n c m : Nat} {e : TypeId} {ao : Option Addr} {xs : List Value} (h : w.ownsRow base e size (.slice ao m c) n xs) (hn : 0 < n) : ∃ g, ao = some ⟨g, 0, none⟩ ∧ m = n := by
  rcases h.2 with ⟨_, h0⟩ | ⟨g, cap, _, hv, _⟩
  · omega
  · simp only [Value.slice.injEq] at hv
    exact ⟨g, hv.1, hv.2.1⟩

theorem Only.at {w w' : World} {L : List Nat} {B : Nat} {o : Obj} (ho : Only w w' L) (h : w.heap[B]? = some o) (hn : B ∉ L) : w'.heap[B]? = some o :=
  (ho.block B (Array.getElem?_eq_some_iff.1 h).1 hn).trans h

/-- The blocks that a Writer at B, with the row v, may turn, out of those of an earlier row. -/
theorem own_list {w : World} {B : Nat} {v0 v : Value} (h : SoN w v0 v) : ∀ i ∈ B :: v.ownBlock.toList, i ∈ B :: v0.ownBlock.toList ∨ w.heap.size ≤ i := by
  intro i hi
  rcases List.mem_cons.1 hi with rfl | hi
  · exact .inl (by simp)
  · rcases h.toList i hi with h | h
    · exact .inl (by simp [List.mem_cons, h])
    · exact .inr h

theorem one_ints (k : IntKind) (l : List Int) : ∀ u ∈ l.map (Value.int k), u.oneCell' = true := by
  intro u hu
  obtain ⟨x, _, rfl⟩ := List.mem_map.1 hu
  rfl

theorem src_in {w : World} {ao : Option Addr} {n c : Nat} {xs : List Int} (h : Src w (.slice ao n c) 1 n (xs.map (Value.int .u8))) (hn : xs.length = n) : Lib.BytesIn w ao n xs := by
  obtain ⟨ao', c', he, h1, h2, h3, h4, h5⟩ := h
  simp only [Value.slice.injEq] at he
  obtain ⟨rfl, _, rfl⟩ := he
  cases ao with
  | none => rw [(h4 rfl).1]; exact Lib.BytesIn.nil _ _ _
  | some a =>
    refine Lib.BytesIn.of_cells fun i hi => h5 a rfl i _ ?_
    simp [hn, hi]

/-- 'string(b)'. -/
theorem run_str {P : Program} {w : World} {S E T : TypeId} (hS : P.underlying S = some (.slice E)) (hE : P.underlying E = some (.int .u8)) (hT : P.underlying T = some .string) {ao : Option Addr} {n c : Nat} {xs : List Int} (h : Src w (.slice ao n c) 1 n (xs.map (Value.int .u8))) (hn : xs.length = n) :
    (convert S T (.slice ao n c)).run P w = .ok (.string (strOfNums xs)) w :=
  (src_in h hn).convert hn c S E T hS hE hT

/-- The bytes, as strings, are the same just if they are. -/
theorem str_beq {xs ys : List Int} (hx : ∀ x ∈ xs, 0 ≤ x ∧ x < 256) (hy : ∀ x ∈ ys, 0 ≤ x ∧ x < 256) : ((strOfNums xs).toList == (strOfNums ys).toList) = decide (xs = ys) := by
  have e : ∀ l : List Int, (strOfNums l).toList = l.map fun n => UInt8.ofNat n.toNat := fun l => by rw [Lib.strOfNums_toList]; rfl
  rw [e, e, Bool.eq_iff_iff]
  simp only [beq_iff_eq, decide_eq_true_eq]
  constructor
  · intro h
    have inv : ∀ l : List Int, (∀ x ∈ l, 0 ≤ x ∧ x < 256) → (l.map fun n => UInt8.ofNat n.toNat).map (fun b => (b.toNat : Int)) = l := by
      intro l hl
      rw [List.map_map]
      conv => rhs; rw [← List.map_id l]
      refine List.map_congr_left fun x hx => ?_
      have := hl x hx
      simp only [Function.comp_apply, UInt8.toNat_ofNat', id]
      omega
    rw [← inv xs hx, ← inv ys hy, h]
  · rintro rfl; rfl

theorem cell_in {w : World} {b : Nat} {cs : Array Value} {t : TypeId} {fr : Nat × Nat} (h : w.heap[b]? = some (.cells cs t fr)) (i : Nat) : w.cell? ⟨b, i, none⟩ = cs[i]? := by simp [World.cell?, h]
theorem free_in {w : World} {b : Nat} {cs : Array Value} {t : TypeId} (h : w.heap[b]? = some (.cells cs t (0, 0))) (i : Nat) : w.frozen? ⟨b, i, none⟩ = false := by simp [World.frozen?, h]
theorem Only.cell_in {w w' : World} {b : Nat} {cs : Array Value} {t : TypeId} {fr : Nat × Nat} {L : List Nat} (ho : Only w w' L) (h : w.heap[b]? = some (.cells cs t fr)) (hn : b ∉ L) (i : Nat) : w'.cell? ⟨b, i, none⟩ = cs[i]? := Pw.cell_in (ho.at h hn) i
theorem set_at {w : World} {b i : Nat} {cs : Array Value} {t : TypeId} {fr : Nat × Nat} (h : w.heap[b]? = some (.cells cs t fr)) (u : Value) : (w.setCell ⟨b, i, none⟩ u).heap[b]? = some (.cells (cs.setIfInBounds i u) t fr) := by
  have hlt := lt_of_block h
  have h' : w.heap[b] = .cells cs t fr := by simpa [Array.getElem?_eq_getElem hlt] using h
  show (w.heap.modify b _)[b]? = _
  rw [Array.getElem?_eq_getElem (by simpa using hlt), Array.getElem_modify_self, h']
  rfl
/-- A new block, its world under a name. -/
theorem new_block (w : World) (o : Obj) : ∃ W X, W = w.alloc o ∧ X = w.heap.size ∧ W.heap[X]? = some o ∧ Only w W [] ∧ w.heap.size ≤ X ∧ X < W.heap.size :=
  ⟨_, _, rfl, rfl, heap_alloc_new w o, Only.alloc w o [], Nat.le_refl _, by simp⟩

/-- A Writer: block B holds its one field, the slice v, which owns the bytes xs. -/
def IsW (T E : TypeId) (B : Nat) (v : Value) (xs : List Int) (w : World) : Prop :=
  w.heap[B]? = some (.cells #[v] T (0, 0)) ∧ w.ownsRow 0 E 1 v xs.length (xs.map (Value.int .u8))

/-- What 'w.p = append(w.p, ..)' does: w1 is the world in which append is run, w' the one behind it. -/
theorem isw_step {T E : TypeId} {B : Nat} {v v' : Value} {ys news : List Int} {wr w1 w' : World} (hTE : T ≠ E) (hw : IsW T E B v ys wr) (h01 : Only wr w1 [])
    (hown : w'.ownsRow 0 E 1 v' (ys.length + news.length) (ys.map (Value.int .u8) ++ news.map (Value.int .u8))) (hg : w1.grownBy w' v.ownBlock) (hs : SoN w1 v v') :
    IsW T E B v' (ys ++ news) (w'.setCell ⟨B, 0, none⟩ v') ∧ SoN wr v v' ∧ Only wr (w'.setCell ⟨B, 0, none⟩ v') (B :: v.ownBlock.toList) := by
  obtain ⟨hB, ho⟩ := hw
  have hlt := (Array.getElem?_eq_some_iff.1 hB).1
  have hne := own_ne ho hB hTE
  have hB1 : w1.heap[B]? = some (.cells #[v] T (0, 0)) := (h01.block B hlt (by simp)).trans hB
  have hB' := grown_block hg hB1 hne
  have hne' := own_ne hown hB' hTE
  refine ⟨⟨one_setCell hB', ?_⟩, hs.weaken h01.size, ?_⟩
  · rw [List.length_append, List.map_append]
    exact ownsRow_setCell_other hown (by simpa using hne') _
  · refine Only.step (Only.step (h01.mono (by simp)) (Only.grown (L := v.ownBlock.toList) hg (fun k hk => by simp [hk])) (fun i hi => .inl (by simp [hi]))) (Only.setCell _ _ _ [B] (by simp)) (fun i hi => .inl (by simp_all))

theorem IsW.slice {T E : TypeId} {B : Nat} {v : Value} {xs : List Int} {w : World} (h : IsW T E B v xs w) : ∃ ao c, v = .slice ao xs.length c := by
  rcases h.2.2 with ⟨rfl, h0⟩ | ⟨g, cap, _, rfl, _⟩
  · exact ⟨none, 0, by rw [h0]⟩
  · exact ⟨_, _, rfl⟩

end Go.Pw

/- Resources: what the call's own blocks hold, and that they are apart. No program. -/
namespace Go.Pw
open Go.RowKit
set_option linter.unusedVariables false

theorem Only.drewN (w : World) (n : Nat) (L : List Nat) : Only w (w.drewN n) L := ⟨rfl, rfl, rfl, Nat.le_refl _, fun _ _ _ => rfl⟩

/-- A resource: its blocks, and what they hold. -/
structure Res where
  fp : List Nat
  ok : World → Prop
  loc : ∀ w w', (∀ k ∈ fp, w'.heap[k]? = w.heap[k]?) → ok w → ok w'
  lt : ∀ w, ok w → ∀ k ∈ fp, k < w.heap.size

/-- Since w0 nothing that was there has turned; beyond it these resources, apart from one another. -/
structure Sep (w0 w : World) (rs : List Res) : Prop where
  only : Only w0 w []
  ok : ∀ r ∈ rs, r.ok w
  new : ∀ r ∈ rs, ∀ k ∈ r.fp, w0.heap.size ≤ k
  apart : rs.Pairwise fun a b => ∀ k ∈ a.fp, k ∉ b.fp

theorem Res.only {r : Res} {w w' : World} {L : List Nat} (h : r.ok w) (ho : Only w w' L) (hd : ∀ k ∈ r.fp, k ∉ L) : r.ok w' :=
  r.loc w w' (fun k hk => ho.block k (r.lt w h k hk) (hd k hk)) h

theorem Sep.nil (w : World) : Sep w w [] := ⟨Only.refl _ _, by simp, by simp, List.Pairwise.nil⟩

theorem Sep.perm {w0 w : World} {rs rs' : List Res} (h : Sep w0 w rs) (hp : rs.Perm rs') : Sep w0 w rs' :=
  ⟨h.only, fun r hr => h.ok r (hp.mem_iff.2 hr), fun r hr => h.new r (hp.mem_iff.2 hr), h.apart.perm hp (fun hab k hb ha => hab k ha hb)⟩

theorem Sep.head {w0 w : World} {r : Res} {rs : List Res} (h : Sep w0 w (r :: rs)) : r.ok w := h.ok r (by simp)
theorem Sep.tail {w0 w : World} {r : Res} {rs : List Res} (h : Sep w0 w (r :: rs)) : Sep w0 w rs :=
  ⟨h.only, fun x hx => h.ok x (by simp [hx]), fun x hx => h.new x (by simp [hx]), (List.pairwise_cons.1 h.apart).2⟩
theorem Sep.get {w0 w : World} {rs : List Res} (h : Sep w0 w rs) (i : Nat) {r : Res} (hr : rs[i]? = some r) : r.ok w := h.ok r (List.mem_of_getElem? hr)
theorem up_perm {α : Type} : ∀ (l : List α) (i : Nat) (h : i < l.length), l.Perm (l[i] :: l.eraseIdx i)
  | a :: l, 0, _ => List.Perm.refl _
  | a :: l, i + 1, h => by
    have := up_perm l i (by simpa using h)
    exact (this.cons a).trans (List.Perm.swap _ _ _)
/-- The i-th to the head. -/
theorem Sep.up {w0 w : World} {rs : List Res} (h : Sep w0 w rs) (i : Nat) (hi : i < rs.length) : Sep w0 w (rs[i] :: rs.eraseIdx i) :=
  h.perm (up_perm rs i hi)

/-- One resource's blocks are written, and new ones: what it is behind that. -/
theorem Sep.step {w0 w w' : World} {a b : Res} {rs : List Res} {L : List Nat} (h : Sep w0 w (a :: rs)) (ho : Only w w' L) (hL : ∀ k ∈ L, k ∈ a.fp ∨ w.heap.size ≤ k) (hb : b.ok w') (hf : ∀ k ∈ b.fp, k ∈ a.fp ∨ w.heap.size ≤ k) : Sep w0 w' (b :: rs) := by
  have ha : ∀ k ∈ a.fp, w0.heap.size ≤ k := h.new a (by simp)
  have hp := List.pairwise_cons.1 h.apart
  refine ⟨h.only.new ho fun k hk => ?_, fun r hr => ?_, fun r hr => ?_, List.pairwise_cons.2 ⟨fun r hr k hk hkr => ?_, hp.2⟩⟩
  · rcases hL k hk with h1 | h1
    · exact ha k h1
    · have := h.only.size; omega
  · rcases List.mem_cons.1 hr with rfl | hr
    · exact hb
    · have hk := h.ok r (by simp [hr])
      refine Res.only hk ho fun k h1 h2 => ?_
      rcases hL k h2 with h3 | h3
      · exact hp.1 r hr k h3 h1
      · have := r.lt w hk k h1; omega
  · rcases List.mem_cons.1 hr with rfl | hr
    · intro k hk
      rcases hf k hk with h1 | h1
      · exact ha k h1
      · have := h.only.size; omega
    · exact h.new r (by simp [hr])
  · rcases hf k hk with h1 | h1
    · exact hp.1 r hr k h1 hkr
    · have := r.lt w (h.ok r (by simp [hr])) k hkr; omega

/-- Nothing is written. -/
theorem Sep.quiet {w0 w w' : World} {rs : List Res} (h : Sep w0 w rs) (ho : Only w w' []) : Sep w0 w' rs :=
  ⟨h.only.trans ho, fun r hr => Res.only (h.ok r hr) ho (by simp), h.new, h.apart⟩

/-- A new resource. -/
theorem Sep.add {w0 w w' : World} {b : Res} {rs : List Res} (h : Sep w0 w rs) (ho : Only w w' []) (hb : b.ok w') (hf : ∀ k ∈ b.fp, w.heap.size ≤ k) : Sep w0 w' (b :: rs) :=
  ⟨h.only.trans ho, fun r hr => by rcases List.mem_cons.1 hr with rfl | hr; exact hb; exact Res.only (h.ok r hr) ho (by simp),
   fun r hr => by rcases List.mem_cons.1 hr with rfl | hr; exact fun k hk => Nat.le_trans h.only.size (hf k hk); exact h.new r hr,
   List.pairwise_cons.2 ⟨fun r hr k hk hkr => by have := r.lt w (h.ok r hr) k hkr; have := hf k hk; omega, h.apart⟩⟩

/-- What was there at the beginning reads as it did. -/
theorem Sep.src {w0 w : World} {rs : List Res} (h : Sep w0 w rs) {x : Value} {size m : Nat} {news : List Value} (hs : Src w0 x size m news) : Src w x size m news := hs.off h.only (fun _ _ _ => by simp)

/-- A block known whole. -/
def blk (B : Nat) (cs : List Value) (T : TypeId) : Res where
  fp := [B]
  ok w := w.heap[B]? = some (.cells cs.toArray T (0, 0))
  loc w w' h k := (h B (by simp)).trans k
  lt w h k hk := by obtain rfl : k = B := by simpa using hk
                    exact (Array.getElem?_eq_some_iff.1 h).1
/-- A row of the call's own. -/
def row (e size : Nat) (v : Value) (n : Nat) (xs : List Value) : Res where
  fp := v.ownBlock.toList
  ok w := w.ownsRow 0 e size v n xs
  loc w w' h k := ⟨k.1, by
    rcases k.2 with hn | ⟨g, cap, cur, rfl, hb, hg, rest⟩
    · exact .inl hn
    · exact .inr ⟨g, cap, cur, rfl, hb, (h g (by simp [Value.ownBlock])).trans hg, rest⟩⟩
  lt w h k hk := (h.lt k (by simpa using hk)).2
/-- Two resources as one. -/
def two (a b : Res) : Res where
  fp := a.fp ++ b.fp
  ok w := a.ok w ∧ b.ok w ∧ ∀ k ∈ a.fp, k ∉ b.fp
  loc w w' h k := ⟨a.loc w w' (fun i hi => h i (by simp [hi])) k.1, b.loc w w' (fun i hi => h i (by simp [hi])) k.2.1, k.2.2⟩
  lt w h k hk := by
    rcases List.mem_append.1 hk with hk | hk
    · exact a.lt w h.1 k hk
    · exact b.lt w h.2.1 k hk
/-- Many. -/
def many (l : List Res) : Res where
  fp := l.flatMap Res.fp
  ok w := (∀ r ∈ l, r.ok w) ∧ l.Pairwise fun (a b : Res) => ∀ k ∈ a.fp, k ∉ b.fp
  loc w w' h k := ⟨fun r hr => r.loc w w' (fun i hi => h i (List.mem_flatMap.2 ⟨r, hr, hi⟩)) (k.1 r hr), k.2⟩
  lt w h k hk := by
    obtain ⟨r, hr, hk⟩ := List.mem_flatMap.1 hk
    exact r.lt w (h.1 r hr) k hk

theorem Sep.join {w0 w : World} {a b : Res} {rs : List Res} (h : Sep w0 w (a :: b :: rs)) : Sep w0 w (two a b :: rs) := by
  have hp := List.pairwise_cons.1 h.apart
  have hq := List.pairwise_cons.1 hp.2
  refine ⟨h.only, fun r hr => ?_, fun r hr k hk => ?_, List.pairwise_cons.2 ⟨fun r hr k hk => ?_, hq.2⟩⟩
  · rcases List.mem_cons.1 hr with rfl | hr
    · exact ⟨h.ok a (by simp), h.ok b (by simp), hp.1 b (by simp)⟩
    · exact h.ok r (by simp [hr])
  · rcases List.mem_cons.1 hr with rfl | hr
    · rcases List.mem_append.1 hk with hk | hk
      · exact h.new a (by simp) k hk
      · exact h.new b (by simp) k hk
    · exact h.new r (by simp [hr]) k hk
  · rcases List.mem_append.1 hk with hk | hk
    · exact hp.1 r (by simp [hr]) k hk
    · exact hq.1 r hr k hk
theorem Sep.split {w0 w : World} {a b : Res} {rs : List Res} (h : Sep w0 w (two a b :: rs)) : Sep w0 w (a :: b :: rs) := by
  have hp := List.pairwise_cons.1 h.apart
  have ht : (two a b).ok w := h.head
  refine ⟨h.only, fun r hr => ?_, fun r hr k hk => ?_, List.pairwise_cons.2 ⟨fun r hr k hk => ?_, List.pairwise_cons.2 ⟨fun r hr k hk => ?_, hp.2⟩⟩⟩
  · rcases List.mem_cons.1 hr with rfl | hr
    · exact ht.1
    · rcases List.mem_cons.1 hr with rfl | hr
      · exact ht.2.1
      · exact h.ok r (by simp [hr])
  · rcases List.mem_cons.1 hr with rfl | hr
    · exact h.new (two r b) (by simp) k (List.mem_append.2 (.inl hk))
    · rcases List.mem_cons.1 hr with rfl | hr
      · exact h.new (two a r) (by simp) k (List.mem_append.2 (.inr hk))
      · exact h.new r (by simp [hr]) k hk
  · rcases List.mem_cons.1 hr with rfl | hr
    · exact ht.2.2 k hk
    · exact hp.1 r hr k (List.mem_append.2 (.inl hk))
  · exact hp.1 r hr k (List.mem_append.2 (.inr hk))

theorem many_ok {l : List Res} {w : World} (h : (many l).ok w) {r : Res} (hr : r ∈ l) : r.ok w := h.1 r hr
theorem Sep.many_nil {w0 w : World} {rs : List Res} (h : Sep w0 w rs) : Sep w0 w (many [] :: rs) :=
  h.add (Only.refl _ _) ⟨by simp, List.Pairwise.nil⟩ (fun k hk => by simp [many] at hk)
theorem Sep.many_snoc {w0 w : World} {l : List Res} {a : Res} {rs : List Res} (h : Sep w0 w (many l :: a :: rs)) : Sep w0 w (many (l ++ [a]) :: rs) := by
  have hp := List.pairwise_cons.1 h.apart
  have hq := List.pairwise_cons.1 hp.2
  have hm : (many l).ok w := h.head
  refine ⟨h.only, fun r hr => ?_, fun r hr k hk => ?_, List.pairwise_cons.2 ⟨fun r hr k hk => ?_, hq.2⟩⟩
  · rcases List.mem_cons.1 hr with rfl | hr
    · refine ⟨fun r hr => ?_, List.pairwise_append.2 ⟨hm.2, List.pairwise_singleton _ _, fun x hx y hy k hk => ?_⟩⟩
      · rcases List.mem_append.1 hr with hr | hr
        · exact hm.1 r hr
        · obtain rfl : r = a := by simpa using hr
          exact h.ok r (by simp)
      · obtain rfl : y = a := by simpa using hy
        exact hp.1 y (by simp) k (List.mem_flatMap.2 ⟨x, hx, hk⟩)
    · exact h.ok r (by simp [hr])
  · rcases List.mem_cons.1 hr with rfl | hr
    · have hk' : k ∈ (l ++ [a]).flatMap Res.fp := hk
      rw [List.flatMap_append, List.mem_append] at hk'
      rcases hk' with hk | hk
      · exact h.new (many l) (by simp) k hk
      · exact h.new a (by simp) k (by simpa using hk)
    · exact h.new r (by simp [hr]) k hk
  · have hk' : k ∈ (l ++ [a]).flatMap Res.fp := hk
    rw [List.flatMap_append, List.mem_append] at hk'
    rcases hk' with hk | hk
    · exact hp.1 r (by simp [hr]) k hk
    · exact hq.1 r hr k (by simpa using hk)
/-- Of many resources some are left: what a list's parts are. -/
theorem many_sub {l l' : List Res} {w : World} (h : (many l).ok w) (hs : l'.Sublist l) : (many l').ok w :=
  ⟨fun r hr => h.1 r (hs.subset hr), h.2.sublist hs⟩
theorem many_fp_sub {l l' : List Res} (hs : l'.Sublist l) : ∀ k ∈ (many l').fp, k ∈ (many l).fp := fun k hk => by
  obtain ⟨r, hr, hk⟩ := List.mem_flatMap.1 hk
  exact List.mem_flatMap.2 ⟨r, hs.subset hr, hk⟩

/-- The elements that the translation lays for append's last argument. -/
theorem src_lit (w : World) (cs : List Value) (E : TypeId) (m size : Nat) (h : cs.length = m * size) (hm : m ≤ maxLen := by decide) : Src (w.alloc (.cells cs.toArray E)) (.slice (some ⟨w.heap.size, 0, none⟩) m m) size m cs :=
  ⟨_, _, rfl, Nat.le_refl _, hm, h, by simp, fun b hb j u hj => by
    obtain rfl : b = ⟨w.heap.size, 0, none⟩ := by simpa using hb.symm
    rw [Addr.add_lit, Pw.cell_in (heap_alloc_new w _)]
    simpa using hj⟩
theorem src_litF (w : World) (cs : List Value) (E : TypeId) (fr : Nat × Nat) (m size : Nat) (h : cs.length = m * size) (hm : m ≤ maxLen := by decide) : Src (w.alloc (.cells cs.toArray E fr)) (.slice (some ⟨w.heap.size, 0, none⟩) m m) size m cs :=
  ⟨_, _, rfl, Nat.le_refl _, hm, h, by simp, fun b hb j u hj => by
    obtain rfl : b = ⟨w.heap.size, 0, none⟩ := by simpa using hb.symm
    rw [Addr.add_lit, Pw.cell_in (heap_alloc_new w _)]
    simpa using hj⟩
theorem cell_two0 {w : World} {b : Nat} {u v : Value} {t : TypeId} (h : w.heap[b]? = some (.cells #[u, v] t (0, 0))) : w.cell? ⟨b, 0, none⟩ = some u := by simp [World.cell?, h]
theorem cell_two1 {w : World} {b : Nat} {u v : Value} {t : TypeId} (h : w.heap[b]? = some (.cells #[u, v] t (0, 0))) : w.cell? ⟨b, 1, none⟩ = some v := by simp [World.cell?, h]
theorem free_two {w : World} {b : Nat} {u v : Value} {t : TypeId} (h : w.heap[b]? = some (.cells #[u, v] t (0, 0))) (i : Nat) : w.frozen? ⟨b, i, none⟩ = false := by simp [World.frozen?, h]

/-- An element of a slice that is read. -/
theorem src_at {w : World} {ao : Option Addr} {n c : Nat} {cs : List Value} (h : Src w (.slice ao n c) 1 n cs) {k : Nat} (hk : k < n) : ∃ b o, ao = some ⟨b, o, none⟩ ∧ ∀ j u, cs[j]? = some u → w.cell? ⟨b, o + j, none⟩ = some u := by
  obtain ⟨ao', c', he, hc1, hc2, hc3, hc4, hc5⟩ := h
  simp only [Value.slice.injEq] at he
  obtain ⟨rfl, _, rfl⟩ := he
  cases ao with
  | none => have := (hc4 rfl).1; omega
  | some ad =>
    obtain ⟨b, o, sp⟩ := ad
    have hl : 0 < cs.length := by rw [hc3]; omega
    have hcz := hc5 _ rfl 0 cs[0] (by simp)
    have hsp : sp = none := by simpa [Addr.add] using World.cell?_spot hcz
    subst hsp
    exact ⟨b, o, rfl, fun j u hj => by have := hc5 _ rfl j u hj; rwa [Addr.add_lit] at this⟩
theorem src_new {w : World} {ao : Option Addr} {n c : Nat} {cs : List Value} (h : Src w (.slice ao n c) 1 n cs) {k : Nat} (hk : k < n) : ∃ b o, ao = some ⟨b, o, none⟩ ∧ ∀ w', Only w w' [] → ∀ j u, cs[j]? = some u → w'.cell? ⟨b, o + j, none⟩ = some u := by
  obtain ⟨b, o, rfl, _⟩ := src_at h hk
  refine ⟨b, o, rfl, fun w' ho j u hj => ?_⟩
  obtain ⟨b', o', e, hc⟩ := src_at (h.off ho (fun _ _ _ => by simp)) hk
  cases e
  exact hc j u hj
/-- An append whose run is known. -/
theorem wpList_append_run {P : Program} {w : World} {ops : Array Oper} {rest : List Oper} {o : Oper} {a : Act} {Q : Exit → Act → World → Prop} (hgd : o.guard = none) (s x : Operand) (t : TypeId)
    (ho : o.op = .call { callee := .builtin .append, args := #[s, x], argTypes := #[t, t] }) (v xv : Value) (hs : a.eval s = v) (hx : a.eval x = xv) {v' : Value} {w' : World}
    (hrun : (Builtin.append_ #[t, t] o.type #[v, xv]).run P w = .ok v' w') (h : wpList P ops Q rest (a.put o.dst v') w') : wpList P ops Q (o :: rest) a w :=
  wpList_plain hgd fun _ hK => by
    unfold Oper.wp
    simp [execOp, ho, resolve, invoke, builtin, hs, hx, hrun, Result.andThen]
    exact hK _ _ h
/-- A new block. -/
theorem Sep.box {w0 w : World} {rs : List Res} (h : Sep w0 w rs) (cs : List Value) (T : TypeId) : Sep w0 (w.alloc (.cells cs.toArray T)) (blk w.heap.size cs T :: rs) :=
  h.add (Only.alloc _ _ _) (heap_alloc_new w _) (fun k hk => by simp [blk] at hk; omega)
/-- A cell of a block is written. -/
theorem Sep.put {w0 w : World} {rs : List Res} {B : Nat} {cs : List Value} {T : TypeId} (h : Sep w0 w (blk B cs T :: rs)) (i : Nat) (u : Value) : Sep w0 (w.setCell ⟨B, i, none⟩ u) (blk B (cs.set i u) T :: rs) :=
  h.step (L := [B]) (Only.setCell _ _ _ _ (by simp)) (fun k hk => .inl hk) (by
    have := set_at (i := i) (show w.heap[B]? = _ from h.head) u
    simpa [blk] using this) (fun k hk => .inl hk)
/-- Something is appended to a row. -/
theorem Sep.app {w0 w w' : World} {rs : List Res} {e size n m : Nat} {v v' : Value} {xs news : List Value} (h : Sep w0 w (row e size v n xs :: rs)) (h1 : w'.ownsRow 0 e size v' (n + m) (xs ++ news)) (h2 : w.grownBy w' v.ownBlock) (h3 : SoN w v v') : Sep w0 w' (row e size v' (n + m) (xs ++ news) :: rs) :=
  h.step (L := v.ownBlock.toList) (Only.grown h2 (fun k hk => by simp [hk])) (fun k hk => .inl hk) h1 (fun k hk => h3.toList k hk)
/-- A new row. -/
theorem Sep.row0 {w0 w w' : World} {rs : List Res} {e size n : Nat} {v : Value} {xs : List Value} (h : Sep w0 w rs) (h1 : w'.ownsRow 0 e size v n xs) (h3 : SoN w (.slice none 0 0) v) (h2 : Only w w' []) : Sep w0 w' (row e size v n xs :: rs) :=
  h.add h2 h1 (fun k hk => by
    rcases h3.toList k hk with h | h
    · simp [Value.ownBlock] at h
    · exact h)
theorem Sep.rown {w0 w : World} {rs : List Res} (h : Sep w0 w rs) (e size : Nat) : Sep w0 w (row e size (.slice none 0 0) 0 [] :: rs) :=
  h.add (Only.refl _ _) (World.ownsRow_nil _ _ _ _) (fun k hk => by simp [row, Value.ownBlock] at hk)
end Go.Pw

/- A region that draws its order, driven by hand, one operation at a time: the condition on the world may be made narrower behind a call. No program. -/
namespace Go.Pw
open Go.RowKit
set_option linter.unusedVariables false

variable {P : Program} {ops : Array Oper} {Q : Exit → Act → World → Prop} {md : Region.Mode} {S S' : World → Prop}

/-- What is shown under a narrower condition holds under the wider one. -/
theorem wpAnyH_more (h : ∀ w, S' w → S w) : ∀ (fuel : Nat) (listed : Array Bool) (a : Act) (w : World), wpAnyH P md ops Q S' fuel listed a w → wpAnyH P md ops Q S fuel listed a w
  | 0, _, _, _, hh => hh
  | fuel + 1, _, _, _, hh => ⟨hh.1, fun i hi => wpOp_mono (fun a' w' h' => ⟨h w' h'.1, wpAnyH_more h fuel _ a' w' h'.2⟩) (hh.2 i hi)⟩

/-- The operation that stands at a place. -/
theorem op_at {l : List Oper} {i : Nat} {oi : Oper} {rest : List Oper} (h : l.drop i = oi :: rest) : l.toArray[i]? = some oi := by
  rw [List.getElem?_toArray, ← List.head?_drop, h]
  rfl
/-- A block of cells, as a range. -/
theorem range_of {w : World} {b : Nat} {l : List Value} {t : TypeId} {fr : Nat × Nat} (h : w.heap[b]? = some (.cells l.toArray t fr)) : w.rangeAt b 0 l := fun j v hv => by
  rw [cell_in h, Nat.zero_add]
  simpa using hv
end Go.Pw

/- Rows of records of so many cells each: reading one, writing one, clearing some, cutting. No program. -/
namespace Go.Pw
open Go.RowKit
set_option linter.unusedVariables false

section
variable {α : Type} {enc : α → List Value} {k : Nat}

def fl (enc : α → List Value) (l : List α) : List Value := l.flatMap enc

theorem fl_nil : fl enc [] = [] := rfl
theorem fl_cons (x : α) (l : List α) : fl enc (x :: l) = enc x ++ fl enc l := rfl
theorem fl_app (l m : List α) : fl enc (l ++ m) = fl enc l ++ fl enc m := by simp [fl]
theorem fl_snoc (l : List α) (x : α) : fl enc (l ++ [x]) = fl enc l ++ enc x := by simp [fl]
theorem fl_len (hk : ∀ x, (enc x).length = k) (l : List α) : (fl enc l).length = l.length * k := by
  induction l with
  | nil => simp [fl]
  | cons x l ih => rw [fl_cons, List.length_append, ih, hk, List.length_cons, Nat.add_mul]; omega
theorem fl_drop (hk : ∀ x, (enc x).length = k) (l : List α) : ∀ i, (fl enc l).drop (i * k) = fl enc (l.drop i) := by
  induction l with
  | nil => intro i; simp [fl]
  | cons x l ih =>
    intro i
    cases i with
    | zero => simp
    | succ i =>
      rw [List.drop_succ_cons, ← ih i, fl_cons, Nat.add_mul, Nat.one_mul, Nat.add_comm (i * k) k, ← List.drop_drop, List.drop_append_of_le_length (l₁ := enc x) (by rw [hk]; exact Nat.le_refl _), List.drop_of_length_le (l := enc x) (by rw [hk]; exact Nat.le_refl _), List.nil_append]
theorem fl_take (hk : ∀ x, (enc x).length = k) (l : List α) : ∀ i, (fl enc l).take (i * k) = fl enc (l.take i) := by
  induction l with
  | nil => intro i; simp [fl]
  | cons x l ih =>
    intro i
    cases i with
    | zero => simp [fl]
    | succ i =>
      rw [List.take_succ_cons, fl_cons, fl_cons, ← ih i, Nat.add_mul, Nat.one_mul, Nat.add_comm (i * k) k]
      have := List.take_length_add_append (l₁ := enc x) (l₂ := fl enc l) (i := i * k)
      rwa [hk] at this
theorem fl_at (hk : ∀ x, (enc x).length = k) {l : List α} {i j : Nat} (hi : i < l.length) (hj : j < k) : (fl enc l)[i * k + j]? = (enc l[i])[j]? := by
  have h := fl_drop hk l i
  rw [List.drop_eq_getElem_cons hi, fl_cons] at h
  have := congrArg (fun x => x[j]?) h
  simp only [List.getElem?_drop] at this
  rw [this, List.getElem?_append_left (by rw [hk]; exact hj)]
theorem fl_one (h1 : ∀ x, ∀ u ∈ enc x, u.oneCell' = true) (l : List α) : ∀ u ∈ fl enc l, u.oneCell' = true := fun u hu => by
  obtain ⟨x, _, hx⟩ := List.mem_flatMap.1 hu
  exact h1 x u hx

/-- So many values from a place on are others. -/
def setL (xs : List Value) : Nat → List Value → List Value
  | _, [] => xs
  | o, v :: r => setL (xs.set o v) (o + 1) r
theorem setL_app (xs pre : List Value) : ∀ vs suf, vs.length = xs.length → setL (pre ++ xs ++ suf) pre.length vs = pre ++ vs ++ suf := by
  induction xs generalizing pre with
  | nil => intro vs suf h; obtain rfl : vs = [] := List.eq_nil_of_length_eq_zero (by simpa using h); simp [setL]
  | cons x xs ih =>
    intro vs suf h
    cases vs with
    | nil => simp at h
    | cons v r =>
      have := ih (pre ++ [v]) r suf (by simpa using h)
      simp only [setL]
      rw [show (pre ++ x :: xs ++ suf).set pre.length v = pre ++ [v] ++ xs ++ suf by simp [List.set_append]]
      rw [List.length_append, List.length_singleton] at this
      rw [this]
      simp
theorem fl_set (hk : ∀ x, (enc x).length = k) {l : List α} {i : Nat} (hi : i < l.length) (x : α) : setL (fl enc l) (i * k) (enc x) = fl enc (l.set i x) := by
  have e1 : fl enc l = fl enc (l.take i) ++ enc l[i] ++ fl enc (l.drop (i + 1)) := by
    conv => lhs; rw [← List.take_append_drop i l, List.drop_eq_getElem_cons hi]
    rw [fl_app, fl_cons, List.append_assoc]
  have e2 : fl enc (l.set i x) = fl enc (l.take i) ++ enc x ++ fl enc (l.drop (i + 1)) := by
    rw [List.set_eq_take_append_cons_drop, if_pos hi, fl_app, fl_cons, List.append_assoc]
  have e3 : i * k = (fl enc (l.take i)).length := by rw [fl_len hk, List.length_take, Nat.min_eq_left (by omega)]
  rw [e1, e2, e3]
  exact setL_app _ _ _ _ (by rw [hk, hk])
end

theorem setL_take : ∀ (vs xs : List Value) (o i : Nat), i ≤ o → (setL xs o vs).take i = xs.take i
  | [], _, _, _, _ => rfl
  | v :: r, xs, o, i, h => by
    rw [setL, setL_take r _ _ _ (by omega), List.take_set_of_le h]
theorem setL_length : ∀ (vs xs : List Value) (o : Nat), (setL xs o vs).length = xs.length
  | [], _, _ => rfl
  | v :: r, xs, o => by rw [setL, setL_length r, List.length_set]
theorem row_setCells {w : World} {e size g n cap : Nat} : ∀ (vs : List Value) (o : Nat) (w : World) (xs : List Value), w.ownsRow 0 e size (.slice (some ⟨g, 0, none⟩) n cap) n xs → (w.setCells g o vs).ownsRow 0 e size (.slice (some ⟨g, 0, none⟩) n cap) n (setL xs o vs)
  | [], _, _, _, h => h
  | v :: r, o, w, xs, h => row_setCells (w := w) r (o + 1) _ _ (h.stored o v).1
theorem only_setCells {g : Nat} : ∀ (vs : List Value) (o : Nat) (w : World), Only w (w.setCells g o vs) [g]
  | [], _, w => Only.refl _ _
  | v :: r, o, w => (Only.setCell w ⟨g, o, none⟩ v [g] (by simp)).trans (only_setCells r (o + 1) _)
/-- Cells of a row are written. -/
theorem Sep.puts {w0 w : World} {rs : List Res} {e size g n cap : Nat} {xs : List Value} (h : Sep w0 w (row e size (.slice (some ⟨g, 0, none⟩) n cap) n xs :: rs)) (o : Nat) (vs : List Value) : Sep w0 (w.setCells g o vs) (row e size (.slice (some ⟨g, 0, none⟩) n cap) n (setL xs o vs) :: rs) :=
  h.step (L := [g]) (only_setCells vs o w) (fun k hk => .inl (by simpa [row, Value.ownBlock] using hk)) (row_setCells (w := w) vs o w xs h.head) (fun k hk => .inl hk)
/-- The head of a row. -/
theorem row_head {w : World} {e size g n cap i : Nat} {xs : List Value} (h : w.ownsRow 0 e size (.slice (some ⟨g, 0, none⟩) n cap) n xs) (hi : i ≤ n) : w.ownsRow 0 e size (.slice (some ⟨g, 0, none⟩) i cap) i (xs.take (i * size)) := by
  have hle : i * size ≤ n * size := Nat.mul_le_mul_right _ hi
  rcases h.2 with ⟨h', _⟩ | ⟨g', cap', cur, h', hb, hg, hnc, hcm, hcs, htake⟩
  · simp at h'
  · simp only [Value.slice.injEq, Option.some.injEq, Addr.mk.injEq, and_true, true_and] at h'
    obtain ⟨rfl, rfl⟩ := h'
    refine ⟨by rw [List.length_take, h.1, Nat.min_eq_left hle], .inr ⟨g, cap, cur, rfl, hb, hg, by omega, hcm, hcs, ?_⟩⟩
    rw [← htake, List.take_take, Nat.min_eq_left hle]
/-- A row may be written. -/
theorem row_there {w : World} {e size g n cap : Nat} {xs : List Value} (h : w.ownsRow 0 e size (.slice (some ⟨g, 0, none⟩) n cap) n xs) (o m : Nat) (hm : o + m ≤ n * size) : w.there g o m := fun j hj => ⟨by
  rw [h.cellAt (o + j) (by omega), List.getElem?_eq_getElem (by rw [h.1]; omega)]; rfl, h.frozenAt _⟩
/-- A row may be read. -/
theorem row_range {w : World} {e size g n cap : Nat} {xs : List Value} (h : w.ownsRow 0 e size (.slice (some ⟨g, 0, none⟩) n cap) n xs) (o m : Nat) (vs : List Value) (hv : ∀ j, j < vs.length → xs[o + j]? = vs[j]?) (hm : o + vs.length ≤ n * size) : w.rangeAt g o vs := fun j v hj => by
  have hl := (List.getElem?_eq_some_iff.1 hj).1
  rw [h.cellAt (o + j) (by omega), hv j hl, hj]

/-- 'clear(s)', s a slice of n > 0 records. -/
theorem run_clear_recs {P : Program} (w : World) (t e ty : TypeId) (z : Value) (k : Nat) (ht : P.underlying t = some (.slice e)) (hv : ∀ w, (zeroValue e).run P w = .ok z w) (hz : z.cells.size = k) (h1 : ∀ u ∈ z.cells.toList, u.oneCell' = true) (b o n c : Nat) (hn : 0 < n) (hk : 0 < k)
    (hc : w.there b o (n * k)) :
    ∃ vs, vs.length = n * k ∧ (Builtin.clear_ #[t] ty #[.slice (some ⟨b, o, none⟩) n c]).run P w = .ok (.tuple #[]) (w.setCells b o vs) := by
  refine ⟨(Builtin.zeroCells z.cells n).toList, by rw [Array.length_toList, size_zeroCells, hz], ?_⟩
  have hone : ∀ u ∈ (Builtin.zeroCells z.cells n).toList, u.oneCell' = true := by
    intro u hu
    simp only [Builtin.zeroCells, Array.toList_map, Array.toList_range, List.mem_map, List.mem_range] at hu
    obtain ⟨i, hi, rfl⟩ := hu
    have hlt : i % z.cells.size < z.cells.size := Nat.mod_lt _ (by omega)
    rw [getElem!_pos z.cells _ hlt]
    exact h1 _ (by simp)
  have hl : (Builtin.zeroCells z.cells n).toList.length = n * k := by rw [Array.length_toList, size_zeroCells, hz]
  have hst := run_storeCells_cells (P := P) b o (Builtin.zeroCells z.cells n).toList 0 w (fun j hj => (hc j (by omega)).1) (fun j hj => (hc j (by omega)).2) hone
  simp only [Nat.add_zero] at hst
  obtain ⟨m, rfl⟩ : ∃ m, n = m + 1 := ⟨n - 1, by omega⟩
  simp [Builtin.clear_, run_underlying ht, hv, hst]
end Go.Pw

/- A region that draws its order, driven by hand, one operation at a time, whose last operation (which waits for all others) may break the condition that the others keep. No program. -/
namespace Go.Pw
open Go.RowKit
set_option linter.unusedVariables false

theorem op_at' {l : List Oper} {i : Nat} {oi : Oper} {rest : List Oper} (h : l.drop i = oi :: rest) : l.toArray[i]? = some oi := by
  rw [List.getElem?_toArray, ← List.head?_drop, h]
  rfl

section
variable {P : Program} {ops : Array Oper} {Q : Exit → Act → World → Prop} {md : Region.Mode} {S S' : World → Prop} {z : Nat}

/-- The operations that one waits for. -/
def deps (md : Region.Mode) (ops : Array Oper) (k : Nat) : List Nat := match ops[k]? with
  | none => []
  | some o => (o.after.toList.filter (Region.binds md)).map (·.on)
def clos (md : Region.Mode) (ops : Array Oper) : Nat → List Nat → List Nat
  | 0, s => s
  | f + 1, s => clos md ops f (s ++ s.flatMap (deps md ops)).eraseDups
/-- All others come ahead of z. -/
def isLast (md : Region.Mode) (ops : Array Oper) (z : Nat) : Bool := (List.range ops.size).all fun i => i == z || (clos md ops 6 (deps md ops z)).contains i
/-- With an operation those that it waits for are listed. -/
def downB (md : Region.Mode) (ops : Array Oper) (listed : Array Bool) : Bool := (List.range ops.size).all fun k => !listed.getD k false || (deps md ops k).all fun d => listed.getD d false
def Down (md : Region.Mode) (ops : Array Oper) (listed : Array Bool) : Prop := ∀ k, k < ops.size → listed.getD k false = true → ∀ d ∈ deps md ops k, listed.getD d false = true

theorem downB_spec {listed : Array Bool} (h : downB md ops listed = true) : Down md ops listed := fun k hk hl d hd => by
  have := List.all_eq_true.1 h k (List.mem_range.2 hk)
  rw [hl] at this
  simp only [Bool.not_true, Bool.false_or] at this
  exact List.all_eq_true.1 this d hd

theorem deps_of {k : Nat} {o : Oper} (ho : ops[k]? = some o) {d : Nat} : d ∈ deps md ops k ↔ ∃ e ∈ o.after, Region.binds md e = true ∧ e.on = d := by
  simp only [deps, ho, List.mem_map, List.mem_filter, Array.mem_toList_iff]
  constructor
  · rintro ⟨e, ⟨h1, h2⟩, h3⟩; exact ⟨e, h1, h2, h3⟩
  · rintro ⟨e, h1, h2, h3⟩; exact ⟨e, ⟨h1, h2⟩, h3⟩

theorem deps_lt {k d : Nat} (h : d ∈ deps md ops k) : k < ops.size := by
  unfold deps at h
  split at h
  · cases h
  · rename_i o ho; exact (Array.getElem?_eq_some_iff.1 ho).1

theorem clos_listed {listed : Array Bool} (hd : Down md ops listed) : ∀ (f : Nat) (s : List Nat), (∀ i ∈ s, listed.getD i false = true) → ∀ i ∈ clos md ops f s, listed.getD i false = true
  | 0, _, h => h
  | f + 1, s, h => clos_listed hd f _ fun i hi => by
    rw [List.mem_eraseDups, List.mem_append, List.mem_flatMap] at hi
    rcases hi with hi | ⟨k, hk, hi⟩
    · exact h i hi
    · exact hd k (deps_lt hi) (h k hk) i hi

theorem last_spec {listed : Array Bool} (hz : isLast md ops z = true) (hd : Down md ops listed) (hr : z ∈ Region.ready md ops listed) {i : Nat} (hi : i < ops.size) (hne : i ≠ z) : listed.getD i false = true := by
  obtain ⟨_, o, ho, hall⟩ := mem_ready.1 hr
  have h0 : ∀ d ∈ deps md ops z, listed.getD d false = true := fun d hdd => by
    obtain ⟨e, h1, h2, rfl⟩ := (deps_of ho).1 hdd
    exact hall e h1 h2
  have h1 := List.all_eq_true.1 hz i (List.mem_range.2 hi)
  simp only [Bool.or_eq_true, beq_iff_eq, hne, false_or, List.contains_iff_mem] at h1
  exact clos_listed hd _ _ h0 i h1

theorem getD_cases {listed : Array Bool} {j k : Nat} (h : (listed.setIfInBounds j true).getD k false = true) : k = j ∨ listed.getD k false = true := by
  by_cases hjk : j = k
  · exact .inl hjk.symm
  · rw [getD_set_ne false hjk] at h; exact .inr h

theorem Down.set {listed : Array Bool} (hd : Down md ops listed) {j : Nat} (hr : j ∈ Region.ready md ops listed) : Down md ops (listed.setIfInBounds j true) := fun k hk hl d hdd => by
  rcases getD_cases hl with rfl | hl
  · obtain ⟨_, o, ho, hall⟩ := mem_ready.1 hr
    obtain ⟨e, h1, h2, rfl⟩ := (deps_of ho).1 hdd
    exact getD_set_true (hall e h1 h2)
  · exact getD_set_true (hd k hk hl d hdd)

/-- Whatever order is picked from here on; S holds behind every operation but z. -/
def wpAnyT (P : Program) (md : Region.Mode) (ops : Array Oper) (Q : Exit → Act → World → Prop) (S : World → Prop) (z : Nat) : Nat → Array Bool → Act → World → Prop
  | 0, listed, a, w => Region.ready md ops listed = [] ∧ Q .normal a w
  | fuel + 1, listed, a, w =>
    (Region.ready md ops listed = [] → Q .normal a w) ∧
    ∀ i ∈ Region.ready md ops listed, wpOp P ops Q i (fun a' w' => (i ≠ z → S w') ∧ wpAnyT P md ops Q S z fuel (listed.setIfInBounds i true) a' w') a w

theorem wpAny_of_t : ∀ (fuel : Nat) (listed : Array Bool) (a : Act) (w : World), wpAnyT P md ops Q S z fuel listed a w → wpAny P md ops Q fuel listed a w
  | 0, _, _, _, h => h
  | fuel + 1, _, _, _, h => ⟨h.1, fun i hi => wpOp_mono (fun a' w' h' => wpAny_of_t fuel _ a' w' h'.2) (h.2 i hi)⟩

theorem wpAnyT_more (h : ∀ w, S' w → S w) : ∀ (fuel : Nat) (listed : Array Bool) (a : Act) (w : World), wpAnyT P md ops Q S' z fuel listed a w → wpAnyT P md ops Q S z fuel listed a w
  | 0, _, _, _, hh => hh
  | fuel + 1, _, _, _, hh => ⟨hh.1, fun i hi => wpOp_mono (fun a' w' h' => ⟨fun hne => h w' (h'.1 hne), wpAnyT_more h fuel _ a' w' h'.2⟩) (hh.2 i hi)⟩

theorem unlisted {listed : Array Bool} {i : Nat} (h : i ∈ Region.ready md ops listed) : listed.getD i false = false ∧ i < ops.size := by
  obtain ⟨h0, o, ho, _⟩ := mem_ready.1 h
  refine ⟨?_, (Array.getElem?_eq_some_iff.1 ho).1⟩
  rcases Nat.lt_or_ge i listed.size with h' | h'
  · simp [h'] at h0 ⊢; exact h0
  · simp [Array.getElem?_eq_none h'] at h0

theorem wpAnyT_first {i : Nat} {oi : Oper} {v : Value} (hz : isLast md ops z = true) (hiz : i ≠ z) (hi : ops[i]? = some oi) (hsel : ∀ (j : Nat) (o : Oper) cs b, ops[j]? = some o → o.op ≠ .select cs b)
    (hQ : ∀ c a w, Q (.panic c) (a.put oi.dst v) w → Q (.panic c) a w) :
    ∀ (fuel : Nat) (listed : Array Bool) (a : Act) (w : World), Down md ops listed →
      (∀ j oj, ops[j]? = some oj → j ≠ i → listed.getD j true = false → (∀ e ∈ oj.after, Region.binds md e = true → e.on ≠ i) → oi.apart ops oj = true) →
      i ∈ Region.ready md ops listed → YieldsIf P ops S oi v a → S w →
      wpAnyT P md ops Q S z fuel (listed.setIfInBounds i true) (a.put oi.dst v) w → wpAnyT P md ops Q S z (fuel + 1) listed a w := by
  intro fuel
  induction fuel with
  | zero =>
    intro listed a w _ _ hr hy hS H
    refine ⟨fun h => (by rw [h] at hr; cases hr), fun j hj => ?_⟩
    by_cases hji : j = i
    · subst hji; exact hy.wpOp hi hS ⟨fun _ => hS, H⟩
    · have := ready_mono hj hji
      rw [H.1] at this
      cases this
  | succ fuel ih =>
    intro listed a w hdown hfree hr hy hS H
    refine ⟨fun h => (by rw [h] at hr; cases hr), fun j hj => ?_⟩
    by_cases hji : j = i
    · subst hji; exact hy.wpOp hi hS ⟨fun _ => hS, H⟩
    · have hu := unlisted hr
      have hjz : j ≠ z := by
        rintro rfl
        have := last_spec hz hdown hj hu.2 hiz
        rw [hu.1] at this
        cases this
      have h1 := H.2 j (ready_mono hj hji)
      obtain ⟨hjun, oj, hoj, hall⟩ := mem_ready.1 hj
      have hnot : ∀ e ∈ oj.after, Region.binds md e = true → e.on ≠ i := fun e he hb heq => by
        have h1 := hall e he hb
        rw [heq, hu.1] at h1
        cases h1
      have h2 := wpOp_putIf hoj (hfree j oj hoj hji hjun hnot) (fun cs b => hsel i oi cs b hi) (fun cs b => hsel j oj cs b hoj) hQ hy h1
      refine wpOp_mono (fun a' w' h3 => ⟨h3.2.1, ih (listed.setIfInBounds j true) a' w' (hdown.set hj) (fun k ok hk hki hun hno => hfree k ok hk hki ?_ hno) (ready_mono hr (Ne.symm hji)) h3.1 (h3.2.1 hjz) ?_⟩) h2
      · by_cases hjk : j = k
        · subst hjk; exact hjun
        · rw [getD_set_ne true hjk] at hun; exact hun
      · rw [Array.setIfInBounds_comm _ _ hji]
        exact h3.2.2

/-- Number i is taken first. -/
theorem wpAnyT_take {i : Nat} {oi : Oper} {v : Value} {fuel : Nat} {listed : Array Bool} {a : Act} {w : World} (hz : Shut (isLast md ops z = true)) (hi : ops[i]? = some oi) (hiz : (i == z) = false) (hd : downB md ops listed = true)
    (hs : Region.noSelect ops = true) (hf : Region.free md ops listed i = true) (hr : (Region.ready md ops listed).contains i = true)
    (hQ : ∀ c a w, Q (.panic c) (a.put oi.dst v) w → Q (.panic c) a w) (hy : YieldsIf P ops S oi v a) (hS : S w)
    (h : wpAnyT P md ops Q S z fuel (listed.setIfInBounds i true) (a.put oi.dst v) w) : wpAnyT P md ops Q S z (fuel + 1) listed a w :=
  wpAnyT_first hz.out (by simpa using hiz) hi (Region.noSelect_spec hs) hQ fuel listed a w (downB_spec hd) (Region.free_spec hi hf) (by simpa using hr) hy hS h

/-- Number i alone may come up. -/
theorem wpAnyT_one {i : Nat} {o : Oper} {fuel : Nat} {listed : Array Bool} {a : Act} {w : World} (hr : Region.ready md ops listed = [i]) (ho : ops[i]? = some o)
    (h : ∀ K' : Act → World → Prop, Shut (∀ a w, S w → (S w → wpAnyT P md ops Q S z fuel (listed.setIfInBounds i true) a w) → K' a w) → if Region.wanted o (yielded ops a.tmps) = true then Oper.wp P o a w K' Q else K' (a.put o.dst undef) w) :
    wpAnyT P md ops Q S z (fuel + 1) listed a w :=
  ⟨fun h => (by rw [hr] at h; cases h), fun j hj => by
    rw [hr] at hj
    obtain rfl : j = i := by simpa using hj
    exact wpOp_step ho (fun K' hK => h K' (fun a w hS hW => hK a w ⟨fun _ => hS, hW hS⟩))⟩

/-- The last one comes up. -/
theorem wpAnyT_last {o : Oper} {fuel : Nat} {listed : Array Bool} {a : Act} {w : World} (hr : Region.ready md ops listed = [z]) (ho : ops[z]? = some o) (hd : Region.ready md ops (listed.setIfInBounds z true) = [])
    (h : ∀ K' : Act → World → Prop, Shut (∀ a w, Q .normal a w → K' a w) → if Region.wanted o (yielded ops a.tmps) = true then Oper.wp P o a w K' Q else K' (a.put o.dst undef) w) :
    wpAnyT P md ops Q S z (fuel + 1) listed a w :=
  ⟨fun h => (by rw [hr] at h; cases h), fun j hj => by
    rw [hr] at hj
    obtain rfl : j = z := by simpa using hj
    refine wpOp_step ho (fun K' hK => h K' (fun a w hq => hK a w ⟨fun hne => absurd rfl hne, ?_⟩))
    cases fuel with
    | zero => exact ⟨hd, hq⟩
    | succ n => exact ⟨fun _ => hq, by rw [hd]; simp⟩⟩

theorem wp_region_t {id : Nat} {a : Act} {w : World} (z : Nat) (hm : P.follows .mixedOrders = true) (hz : isLast .any ops z = true) (hS : S w.drew)
    (h : Shut (isLast .any ops z = true) → S w.drew → wpAnyT P .any ops Q S z ops.size (Array.replicate ops.size false) a w.drew) : (Code.region id ops true).wp P Q a w :=
  wp_region_any hm (wpAny_of_t _ _ _ _ (h hz hS))
end
end Go.Pw

/- Whole structs: alloc, box, load, store as steps of a walk, the block and the world behind them named. No program. -/
namespace Go.Pw
open Go.RowKit
set_option linter.unusedVariables false

theorem setCells_block {b : Nat} {t : TypeId} {fr : Nat × Nat} : ∀ (vs : List Value) (o : Nat) (w : World) (cur : Array Value), w.heap[b]? = some (.cells cur t fr) → (w.setCells b o vs).heap[b]? = some (.cells (setL cur.toList o vs).toArray t fr)
  | [], _, _, cur, h => by simpa [setL, World.setCells] using h
  | v :: r, o, w, cur, h => by
    have := setCells_block r (o + 1) _ _ (set_at (i := o) h v)
    simpa [setL, World.setCells] using this
theorem setL_all (xs vs : List Value) (h : vs.length = xs.length) : setL xs 0 vs = vs := by
  have := setL_app xs [] vs [] h
  simpa using this
theorem block_there {w : World} {b : Nat} {cs : Array Value} {t : TypeId} (h : w.heap[b]? = some (.cells cs t (0, 0))) (o m : Nat) (hm : o + m ≤ cs.size) : w.there b o m := fun j hj => ⟨by
  rw [Pw.cell_in h, Array.getElem?_eq_getElem (by omega)]; rfl, free_in h _⟩
theorem block_range {w : World} {b : Nat} {cs : List Value} {t : TypeId} {fr : Nat × Nat} (h : w.heap[b]? = some (.cells cs.toArray t fr)) : w.rangeAt b 0 cs := fun j v hj => by
  rw [Pw.cell_in h, Nat.zero_add]; simpa using hj

theorem wpList_alloc_new {P : Program} {ops : Array Oper} {rest : List Oper} {op : Oper} {a : Act} {w : World} {Q : Exit → Act → World → Prop} (hgd : op.guard = none) (T : TypeId) (ho : op.op = .alloc T) (z : Value)
    (hz : ∀ w, (zeroValue T).run P w = .ok z w)
    (h : ∀ X w', Only w w' [] → w.heap.size ≤ X → w'.heap[X]? = some (.cells z.cells T (0, 0)) → wpList P ops Q rest (a.put op.dst (.pointer (some ⟨X, 0, none⟩))) w') : wpList P ops Q (op :: rest) a w :=
  wpList_plain hgd fun _ hK => by
    unfold Oper.wp execOp
    simp only [ho, Instr.alloc, Sem.run_bind, hz, Result.andThen_ok]
    exact hK _ _ (h w.heap.size _ (Only.alloc w (.cells z.cells T) []) (Nat.le_refl _) (heap_alloc_new w _))

theorem wpList_box_new {P : Program} {ops : Array Oper} {rest : List Oper} {op : Oper} {a : Act} {w : World} {Q : Exit → Act → World → Prop} (hgd : op.guard = none) (T : TypeId) (x : Operand) (ho : op.op = .box T x) (z : Value) (hx : a.eval x = z)
    (h : ∀ X w', Only w w' [] → w.heap.size ≤ X → w'.heap[X]? = some (.cells z.cells T (0, 0)) → wpList P ops Q rest (a.put op.dst (.pointer (some ⟨X, 0, none⟩))) w') : wpList P ops Q (op :: rest) a w :=
  wpList_plain hgd fun _ hK => by
    unfold Oper.wp execOp
    simp only [ho, hx, Instr.box, Sem.run_bind, Result.andThen_ok]
    exact hK _ _ (h w.heap.size _ (Only.alloc w (.cells z.cells T) []) (Nat.le_refl _) (heap_alloc_new w _))

/-- A whole struct is loaded from a block of its own. -/
theorem wpList_load_blk {P : Program} {ops : Array Oper} {rest : List Oper} {op : Oper} {a : Act} {w : World} {Q : Exit → Act → World → Prop} (hgd : op.guard = none) (ty : TypeId) (x : Operand) (ho : op.op = .load ty x)
    (b : Nat) (hx : a.eval x = .pointer (some ⟨b, 0, none⟩)) (cs : List Value) (d : TypeDesc) {t : TypeId} {fr : Nat × Nat} (hc : w.heap[b]? = some (.cells cs.toArray t fr))
    (hu : P.underlying ty = some d) (hd : d.isRow = true) (hi : (P.info? ty).map (·.size) = some cs.length)
    (h : wpList P ops Q rest (a.put op.dst (.agg cs.toArray)) w) : wpList P ops Q (op :: rest) a w :=
  wpList_load_mid hgd ty x ho b 0 hx cs d (block_range hc) hu hd hi h

/-- A whole struct is stored into a block of its own. -/
theorem wpList_store_blk {P : Program} {ops : Array Oper} {rest : List Oper} {op : Oper} {a : Act} {w : World} {Q : Exit → Act → World → Prop} (hgd : op.guard = none) (ty : TypeId) (x y : Operand) (ho : op.op = .store ty x y)
    (b : Nat) (cells : List Value) (hx : a.eval x = .pointer (some ⟨b, 0, none⟩)) (hy : a.eval y = .agg cells.toArray) {old : Array Value} {t : TypeId} (hc : w.heap[b]? = some (.cells old t (0, 0)))
    (hs : old.size = cells.length) (hi : (P.info? ty).map (·.size) = some cells.length) (h1 : cells.toArray.all (·.oneCell') = true)
    (h : ∀ w', Only w w' [b] → w'.heap[b]? = some (.cells cells.toArray t (0, 0)) → wpList P ops Q rest (a.put op.dst undef) w') : wpList P ops Q (op :: rest) a w := by
  refine wpList_store_mid hgd ty x y ho b 0 cells.toArray hx hy (block_there hc 0 _ (by simp [hs])) (by simpa using hi) h1 ?_
  refine h _ (only_setCells _ _ _) ?_
  rw [setCells_block _ _ _ _ hc, setL_all _ _ (by simp [hs])]

/-- A whole struct is stored into a row of records: by its resource. -/
theorem wpList_store_rec {P : Program} {ops : Array Oper} {rest : List Oper} {op : Oper} {a : Act} {w w0 : World} {rs : List Res} {Q : Exit → Act → World → Prop} (hgd : op.guard = none) (ty : TypeId) (x y : Operand) (ho : op.op = .store ty x y)
    (g o e size n cap : Nat) (cells xs : List Value) (hx : a.eval x = .pointer (some ⟨g, o, none⟩)) (hy : a.eval y = .agg cells.toArray) (hs : Sep w0 w (row e size (.slice (some ⟨g, 0, none⟩) n cap) n xs :: rs))
    (ho' : o + cells.length ≤ n * size) (hi : (P.info? ty).map (·.size) = some cells.length) (h1 : cells.toArray.all (·.oneCell') = true)
    (h : ∀ w', Sep w0 w' (row e size (.slice (some ⟨g, 0, none⟩) n cap) n (setL xs o cells) :: rs) → wpList P ops Q rest (a.put op.dst undef) w') : wpList P ops Q (op :: rest) a w :=
  wpList_store_mid hgd ty x y ho g o cells.toArray hx hy (by simpa using row_there (hs.head : w.ownsRow 0 e size _ n xs) o cells.length ho') (by simpa using hi) h1 (h _ (hs.puts o cells))

theorem Sep.two_at {w0 w : World} {rs : List Res} (h : Sep w0 w rs) {i j : Nat} {r s : Res} (hi : rs[i]? = some r) (hj : rs[j]? = some s) (hne : i ≠ j) : ∀ k ∈ r.fp, k ∉ s.fp := by
  have hp := List.pairwise_iff_getElem.1 h.apart
  obtain ⟨hi', rfl⟩ := List.getElem?_eq_some_iff.1 hi
  obtain ⟨hj', rfl⟩ := List.getElem?_eq_some_iff.1 hj
  intro k hk hk'
  by_cases hlt : i < j
  · exact hp i j hi' hj' hlt k hk hk'
  · exact hp j i hj' hi' (by omega) k hk' hk
/-- Some of the first n, in any order, and the rest. -/
theorem Sep.sel {w0 w : World} {rs : List Res} (h : Sep w0 w rs) (n : Nat) (idx : List Nat) (hn : idx.Nodup ∧ ∀ i ∈ idx, i < n := by decide) : Sep w0 w (idx.filterMap (fun i => rs[i]?) ++ rs.drop n) := by
  have hm : ∀ r ∈ idx.filterMap (fun i => rs[i]?) ++ rs.drop n, r ∈ rs := fun r hr => by
    rcases List.mem_append.1 hr with hr | hr
    · obtain ⟨i, _, hi⟩ := List.mem_filterMap.1 hr
      exact List.mem_of_getElem? hi
    · exact List.mem_of_mem_drop hr
  refine ⟨h.only, fun r hr => h.ok r (hm r hr), fun r hr => h.new r (hm r hr), ?_⟩
  rw [List.pairwise_append]
  refine ⟨?_, h.apart.drop, fun a ha b hb => ?_⟩
  · rw [List.pairwise_filterMap]
    exact hn.1.imp (fun hne r hr s hs => h.two_at hr hs hne)
  · obtain ⟨i, hi, hr⟩ := List.mem_filterMap.1 ha
    obtain ⟨j, hj, rfl⟩ := List.mem_iff_getElem.1 hb
    have := hn.2 i hi
    refine h.two_at hr (List.getElem?_eq_getElem (by rw [List.length_drop] at hj; omega : n + j < rs.length)) (by omega) |> fun q => ?_
    rw [List.getElem_drop]
    exact q

/-- A store of known cells, as one step of a region that draws. -/
theorem step_store_cells {P : Program} {ops : Array Oper} {o : Oper} {a : Act} {w : World} {K : Act → World → Prop} {Q : Exit → Act → World → Prop} {E : Prop}
    (hg : o.guard = none) (ty : TypeId) (x y : Operand) (hop : o.op = .store ty x y) (b off : Nat) (v : Value) (cells : List Value) (hv : v.cells = cells.toArray)
    (hx : a.eval x = .pointer (some ⟨b, off, none⟩)) (hy : a.eval y = v) (ht : w.there b off cells.length) (hi : (P.info? ty).map (·.size) = some cells.length) (h1 : ∀ u ∈ cells, u.oneCell' = true)
    (hK : K (a.put o.dst undef) (w.setCells b off cells)) : if Region.wanted o (yielded ops a.tmps) = true then Oper.wp P o a w K Q else E := by
  have hw : Region.wanted o (yielded ops a.tmps) = true := by simp [Region.wanted, hg]
  rw [if_pos hw]
  have hst := run_storeCells_cells (P := P) b off cells 0 w (fun j hj => (ht j hj).1) (fun j hj => (ht j hj).2) h1
  have hsv : (storeVar ty ⟨b, off, none⟩ v).run P w = .ok () (w.setCells b off cells) := by
    cases hq : P.info? ty with
    | none => simp [hq] at hi
    | some i =>
      have hs : cells.length = i.size := by simp [hq] at hi; omega
      simp only [Nat.add_zero] at hst
      simp [storeVar, sizeOf, typeInfo, hq, hv, hs, hst]
  unfold Oper.wp execOp
  simp only [hop, hx, hy, Instr.storeAt, Instr.sureAddr, Sem.run_bind, Sem.run_pure, Result.andThen_ok, hsv]
  exact hK
/-- .. into a row of records, by its resource. -/
theorem step_store_rec {P : Program} {ops : Array Oper} {o : Oper} {a : Act} {w w0 : World} {rs : List Res} {K : Act → World → Prop} {Q : Exit → Act → World → Prop} {E : Prop}
    (hg : o.guard = none) (ty : TypeId) (x y : Operand) (hop : o.op = .store ty x y) (g off : Nat) (v : Value) (cells : List Value) (hv : v.cells = cells.toArray) (e size n cap : Nat) (xs : List Value)
    (hx : a.eval x = .pointer (some ⟨g, off, none⟩)) (hy : a.eval y = v) (hs : Sep w0 w (row e size (.slice (some ⟨g, 0, none⟩) n cap) n xs :: rs)) (ho' : off + cells.length ≤ n * size) (hi : (P.info? ty).map (·.size) = some cells.length) (h1 : ∀ u ∈ cells, u.oneCell' = true)
    (hK : ∀ w', Only w w' [g] → Sep w0 w' (row e size (.slice (some ⟨g, 0, none⟩) n cap) n (setL xs off cells) :: rs) → K (a.put o.dst undef) w') : if Region.wanted o (yielded ops a.tmps) = true then Oper.wp P o a w K Q else E :=
  step_store_cells hg ty x y hop g off v cells hv hx hy (row_there (hs.head : w.ownsRow 0 e size _ n xs) off cells.length ho') hi h1 (hK _ (only_setCells _ _ _) (hs.puts off cells))
/-- .. into a block of its own, by its resource. -/
theorem step_store_blk {P : Program} {ops : Array Oper} {o : Oper} {a : Act} {w w0 : World} {rs : List Res} {K : Act → World → Prop} {Q : Exit → Act → World → Prop} {E : Prop}
    (hg : o.guard = none) (ty : TypeId) (x y : Operand) (hop : o.op = .store ty x y) (B off : Nat) (v : Value) (cells old : List Value) (T : TypeId) (hv : v.cells = cells.toArray)
    (hx : a.eval x = .pointer (some ⟨B, off, none⟩)) (hy : a.eval y = v) (hs : Sep w0 w (blk B old T :: rs)) (ho' : off + cells.length ≤ old.length) (hi : (P.info? ty).map (·.size) = some cells.length) (h1 : ∀ u ∈ cells, u.oneCell' = true)
    (hK : ∀ w', Only w w' [B] → Sep w0 w' (blk B (setL old off cells) T :: rs) → K (a.put o.dst undef) w') : if Region.wanted o (yielded ops a.tmps) = true then Oper.wp P o a w K Q else E :=
  step_store_cells hg ty x y hop B off v cells hv hx hy (block_there (show w.heap[B]? = _ from hs.head) off cells.length (by simpa using ho')) hi h1
    (hK _ (only_setCells _ _ _) (hs.step (L := [B]) (only_setCells _ _ _) (fun k hk => .inl (by simpa [blk] using hk)) (setCells_block _ _ _ _ (show w.heap[B]? = _ from hs.head)) (fun k hk => .inl (by simpa [blk] using hk))))
end Go.Pw

