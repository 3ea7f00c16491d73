/- The vocabulary of our walks: frames by blocks, rows that the call owns, one step law for an append to an own row inside a region that draws its order. No program. -/
import Derived.WalkKit
import Derived.WalkSpells
import Derived.WalkLawsBesides
import Derived.Deep.RegionLaw
import Derived.Deep.QuietTactic
import Derived.BigQuiet
import Derived.BigRegion
import Derived.Lib.Hide
import Derived.Shelf.Bytes.SlEqualAll
namespace Go.Pw
open Go.RowKit
set_option linter.all false

/-- Only the blocks of L may have turned; new blocks may have come. -/
structure Only (w w' : World) (L : List Nat) : Prop where
  os : w'.os = w.os
  tape : w'.tape = w.tape
  output : w'.output = w.output
  size : w.heap.size ≤ w'.heap.size
  block : ∀ k, k < w.heap.size → k ∉ L → w'.heap[k]? = w.heap[k]?

theorem Only.refl (w : World) (L : List Nat) : Only w w L := ⟨rfl, rfl, rfl, Nat.le_refl _, fun _ _ _ => rfl⟩
theorem Only.trans {a b c : World} {L : List Nat} (h : Only a b L) (k : Only b c L) : Only a c L :=
  ⟨k.os.trans h.os, k.tape.trans h.tape, k.output.trans h.output, Nat.le_trans h.size k.size, fun i hi hn => (k.block i (Nat.lt_of_lt_of_le hi h.size) hn).trans (h.block i hi hn)⟩
theorem Only.mono {a b : World} {L L' : List Nat} (h : Only a b L) (hs : ∀ k, k < a.heap.size → k ∈ L → k ∈ L') : Only a b L' :=
  ⟨h.os, h.tape, h.output, h.size, fun i hi hn => h.block i hi (fun m => hn (hs i hi m))⟩
theorem Only.below {a b : World} {L : List Nat} (h : Only a b L) {B : Nat} (hB : B ≤ a.heap.size) (hL : ∀ k ∈ L, B ≤ k) : Below B a b :=
  ⟨h.os, h.tape, h.output, h.size, fun i hi => h.block i (by omega) (fun m => by have := hL i m; omega)⟩
theorem Only.drew (w : World) (L : List Nat) : Only w w.drew L := ⟨rfl, rfl, rfl, Nat.le_refl _, fun _ _ _ => rfl⟩
theorem Only.alloc (w : World) (o : Obj) (L : List Nat) : Only w (w.alloc o) L := ⟨rfl, rfl, rfl, by simp, fun k hk _ => Below.heap_alloc _ _ _ hk⟩
theorem Only.setCell (w : World) (a : Addr) (u : Value) (L : List Nat) (h : a.block ∈ L) : Only w (w.setCell a u) L :=
  ⟨rfl, rfl, rfl, by simp [World.setCell], fun k _ hn => Below.heap_setCell _ _ _ _ (fun e => hn (e ▸ h))⟩
theorem Only.grown {w w' : World} {row : Option Nat} {L : List Nat} (hg : w.grownBy w' row) (hr : ∀ k, row = some k → k ∈ L) : Only w w' L :=
  ⟨hg.os, hg.tape, hg.output, hg.size, fun k hk hn => hg.block k hk (fun e => hn (hr k e.symm))⟩

/-- What is read: m elements of 'size' cells each, the cells 'news', through the slice value x; nil and empty ones too. -/
def Src (w : World) (x : Value) (size m : Nat) (news : List Value) : Prop :=
  ∃ ao c, x = .slice ao m c ∧ m ≤ c ∧ c ≤ maxLen ∧ news.length = m * size ∧ (ao = none → m = 0 ∧ c = 0) ∧ ∀ b, ao = some b → ∀ j u, news[j]? = some u → w.cell? (b.add j) = some u

/-- The block of v' is that of v, or a new one. -/
def SoN (w : World) (v v' : Value) : Prop := ∀ k, v'.ownBlock = some k → v.ownBlock = some k ∨ w.heap.size ≤ k

theorem SoN.refl (w : World) (v : Value) : SoN w v v := fun _ h => .inl h
theorem SoN.trans {w w1 : World} {v v1 v2 : Value} (h : SoN w v v1) (k : SoN w1 v1 v2) (hs : w.heap.size ≤ w1.heap.size) : SoN w v v2 := fun i hi => by
  rcases k i hi with h1 | h1
  · exact h i h1
  · exact .inr (Nat.le_trans hs h1)

theorem run_append_src {P : Program} (w : World) (t ty e : TypeId) (i : TypeInfo) (z : Value) (size bytes : Nat) (ht : P.underlying t = some (.slice e)) (hi : P.info? e = some i) (hz : i.zero = some z)
    (hsize : i.size = size) (hby : i.bytes = bytes) (hzs : z.cells.size = size) (hsz : 0 < size)
    (v : Value) (n : Nat) (xs : List Value) (hown : w.ownsRow 0 e size v n xs)
    (x : Value) (m : Nat) (news : List Value) (hx : Src w x size m news) (h1 : ∀ u ∈ news, u.oneCell' = true)
    (h63 : n + m ≤ maxLen) (hbytes : (n + m) * bytes ≤ 140737488355328) :
    ∃ v' w', (Builtin.append_ #[t, t] ty #[v, x]).run P w = .ok v' w' ∧ w'.ownsRow 0 e size v' (n + m) (xs ++ news) ∧ w.grownBy w' v.ownBlock ∧ SoN w v v' := by
  obtain ⟨ao, c, rfl, _, _, hl, hnone, hnews⟩ := hx
  cases ao with
  | none =>
    obtain ⟨rfl, rfl⟩ := hnone rfl
    obtain rfl : news = [] := List.eq_nil_of_length_eq_zero (by simpa using hl)
    exact ⟨v, w, run_append_owned_none (P := P) (w := w) 0 t ty e i size ht hi v n xs hown, by simpa using hown, ⟨rfl, rfl, rfl, Nat.le_refl _, fun _ _ _ => rfl⟩, SoN.refl _ _⟩
  | some a =>
    have hnews := hnews a rfl
    subst hsize
    subst hby
    have hsmall : n + m ≤ 9223372036854775807 := by simp only [maxLen] at h63; omega
    have hlen : (xs ++ news).length = (n + m) * i.size := by rw [List.length_append, hown.1, hl, Nat.add_mul]
    have grown : ∀ (old : Nat), old < n + m → ∀ (row : Option Nat),
        (w.drew.alloc (.cells (xs.toArray ++ news.toArray ++ Builtin.zeroCells z.cells (grownCap w (n + m) old e - (n + m))) e)).ownsRow 0 e i.size
          (.slice (some ⟨w.heap.size, 0, none⟩) (n + m) (grownCap w (n + m) old e)) (n + m) (xs ++ news) ∧
        w.grownBy (w.drew.alloc (.cells (xs.toArray ++ news.toArray ++ Builtin.zeroCells z.cells (grownCap w (n + m) old e - (n + m))) e)) row := by
      intro old ho row
      have hge := grownCap_ge w (n + m) old e
      have hcm : grownCap w (n + m) old e ≤ maxLen := grownCap_le_maxLen w (n + m) old e h63
      refine ⟨⟨hlen, .inr ⟨w.heap.size, _, _, rfl, Nat.zero_le _, heap_alloc_new w.drew _, hge, hcm, ?_, ?_⟩⟩, ⟨rfl, rfl, rfl, by simp, fun k hk _ => Below.heap_alloc w.drew _ k hk⟩⟩
      · simp only [Array.size_append, List.size_toArray, size_zeroCells, hzs, hown.1, hl, ← Nat.add_mul]
        congr 1
        omega
      · simp only [Array.toList_append, List.append_assoc]
        rw [← List.append_assoc, ← hlen]
        exact List.take_left
    rcases hown.2 with ⟨rfl, rfl⟩ | ⟨g, cap, cur, rfl, hbg, hg, hnc, hcm, hcs, htake⟩
    · have hx : xs = [] := List.eq_nil_of_length_eq_zero (by simpa using hown.1)
      subst hx
      by_cases hm : m = 0
      · subst hm
        have hn : news = [] := List.eq_nil_of_length_eq_zero (by simpa using hl)
        subst hn
        refine ⟨.slice none 0 0, w, ?_, World.ownsRow_nil w 0 e i.size, ⟨rfl, rfl, rfl, Nat.le_refl _, fun _ _ _ => rfl⟩, SoN.refl _ _⟩
        simp [Builtin.append_, run_underlying ht, sizeOf, typeInfo, hi, Builtin.lenOf, Builtin.firstCells, loadCells, loadCellsFrom]
      · have hr := run_append_nil (P := P) w t ty e i z ht hi hz a m c news hl hnews (by omega) (by omega) (by have hb := hbytes; simp only [Nat.zero_add] at hb; omega)
        have hgr := grown 0 (by omega) (Value.ownBlock (.slice none 0 0))
        simp only [Nat.zero_add, List.nil_append, Array.empty_append] at hgr ⊢
        exact ⟨_, _, hr, hgr.1, hgr.2, fun k hk => .inr (by simp [Value.ownBlock] at hk; omega)⟩
    · by_cases hroom : n + m ≤ cap
      · have hfit : n * i.size + news.length ≤ cur.size := by rw [hl, hcs, ← Nat.add_mul]; exact Nat.mul_le_mul_right _ hroom
        have hr := run_append_room (P := P) w t ty e i ht hi g n cap cur hg a m c news hl hnews h1 hroom hfit
        refine ⟨_, _, hr, ⟨hlen, .inr ⟨g, cap, _, rfl, hbg, setRow_heap w g cur _ e _ hg, hroom, hcm, ?_, ?_⟩⟩, ⟨rfl, rfl, rfl, by simp, fun k _ hk => setRow_other w g k _ (fun e => hk (by simp [Value.ownBlock, e]))⟩, fun k hk => .inl hk⟩
        · simp only [List.size_toArray, List.length_append, List.length_take, List.length_drop, Array.length_toList]
          omega
        · rw [htake, ← hlen]
          exact List.take_left
      · have holds : ∀ j u, xs[j]? = some u → w.cell? ((⟨g, 0, none⟩ : Addr).add j) = some u := hown.cells (g := g) rfl
        have hr := run_append_grow (P := P) w t ty e i z ht hi hz ⟨g, 0, none⟩ n cap xs hown.1 holds a m c news hl hnews (by omega) (by omega) (growslice_fits (by omega) hbytes)
        have hgr := grown cap (by omega) (Value.ownBlock (.slice (some ⟨g, 0, none⟩) n cap))
        exact ⟨_, _, hr, hgr.1, hgr.2, fun k hk => .inr (by simp [Value.ownBlock] at hk; omega)⟩

/-- append onto a row of the call's own, for the walk. -/
theorem wpList_append_src {P : Program} {w : World} {ops : Array Oper} {rest : List Oper} {o : Oper} {a : Act} {Q : Exit → Act → World → Prop} (hgd : o.guard = none) (s x : Operand) (t : TypeId)
    (ho : o.op = .call { callee := .builtin .append, args := #[s, x], argTypes := #[t, t] })
    (e : TypeId) (i : TypeInfo) (z : Value) (size bytes : Nat) (ht : P.underlying t = some (.slice e)) (hi : P.info? e = some i) (hz : i.zero = some z)
    (hsize : i.size = size) (hby : i.bytes = bytes) (hzs : z.cells.size = size) (hsz : 0 < size)
    (v : Value) (n : Nat) (xs : List Value) (hs : a.eval s = v) (hown : w.ownsRow 0 e size v n xs)
    (xv : Value) (m : Nat) (news : List Value) (hx : a.eval x = xv) (hsrc : Src w xv size m news) (h1 : ∀ u ∈ news, u.oneCell' = true)
    (h63 : n + m ≤ maxLen) (hbytes : (n + m) * bytes ≤ 140737488355328)
    (h : ∀ v' w', w'.ownsRow 0 e size v' (n + m) (xs ++ news) → w.grownBy w' v.ownBlock → SoN w v v' → wpList P ops Q rest (a.put o.dst v') w') : wpList P ops Q (o :: rest) a w :=
  wpList_plain hgd fun _ hK => by
    obtain ⟨v', w', hrun, r1, r2, r3⟩ := run_append_src (P := P) w t o.type e i z size bytes ht hi hz hsize hby hzs hsz v n xs hown xv m news hsrc h1 h63 hbytes
    unfold Oper.wp
    simp [execOp, ho, resolve, invoke, builtin, hs, hx, hrun, Result.andThen]
    exact hK _ _ (h v' w' r1 r2 r3)

/-- append onto a row of the call's own, as one step of a region that draws. -/
theorem step_append_src {P : Program} {ops : Array Oper} {o : Oper} {a : Act} {w : World} {K : Act → World → Prop} {Q : Exit → Act → World → Prop} {E : Prop}
    (hg : o.guard = none) (s x : Operand) (t : TypeId) (hop : o.op = Op.call { callee := Callee.builtin Builtin.append, args := #[s, x], argTypes := #[t, t] })
    (e : TypeId) (i : TypeInfo) (z : Value) (size bytes : Nat) (ht : P.underlying t = some (.slice e)) (hi : P.info? e = some i) (hz : i.zero = some z)
    (hsize : i.size = size) (hby : i.bytes = bytes) (hzs : z.cells.size = size) (hsz : 0 < size)
    (v : Value) (n : Nat) (xs : List Value) (hs : a.eval s = v) (hown : w.ownsRow 0 e size v n xs)
    (xv : Value) (m : Nat) (news : List Value) (hx : a.eval x = xv) (hsrc : Src w xv size m news) (h1 : ∀ u ∈ news, u.oneCell' = true)
    (h63 : n + m ≤ maxLen) (hbytes : (n + m) * bytes ≤ 140737488355328)
    (hK : ∀ v' w', w'.ownsRow 0 e size v' (n + m) (xs ++ news) → w.grownBy w' v.ownBlock → SoN w v v' → K (a.put o.dst v') w') :
    if Region.wanted o (yielded ops a.tmps) = true then Oper.wp P o a w K Q else E := by
  have hw : Region.wanted o (yielded ops a.tmps) = true := by simp [Region.wanted, hg]
  rw [if_pos hw]
  obtain ⟨v', w', hrun, r1, r2, r3⟩ := run_append_src (P := P) w t o.type e i z size bytes ht hi hz hsize hby hzs hsz v n xs hown xv m news hsrc h1 h63 hbytes
  unfold Oper.wp
  simp [execOp, hop, resolve, invoke, builtin, hs, hx, hrun, Result.andThen]
  exact hK v' w' r1 r2 r3

/-- An owned row's value, written out. -/
theorem own_slice {w : World} {base size n : Nat} {e : TypeId} {v : Value} {xs : List Value} (h : w.ownsRow base e size v n xs) : ∃ ao c, v = .slice ao n c := by
  rcases h.2 with ⟨rfl, rfl⟩ | ⟨g, cap, _, rfl, _⟩
  · exact ⟨_, _, rfl⟩
  · exact ⟨_, _, rfl⟩

/-- The slice of one element that the translation lays for append's last argument. -/
theorem src_one (w : World) (x : Value) (E : TypeId) : Src (w.alloc (.cells #[x] E)) (.slice (some ⟨w.heap.size, 0, none⟩) 1 1) 1 1 [x] :=
  ⟨_, _, rfl, Nat.le_refl _, by decide, rfl, by simp, fun b hb j u hj => by
    obtain rfl : b = ⟨w.heap.size, 0, none⟩ := by simpa using hb.symm
    exact cell_one_new _ _ _ j u hj⟩

theorem Src.drew {w : World} {x : Value} {size m : Nat} {news : List Value} (h : Src w x size m news) : Src w.drew x size m news := h

theorem Only.step {a b c : World} {L L' : List Nat} (h : Only a b L) (k : Only b c L') (hL : ∀ i ∈ L', i ∈ L ∨ a.heap.size ≤ i) : Only a c L :=
  ⟨k.os.trans h.os, k.tape.trans h.tape, k.output.trans h.output, Nat.le_trans h.size k.size, fun i hi hn => (k.block i (Nat.lt_of_lt_of_le hi h.size) (fun m => by rcases hL i m with h1 | h1; exact hn h1; omega)).trans (h.block i hi hn)⟩

theorem Only.new {a b c : World} {L : List Nat} (h : Only a b []) (k : Only b c L) (hL : ∀ i ∈ L, a.heap.size ≤ i) : Only a c [] := h.step k fun i hi => .inr (hL i hi)

theorem SoN.toList {w : World} {v v' : Value} (h : SoN w v v') : ∀ i ∈ v'.ownBlock.toList, i ∈ v.ownBlock.toList ∨ w.heap.size ≤ i := by
  intro i hi
  have hi' : v'.ownBlock = some i := by simpa using hi
  rcases h i hi' with h1 | h1
  · exact .inl (by simp [h1])
  · exact .inr h1

theorem SoN.weaken {w w1 : World} {v v' : Value} (h : SoN w1 v v') (hs : w.heap.size ≤ w1.heap.size) : SoN w v v' := fun i hi => by
  rcases h i hi with h1 | h1
  · exact .inl h1
  · exact .inr (Nat.le_trans hs h1)

/-- Behind an append onto the own row v, a block that isn't the row's reads as it did. -/
theorem grown_block {w w' : World} {v : Value} {B : Nat} {o : Obj} (hg : w.grownBy w' v.ownBlock) (h : w.heap[B]? = some o) (hne : v.ownBlock ≠ some B) : w'.heap[B]? = some o :=
  (hg.block B (Array.getElem?_eq_some_iff.1 h).1 (fun e => hne e.symm)).trans h

/-- A block of another element type is not the row's block. -/
theorem own_ne {w : World} {base size n : Nat} {e T : TypeId} {v : Value} {xs : List Value} {B : Nat} {cs : Array Value} {fr : Nat × Nat} (h : w.ownsRow base e size v n xs) (hB : w.heap[B]? = some (.cells cs T fr)) (hT : T ≠ e) : v.ownBlock ≠ some B := by
  rcases h.2 with ⟨rfl, rfl⟩ | ⟨g, cap, cur, rfl, _, hg, _⟩
  · simp [Value.ownBlock]
  · simp only [Value.ownBlock, ne_eq, Option.some.injEq]
    rintro rfl
    rw [hg] at hB
    simp at hB
    exact hT hB.2.1.symm

theorem cell_al {w : World} {a : Addr} {v : Value} (h : w.cell? a = some v) (o : Obj) : (w.alloc o).cell? a = some v :=
  (World.cell?_of_block (w := w) (Below.heap_alloc w o a.block (World.block_lt_of_cell? w a h))).trans h
theorem free_al {w : World} {a : Addr} {v : Value} (h : w.cell? a = some v) (hf : w.frozen? a = false) (o : Obj) : (w.alloc o).frozen? a = false :=
  (World.frozen?_of_block (w := w) (Below.heap_alloc w o a.block (World.block_lt_of_cell? w a h))).trans hf

/-- None of the blocks of L is that of the slice x. -/
def Apart (x : Value) (L : List Nat) : Prop := ∀ k, x.ownBlock = some k → k ∉ L

theorem Src.only {w w' : World} {x : Value} {size m : Nat} {news : List Value} {L : List Nat} (h : Src w x size m news) (ho : Only w w' L) (ha : Apart x L) : Src w' x size m news := by
  obtain ⟨ao, c, rfl, h1, h2, h3, h4, h5⟩ := h
  refine ⟨ao, c, rfl, h1, h2, h3, h4, fun b hb j u hj => ?_⟩
  have hc := h5 b hb j u hj
  have hbk : (b.add j).block = b.block := by unfold Addr.add; split <;> rfl
  refine (World.cell?_of_block (w := w) (ho.block _ (World.block_lt_of_cell? w _ hc) ?_)).trans hc
  rw [hbk]
  exact ha _ (by subst hb; rfl)

/-- The length of a slice value. -/
def slen : Value → Nat
  | .slice _ n _ => n
  | _ => 0

/-- No element of the slice x lies in a block of L. -/
def Off (x : Value) (L : List Nat) : Prop := 0 < slen x → Apart x L

theorem Src.off {w w' : World} {x : Value} {size m : Nat} {news : List Value} {L : List Nat} (h : Src w x size m news) (ho : Only w w' L) (ha : Off x L) : Src w' x size m news := by
  by_cases hm : 0 < slen x
  · exact h.only ho (ha hm)
  · obtain ⟨ao, c, rfl, h1, h2, h3, h4, h5⟩ := h
    have hm : m = 0 := by simpa [slen] using hm
    subst hm
    refine ⟨ao, c, rfl, h1, h2, h3, h4, fun b hb j u hj => ?_⟩
    have : news = [] := List.eq_nil_of_length_eq_zero (by simpa using h3)
    subst this
    simp at hj

/-- The elements of a slice that is read lie in a block that is there. -/
theorem Src.lt {w : World} {x : Value} {size m : Nat} {news : List Value} (h : Src w x size m news) (hs : 0 < size) (hm : 0 < slen x) : ∀ k, x.ownBlock = some k → k < w.heap.size := by
  obtain ⟨ao, c, rfl, h1, h2, h3, h4, h5⟩ := h
  intro k hk
  have hm : 0 < m := hm
  cases ao with
  | none => simp [Value.ownBlock] at hk
  | some a =>
    simp only [Value.ownBlock, Option.some.injEq] at hk
    subst hk
    have hl : 0 < news.length := by rw [h3]; exact Nat.mul_pos hm hs
    have hc := h5 a rfl 0 news[0] (by simp)
    rw [show a.add 0 = a by simp [Addr.add]] at hc
    exact World.block_lt_of_cell? w a hc

theorem Src.off_new {w : World} {x : Value} {size m : Nat} {news : List Value} {L : List Nat} (h : Src w x size m news) (hs : 0 < size) (hL : ∀ k ∈ L, w.heap.size ≤ k) : Off x L := fun hm k hk hkL => by
  have := h.lt hs hm k hk
  have := hL k hkL
  omega

theorem own_src {w : World} {base e size n : Nat} {v : Value} {xs : List Value} (h : w.ownsRow base e size v n xs) : Src w v size n xs := by
  obtain ⟨h0, h1⟩ := h
  rcases h1 with ⟨rfl, rfl⟩ | ⟨g, cap, cur, rfl, hb, hg, h2, h3, h4, h5⟩
  · exact ⟨none, 0, rfl, Nat.le_refl _, Nat.zero_le _, h0, by simp, by simp⟩
  · refine ⟨some ⟨g, 0, none⟩, cap, rfl, h2, h3, h0, by simp, fun b hbb j u hj => ?_⟩
    obtain rfl : b = ⟨g, 0, none⟩ := by simpa using hbb.symm
    exact World.ownsRow.cells (base := base) (e := e) (size := size) (n := n) (v := .slice (some ⟨g, 0, none⟩) n cap) (xs := xs) ⟨h0, .inr ⟨g, cap, cur, rfl, hb, hg, h2, h3, h4, h5⟩⟩ rfl j u hj

theorem own_only {w w' : World} {base e size n : Nat} {v : Value} {xs : List Value} {L : List Nat} (h : w.ownsRow base e size v n xs) (ho : Only w w' L) (ha : Apart v L) : w'.ownsRow base e size v n xs := by
  refine ⟨h.1, ?_⟩
  rcases h.2 with hn | ⟨g, cap, cur, rfl, hb, hgg, rest⟩
  · exact .inl hn
  · exact .inr ⟨g, cap, cur, rfl, hb, (ho.block g (Array.getElem?_eq_some_iff.1 hgg).1 (ha g rfl)).trans hgg, rest⟩

/-- An own row stays while blocks are written that came later. -/
theorem own_new {w w' : World} {base e size n : Nat} {v : Value} {xs : List Value} {L : List Nat} (h : w.ownsRow base e size v n xs) (ho : Only w w' L) (hL : ∀ k ∈ L, w.heap.size ≤ k) : w'.ownsRow base e size v n xs :=
  own_only h ho fun k hk hm => by
    have := (h.lt k hk).2
    have := hL k hm
    omega

/-- An own row of one element or more. -/
theorem own_some {w : World} {base size n c m : Nat} {e : TypeId} {ao : Option Addr} {xs : List Value} (h : w.ownsRow base e size (.slice ao m c) n xs) (hn : 0 < n) : ∃ g, ao = some ⟨g, 0, none⟩ ∧ m = n := by
  rcases h.2 with ⟨_, h0⟩ | ⟨g, cap, _, hv, _⟩
  · omega
  · simp only [Value.slice.injEq] at hv
    exact ⟨g, hv.1, hv.2.1⟩

theorem Only.at {w w' : World} {L : List Nat} {B : Nat} {o : Obj} (ho : Only w w' L) (h : w.heap[B]? = some o) (hn : B ∉ L) : w'.heap[B]? = some o :=
  (ho.block B (Array.getElem?_eq_some_iff.1 h).1 hn).trans h

/-- The blocks that a Writer at B, with the row v, may turn, out of those of an earlier row. -/
theorem own_list {w : World} {B : Nat} {v0 v : Value} (h : SoN w v0 v) : ∀ i ∈ B :: v.ownBlock.toList, i ∈ B :: v0.ownBlock.toList ∨ w.heap.size ≤ i := by
  intro i hi
  rcases List.mem_cons.1 hi with rfl | hi
  · exact .inl (by simp)
  · rcases h.toList i hi with h | h
    · exact .inl (by simp [List.mem_cons, h])
    · exact .inr h

theorem one_ints (k : IntKind) (l : List Int) : ∀ u ∈ l.map (Value.int k), u.oneCell' = true := by
  intro u hu
  obtain ⟨x, _, rfl⟩ := List.mem_map.1 hu
  rfl

theorem src_in {w : World} {ao : Option Addr} {n c : Nat} {xs : List Int} (h : Src w (.slice ao n c) 1 n (xs.map (Value.int .u8))) (hn : xs.length = n) : Lib.BytesIn w ao n xs := by
  obtain ⟨ao', c', he, h1, h2, h3, h4, h5⟩ := h
  simp only [Value.slice.injEq] at he
  obtain ⟨rfl, _, rfl⟩ := he
  cases ao with
  | none => rw [(h4 rfl).1]; exact Lib.BytesIn.nil _ _ _
  | some a =>
    refine Lib.BytesIn.of_cells fun i hi => h5 a rfl i _ ?_
    simp [hn, hi]

/-- 'string(b)'. -/
theorem run_str {P : Program} {w : World} {S E T : TypeId} (hS : P.underlying S = some (.slice E)) (hE : P.underlying E = some (.int .u8)) (hT : P.underlying T = some .string) {ao : Option Addr} {n c : Nat} {xs : List Int} (h : Src w (.slice ao n c) 1 n (xs.map (Value.int .u8))) (hn : xs.length = n) :
    (convert S T (.slice ao n c)).run P w = .ok (.string (strOfNums xs)) w :=
  (src_in h hn).convert hn c S E T hS hE hT

/-- The bytes, as strings, are the same just if they are. -/
theorem str_beq {xs ys : List Int} (hx : ∀ x ∈ xs, 0 ≤ x ∧ x < 256) (hy : ∀ x ∈ ys, 0 ≤ x ∧ x < 256) : ((strOfNums xs).toList == (strOfNums ys).toList) = decide (xs = ys) := by
  have e : ∀ l : List Int, (strOfNums l).toList = l.map fun n => UInt8.ofNat n.toNat := fun l => by rw [Lib.strOfNums_toList]; rfl
  rw [e, e, Bool.eq_iff_iff]
  simp only [beq_iff_eq, decide_eq_true_eq]
  constructor
  · intro h
    have inv : ∀ l : List Int, (∀ x ∈ l, 0 ≤ x ∧ x < 256) → (l.map fun n => UInt8.ofNat n.toNat).map (fun b => (b.toNat : Int)) = l := by
      intro l hl
      rw [List.map_map]
      conv => rhs; rw [← List.map_id l]
      refine List.map_congr_left fun x hx => ?_
      have := hl x hx
      simp only [Function.comp_apply, UInt8.toNat_ofNat', id]
      omega
    rw [← inv xs hx, ← inv ys hy, h]
  · rintro rfl; rfl

theorem cell_in {w : World} {b : Nat} {cs : Array Value} {t : TypeId} {fr : Nat × Nat} (h : w.heap[b]? = some (.cells cs t fr)) (i : Nat) : w.cell? ⟨b, i, none⟩ = cs[i]? := by simp [World.cell?, h]
theorem free_in {w : World} {b : Nat} {cs : Array Value} {t : TypeId} (h : w.heap[b]? = some (.cells cs t (0, 0))) (i : Nat) : w.frozen? ⟨b, i, none⟩ = false := by simp [World.frozen?, h]
theorem Only.cell_in {w w' : World} {b : Nat} {cs : Array Value} {t : TypeId} {fr : Nat × Nat} {L : List Nat} (ho : Only w w' L) (h : w.heap[b]? = some (.cells cs t fr)) (hn : b ∉ L) (i : Nat) : w'.cell? ⟨b, i, none⟩ = cs[i]? := Pw.cell_in (ho.at h hn) i
theorem set_at {w : World} {b i : Nat} {cs : Array Value} {t : TypeId} {fr : Nat × Nat} (h : w.heap[b]? = some (.cells cs t fr)) (u : Value) : (w.setCell ⟨b, i, none⟩ u).heap[b]? = some (.cells (cs.setIfInBounds i u) t fr) := by
  have hlt := lt_of_block h
  have h' : w.heap[b] = .cells cs t fr := by simpa [Array.getElem?_eq_getElem hlt] using h
  show (w.heap.modify b _)[b]? = _
  rw [Array.getElem?_eq_getElem (by simpa using hlt), Array.getElem_modify_self, h']
  rfl
/-- A new block, its world under a name. -/
theorem new_block (w : World) (o : Obj) : ∃ W X, W = w.alloc o ∧ X = w.heap.size ∧ W.heap[X]? = some o ∧ Only w W [] ∧ w.heap.size ≤ X ∧ X < W.heap.size :=
  ⟨_, _, rfl, rfl, heap_alloc_new w o, Only.alloc w o [], Nat.le_refl _, by simp⟩

/-- A Writer: block B holds its one field, the slice v, which owns the bytes xs. -/
def IsW (T E : TypeId) (B : Nat) (v : Value) (xs : List Int) (w : World) : Prop :=
  w.heap[B]? = some (.cells #[v] T (0, 0)) ∧ w.ownsRow 0 E 1 v xs.length (xs.map (Value.int .u8))

/-- What 'w.p = append(w.p, ..)' does: w1 is the world in which append is run, w' the one behind it. -/
theorem isw_step {T E : TypeId} {B : Nat} {v v' : Value} {ys news : List Int} {wr w1 w' : World} (hTE : T ≠ E) (hw : IsW T E B v ys wr) (h01 : Only wr w1 [])
    (hown : w'.ownsRow 0 E 1 v' (ys.length + news.length) (ys.map (Value.int .u8) ++ news.map (Value.int .u8))) (hg : w1.grownBy w' v.ownBlock) (hs : SoN w1 v v') :
    IsW T E B v' (ys ++ news) (w'.setCell ⟨B, 0, none⟩ v') ∧ SoN wr v v' ∧ Only wr (w'.setCell ⟨B, 0, none⟩ v') (B :: v.ownBlock.toList) := by
  obtain ⟨hB, ho⟩ := hw
  have hlt := (Array.getElem?_eq_some_iff.1 hB).1
  have hne := own_ne ho hB hTE
  have hB1 : w1.heap[B]? = some (.cells #[v] T (0, 0)) := (h01.block B hlt (by simp)).trans hB
  have hB' := grown_block hg hB1 hne
  have hne' := own_ne hown hB' hTE
  refine ⟨⟨one_setCell hB', ?_⟩, hs.weaken h01.size, ?_⟩
  · rw [List.length_append, List.map_append]
    exact ownsRow_setCell_other hown (by simpa using hne') _
  · refine Only.step (Only.step (h01.mono (by simp)) (Only.grown (L := v.ownBlock.toList) hg (fun k hk => by simp [hk])) (fun i hi => .inl (by simp [hi]))) (Only.setCell _ _ _ [B] (by simp)) (fun i hi => .inl (by simp_all))

theorem IsW.slice {T E : TypeId} {B : Nat} {v : Value} {xs : List Int} {w : World} (h : IsW T E B v xs w) : ∃ ao c, v = .slice ao xs.length c := by
  rcases h.2.2 with ⟨rfl, h0⟩ | ⟨g, cap, _, rfl, _⟩
  · exact ⟨none, 0, by rw [h0]⟩
  · exact ⟨_, _, rfl⟩

end Go.Pw
