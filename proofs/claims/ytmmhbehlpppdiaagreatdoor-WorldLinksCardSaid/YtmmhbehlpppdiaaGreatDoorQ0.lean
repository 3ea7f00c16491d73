/- WorldLinks, by hand: Base, Sep, MapT, Region, Cmp, Rec, Who, Cpy, Many. -/
import Derived.WalkKit
import Derived.WalkSpells
import Derived.WalkLawsBesides
import Derived.Deep.RegionLaw
import Derived.Deep.QuietTactic
import Derived.BigQuiet
import Derived.BigRegion
import Derived.Lib.Hide
import Derived.Shelf.Bytes.SlEqualAll
import Derived.MapFrom
import Derived.Deep.RegionHeld3
import Derived.Test.YtmmhbehlpppdiaaGreatDoorProg
import Derived.Deep.MidRow
import Derived.Laws.OwnMore
import Derived.Laws.IdiomCopy
import Derived.Lib.Overlaps
import Derived.Lib.AppendZerosOnto
set_option linter.all false
namespace Go.Pw
open Go.RowKit
structure Only (w w' : World) (L : List Nat) : Prop where
  os : w'.os = w.os
  tape : w'.tape = w.tape
  output : w'.output = w.output
  size : w.heap.size ≤ w'.heap.size
  block : ∀ k, k < w.heap.size → k ∉ L → w'.heap[k]? = w.heap[k]?

theorem Only.refl (w : World) (L : List Nat) : Only w w L := ⟨rfl, rfl, rfl, Nat.le_refl _, fun _ _ _ => rfl⟩
theorem Only.trans {a b c : World} {L : List Nat} (h : Only a b L) (k : Only b c L) : Only a c L :=
  ⟨k.os.trans h.os, k.tape.trans h.tape, k.output.trans h.output, Nat.le_trans h.size k.size, fun i hi hn => (k.block i (Nat.lt_of_lt_of_le hi h.size) hn).trans (h.block i hi hn)⟩
theorem Only.mono {a b : World} {L L' : List Nat} (h : Only a b L) (hs : ∀ k, k < a.heap.size → k ∈ L → k ∈ L') : Only a b L' :=
  ⟨h.os, h.tape, h.output, h.size, fun i hi hn => h.block i hi (fun m => hn (hs i hi m))⟩
theorem Only.below {a b : World} {L : List Nat} (h : Only a b L) {B : Nat} (hB : B ≤ a.heap.size) (hL : ∀ k ∈ L, B ≤ k) : Below B a b :=
  ⟨h.os, h.tape, h.output, h.size, fun i hi => h.block i (by omega) (fun m => by have := hL i m; omega)⟩
theorem Only.drew (w : World) (L : List Nat) : Only w w.drew L := ⟨rfl, rfl, rfl, Nat.le_refl _, fun _ _ _ => rfl⟩
theorem Only.alloc (w : World) (o : Obj) (L : List Nat) : Only w (w.alloc o) L := ⟨rfl, rfl, rfl, by simp, fun k hk _ => Below.heap_alloc _ _ _ hk⟩
theorem Only.setCell (w : World) (a : Addr) (u : Value) (L : List Nat) (h : a.block ∈ L) : Only w (w.setCell a u) L :=
  ⟨rfl, rfl, rfl, by simp [World.setCell], fun k _ hn => Below.heap_setCell _ _ _ _ (fun e => hn (e ▸ h))⟩
theorem Only.grown {w w' : World} {row : Option Nat} {L : List Nat} (hg : w.grownBy w' row) (hr : ∀ k, row = some k → k ∈ L) : Only w w' L :=
  ⟨hg.os, hg.tape, hg.output, hg.size, fun k hk hn => hg.block k hk (fun e => hn (hr k e.symm))⟩
def Src (w : World) (x : Value) (size m : Nat) (news : List Value) : Prop :=
  ∃ ao c, x = .slice ao m c ∧ m ≤ c ∧ c ≤ maxLen ∧ news.length = m * size ∧ (ao = none → m = 0 ∧ c = 0) ∧ ∀ b, ao = some b → ∀ j u, news[j]? = some u → w.cell? (b.add j) = some u
def SoN (w : World) (v v' : Value) : Prop := ∀ k, v'.ownBlock = some k → v.ownBlock = some k ∨ w.heap.size ≤ k

theorem SoN.refl (w : World) (v : Value) : SoN w v v := fun _ h => .inl h
theorem SoN.trans {w w1 : World} {v v1 v2 : Value} (h : SoN w v v1) (k : SoN w1 v1 v2) (hs : w.heap.size ≤ w1.heap.size) : SoN w v v2 := fun i hi => by
  rcases k i hi with h1 | h1
  · exact h i h1
  · exact .inr (Nat.le_trans hs h1)

theorem run_append_src {P : Program} (w : World) (t ty e : TypeId) (i : TypeInfo) (z : Value) (size bytes : Nat) (ht : P.underlying t = some (.slice e)) (hi : P.info? e = some i) (hz : i.zero = some z)
    (hsize : i.size = size) (hby : i.bytes = bytes) (hzs : z.cells.size = size) (hsz : 0 < size)
    (v : Value) (n : Nat) (xs : List Value) (hown : w.ownsRow 0 e size v n xs)
    (x : Value) (m : Nat) (news : List Value) (hx : Src w x size m news) (h1 : ∀ u ∈ news, u.oneCell' = true)
    (h63 : n + m ≤ maxLen) (hbytes : (n + m) * bytes ≤ 140737488355328) :
    ∃ v' w', (Builtin.append_ #[t, t] ty #[v, x]).run P w = .ok v' w' ∧ w'.ownsRow 0 e size v' (n + m) (xs ++ news) ∧ w.grownBy w' v.ownBlock ∧ SoN w v v' := by
  obtain ⟨ao, c, rfl, _, _, hl, hnone, hnews⟩ := hx
  cases ao with
  | none =>
    obtain ⟨rfl, rfl⟩ := hnone rfl
    obtain rfl : news = [] := List.eq_nil_of_length_eq_zero (by simpa using hl)
    exact ⟨v, w, run_append_owned_none (P := P) (w := w) 0 t ty e i size ht hi v n xs hown, by simpa using hown, ⟨rfl, rfl, rfl, Nat.le_refl _, fun _ _ _ => rfl⟩, SoN.refl _ _⟩
  | some a =>
    have hnews := hnews a rfl
    subst hsize
    subst hby
    have hsmall : n + m ≤ 9223372036854775807 := by simp only [maxLen] at h63; omega
    have hlen : (xs ++ news).length = (n + m) * i.size := by rw [List.length_append, hown.1, hl, Nat.add_mul]
    have grown : ∀ (old : Nat), old < n + m → ∀ (row : Option Nat),
        (w.drew.alloc (.cells (xs.toArray ++ news.toArray ++ Builtin.zeroCells z.cells (grownCap w (n + m) old e - (n + m))) e)).ownsRow 0 e i.size
          (.slice (some ⟨w.heap.size, 0, none⟩) (n + m) (grownCap w (n + m) old e)) (n + m) (xs ++ news) ∧
        w.grownBy (w.drew.alloc (.cells (xs.toArray ++ news.toArray ++ Builtin.zeroCells z.cells (grownCap w (n + m) old e - (n + m))) e)) row := by
      intro old ho row
      have hge := grownCap_ge w (n + m) old e
      have hcm : grownCap w (n + m) old e ≤ maxLen := grownCap_le_maxLen w (n + m) old e h63
      refine ⟨⟨hlen, .inr ⟨w.heap.size, _, _, rfl, Nat.zero_le _, heap_alloc_new w.drew _, hge, hcm, ?_, ?_⟩⟩, ⟨rfl, rfl, rfl, by simp, fun k hk _ => Below.heap_alloc w.drew _ k hk⟩⟩
      · simp only [Array.size_append, List.size_toArray, size_zeroCells, hzs, hown.1, hl, ← Nat.add_mul]
        congr 1
        omega
      · simp only [Array.toList_append, List.append_assoc]
        rw [← List.append_assoc, ← hlen]
        exact List.take_left
    rcases hown.2 with ⟨rfl, rfl⟩ | ⟨g, cap, cur, rfl, hbg, hg, hnc, hcm, hcs, htake⟩
    · have hx : xs = [] := List.eq_nil_of_length_eq_zero (by simpa using hown.1)
      subst hx
      by_cases hm : m = 0
      · subst hm
        have hn : news = [] := List.eq_nil_of_length_eq_zero (by simpa using hl)
        subst hn
        refine ⟨.slice none 0 0, w, ?_, World.ownsRow_nil w 0 e i.size, ⟨rfl, rfl, rfl, Nat.le_refl _, fun _ _ _ => rfl⟩, SoN.refl _ _⟩
        simp [Builtin.append_, run_underlying ht, sizeOf, typeInfo, hi, Builtin.lenOf, Builtin.firstCells, loadCells, loadCellsFrom]
      · have hr := run_append_nil (P := P) w t ty e i z ht hi hz a m c news hl hnews (by omega) (by omega) (by have hb := hbytes; simp only [Nat.zero_add] at hb; omega)
        have hgr := grown 0 (by omega) (Value.ownBlock (.slice none 0 0))
        simp only [Nat.zero_add, List.nil_append, Array.empty_append] at hgr ⊢
        exact ⟨_, _, hr, hgr.1, hgr.2, fun k hk => .inr (by simp [Value.ownBlock] at hk; omega)⟩
    · by_cases hroom : n + m ≤ cap
      · have hfit : n * i.size + news.length ≤ cur.size := by rw [hl, hcs, ← Nat.add_mul]; exact Nat.mul_le_mul_right _ hroom
        have hr := run_append_room (P := P) w t ty e i ht hi g n cap cur hg a m c news hl hnews h1 hroom hfit
        refine ⟨_, _, hr, ⟨hlen, .inr ⟨g, cap, _, rfl, hbg, setRow_heap w g cur _ e _ hg, hroom, hcm, ?_, ?_⟩⟩, ⟨rfl, rfl, rfl, by simp, fun k _ hk => setRow_other w g k _ (fun e => hk (by simp [Value.ownBlock, e]))⟩, fun k hk => .inl hk⟩
        · simp only [List.size_toArray, List.length_append, List.length_take, List.length_drop, Array.length_toList]
          omega
        · rw [htake, ← hlen]
          exact List.take_left
      · have holds : ∀ j u, xs[j]? = some u → w.cell? ((⟨g, 0, none⟩ : Addr).add j) = some u := hown.cells (g := g) rfl
        have hr := run_append_grow (P := P) w t ty e i z ht hi hz ⟨g, 0, none⟩ n cap xs hown.1 holds a m c news hl hnews (by omega) (by omega) (growslice_fits (by omega) hbytes)
        have hgr := grown cap (by omega) (Value.ownBlock (.slice (some ⟨g, 0, none⟩) n cap))
        exact ⟨_, _, hr, hgr.1, hgr.2, fun k hk => .inr (by simp [Value.ownBlock] at hk; omega)⟩
theorem wpList_append_src {P : Program} {w : World} {ops : Array Oper} {rest : List Oper} {o : Oper} {a : Act} {Q : Exit → Act → World → Prop} (hgd : o.guard = none) (s x : Operand) (t : TypeId)
    (ho : o.op = .call { callee := .builtin .append, args := #[s, x], argTypes := #[t, t] })
    (e : TypeId) (i : TypeInfo) (z : Value) (size bytes : Nat) (ht : P.underlying t = some (.slice e)) (hi : P.info? e = some i) (hz : i.zero = some z)
    (hsize : i.size = size) (hby : i.bytes = bytes) (hzs : z.cells.size = size) (hsz : 0 < size)
    (v : Value) (n : Nat) (xs : List Value) (hs : a.eval s = v) (hown : w.ownsRow 0 e size v n xs)
    (xv : Value) (m : Nat) (news : List Value) (hx : a.eval x = xv) (hsrc : Src w xv size m news) (h1 : ∀ u ∈ news, u.oneCell' = true)
    (h63 : n + m ≤ maxLen) (hbytes : (n + m) * bytes ≤ 140737488355328)
    (h : ∀ v' w', w'.ownsRow 0 e size v' (n + m) (xs ++ news) → w.grownBy w' v.ownBlock → SoN w v v' → wpList P ops Q rest (a.put o.dst v') w') : wpList P ops Q (o :: rest) a w :=
  wpList_plain hgd fun _ hK => by
    obtain ⟨v', w', hrun, r1, r2, r3⟩ := run_append_src (P := P) w t o.type e i z size bytes ht hi hz hsize hby hzs hsz v n xs hown xv m news hsrc h1 h63 hbytes
    unfold Oper.wp
    simp [execOp, ho, resolve, invoke, builtin, hs, hx, hrun, Result.andThen]
    exact hK _ _ (h v' w' r1 r2 r3)
theorem step_append_src {P : Program} {ops : Array Oper} {o : Oper} {a : Act} {w : World} {K : Act → World → Prop} {Q : Exit → Act → World → Prop} {E : Prop}
    (hg : o.guard = none) (s x : Operand) (t : TypeId) (hop : o.op = Op.call { callee := Callee.builtin Builtin.append, args := #[s, x], argTypes := #[t, t] })
    (e : TypeId) (i : TypeInfo) (z : Value) (size bytes : Nat) (ht : P.underlying t = some (.slice e)) (hi : P.info? e = some i) (hz : i.zero = some z)
    (hsize : i.size = size) (hby : i.bytes = bytes) (hzs : z.cells.size = size) (hsz : 0 < size)
    (v : Value) (n : Nat) (xs : List Value) (hs : a.eval s = v) (hown : w.ownsRow 0 e size v n xs)
    (xv : Value) (m : Nat) (news : List Value) (hx : a.eval x = xv) (hsrc : Src w xv size m news) (h1 : ∀ u ∈ news, u.oneCell' = true)
    (h63 : n + m ≤ maxLen) (hbytes : (n + m) * bytes ≤ 140737488355328)
    (hK : ∀ v' w', w'.ownsRow 0 e size v' (n + m) (xs ++ news) → w.grownBy w' v.ownBlock → SoN w v v' → K (a.put o.dst v') w') :
    if Region.wanted o (yielded ops a.tmps) = true then Oper.wp P o a w K Q else E := by
  have hw : Region.wanted o (yielded ops a.tmps) = true := by simp [Region.wanted, hg]
  rw [if_pos hw]
  obtain ⟨v', w', hrun, r1, r2, r3⟩ := run_append_src (P := P) w t o.type e i z size bytes ht hi hz hsize hby hzs hsz v n xs hown xv m news hsrc h1 h63 hbytes
  unfold Oper.wp
  simp [execOp, hop, resolve, invoke, builtin, hs, hx, hrun, Result.andThen]
  exact hK v' w' r1 r2 r3
theorem own_slice {w : World} {base size n : Nat} {e : TypeId} {v : Value} {xs : List Value} (h : w.ownsRow base e size v n xs) : ∃ ao c, v = .slice ao n c := by
  rcases h.2 with ⟨rfl, rfl⟩ | ⟨g, cap, _, rfl, _⟩
  · exact ⟨_, _, rfl⟩
  · exact ⟨_, _, rfl⟩
theorem src_one (w : World) (x : Value) (E : TypeId) : Src (w.alloc (.cells #[x] E)) (.slice (some ⟨w.heap.size, 0, none⟩) 1 1) 1 1 [x] :=
  ⟨_, _, rfl, Nat.le_refl _, by decide, rfl, by simp, fun b hb j u hj => by
    obtain rfl : b = ⟨w.heap.size, 0, none⟩ := by simpa using hb.symm
    exact cell_one_new _ _ _ j u hj⟩

theorem Src.drew {w : World} {x : Value} {size m : Nat} {news : List Value} (h : Src w x size m news) : Src w.drew x size m news := h

theorem Only.step {a b c : World} {L L' : List Nat} (h : Only a b L) (k : Only b c L') (hL : ∀ i ∈ L', i ∈ L ∨ a.heap.size ≤ i) : Only a c L :=
  ⟨k.os.trans h.os, k.tape.trans h.tape, k.output.trans h.output, Nat.le_trans h.size k.size, fun i hi hn => (k.block i (Nat.lt_of_lt_of_le hi h.size) (fun m => by rcases hL i m with h1 | h1; exact hn h1; omega)).trans (h.block i hi hn)⟩

theorem Only.new {a b c : World} {L : List Nat} (h : Only a b []) (k : Only b c L) (hL : ∀ i ∈ L, a.heap.size ≤ i) : Only a c [] := h.step k fun i hi => .inr (hL i hi)

theorem SoN.toList {w : World} {v v' : Value} (h : SoN w v v') : ∀ i ∈ v'.ownBlock.toList, i ∈ v.ownBlock.toList ∨ w.heap.size ≤ i := by
  intro i hi
  have hi' : v'.ownBlock = some i := by simpa using hi
  rcases h i hi' with h1 | h1
  · exact .inl (by simp [h1])
  · exact .inr h1

theorem SoN.weaken {w w1 : World} {v v' : Value} (h : SoN w1 v v') (hs : w.heap.size ≤ w1.heap.size) : SoN w v v' := fun i hi => by
  rcases h i hi with h1 | h1
  · exact .inl h1
  · exact .inr (Nat.le_trans hs h1)
theorem grown_block {w w' : World} {v : Value} {B : Nat} {o : Obj} (hg : w.grownBy w' v.ownBlock) (h : w.heap[B]? = some o) (hne : v.ownBlock ≠ some B) : w'.heap[B]? = some o :=
  (hg.block B (Array.getElem?_eq_some_iff.1 h).1 (fun e => hne e.symm)).trans h
theorem own_ne {w : World} {base size n : Nat} {e T : TypeId} {v : Value} {xs : List Value} {B : Nat} {cs : Array Value} {fr : Nat × Nat} (h : w.ownsRow base e size v n xs) (hB : w.heap[B]? = some (.cells cs T fr)) (hT : T ≠ e) : v.ownBlock ≠ some B := by
  rcases h.2 with ⟨rfl, rfl⟩ | ⟨g, cap, cur, rfl, _, hg, _⟩
  · simp [Value.ownBlock]
  · simp only [Value.ownBlock, ne_eq, Option.some.injEq]
    rintro rfl
    rw [hg] at hB
    simp at hB
    exact hT hB.2.1.symm

theorem cell_al {w : World} {a : Addr} {v : Value} (h : w.cell? a = some v) (o : Obj) : (w.alloc o).cell? a = some v :=
  (World.cell?_of_block (w := w) (Below.heap_alloc w o a.block (World.block_lt_of_cell? w a h))).trans h
def Apart (x : Value) (L : List Nat) : Prop := ∀ k, x.ownBlock = some k → k ∉ L

theorem Src.only {w w' : World} {x : Value} {size m : Nat} {news : List Value} {L : List Nat} (h : Src w x size m news) (ho : Only w w' L) (ha : Apart x L) : Src w' x size m news := by
  obtain ⟨ao, c, rfl, h1, h2, h3, h4, h5⟩ := h
  refine ⟨ao, c, rfl, h1, h2, h3, h4, fun b hb j u hj => ?_⟩
  have hc := h5 b hb j u hj
  have hbk : (b.add j).block = b.block := by unfold Addr.add; split <;> rfl
  refine (World.cell?_of_block (w := w) (ho.block _ (World.block_lt_of_cell? w _ hc) ?_)).trans hc
  rw [hbk]
  exact ha _ (by subst hb; rfl)
def slen : Value → Nat
  | .slice _ n _ => n
  | _ => 0
def Off (x : Value) (L : List Nat) : Prop := 0 < slen x → Apart x L

theorem Src.off {w w' : World} {x : Value} {size m : Nat} {news : List Value} {L : List Nat} (h : Src w x size m news) (ho : Only w w' L) (ha : Off x L) : Src w' x size m news := by
  by_cases hm : 0 < slen x
  · exact h.only ho (ha hm)
  · obtain ⟨ao, c, rfl, h1, h2, h3, h4, h5⟩ := h
    have hm : m = 0 := by simpa [slen] using hm
    subst hm
    refine ⟨ao, c, rfl, h1, h2, h3, h4, fun b hb j u hj => ?_⟩
    have : news = [] := List.eq_nil_of_length_eq_zero (by simpa using h3)
    subst this
    simp at hj
theorem Src.lt {w : World} {x : Value} {size m : Nat} {news : List Value} (h : Src w x size m news) (hs : 0 < size) (hm : 0 < slen x) : ∀ k, x.ownBlock = some k → k < w.heap.size := by
  obtain ⟨ao, c, rfl, h1, h2, h3, h4, h5⟩ := h
  intro k hk
  have hm : 0 < m := hm
  cases ao with
  | none => simp [Value.ownBlock] at hk
  | some a =>
    simp only [Value.ownBlock, Option.some.injEq] at hk
    subst hk
    have hl : 0 < news.length := by rw [h3]; exact Nat.mul_pos hm hs
    have hc := h5 a rfl 0 news[0] (by simp)
    rw [show a.add 0 = a by simp [Addr.add]] at hc
    exact World.block_lt_of_cell? w a hc

theorem Src.off_new {w : World} {x : Value} {size m : Nat} {news : List Value} {L : List Nat} (h : Src w x size m news) (hs : 0 < size) (hL : ∀ k ∈ L, w.heap.size ≤ k) : Off x L := fun hm k hk hkL => by
  have := h.lt hs hm k hk
  have := hL k hkL
  omega

theorem own_src {w : World} {base e size n : Nat} {v : Value} {xs : List Value} (h : w.ownsRow base e size v n xs) : Src w v size n xs := by
  obtain ⟨h0, h1⟩ := h
  rcases h1 with ⟨rfl, rfl⟩ | ⟨g, cap, cur, rfl, hb, hg, h2, h3, h4, h5⟩
  · exact ⟨none, 0, rfl, Nat.le_refl _, Nat.zero_le _, h0, by simp, by simp⟩
  · refine ⟨some ⟨g, 0, none⟩, cap, rfl, h2, h3, h0, by simp, fun b hbb j u hj => ?_⟩
    obtain rfl : b = ⟨g, 0, none⟩ := by simpa using hbb.symm
    exact World.ownsRow.cells (base := base) (e := e) (size := size) (n := n) (v := .slice (some ⟨g, 0, none⟩) n cap) (xs := xs) ⟨h0, .inr ⟨g, cap, cur, rfl, hb, hg, h2, h3, h4, h5⟩⟩ rfl j u hj
theorem own_some {w : World} {base size n c m : Nat} {e : TypeId} {ao : Option Addr} {xs : List Value} (h : w.ownsRow base e size (.slice ao m c) n xs) (hn : 0 < n) : ∃ g, ao = some ⟨g, 0, none⟩ ∧ m = n := by
  rcases h.2 with ⟨_, h0⟩ | ⟨g, cap, _, hv, _⟩
  · omega
  · simp only [Value.slice.injEq] at hv
    exact ⟨g, hv.1, hv.2.1⟩

theorem Only.at {w w' : World} {L : List Nat} {B : Nat} {o : Obj} (ho : Only w w' L) (h : w.heap[B]? = some o) (hn : B ∉ L) : w'.heap[B]? = some o :=
  (ho.block B (Array.getElem?_eq_some_iff.1 h).1 hn).trans h
theorem own_list {w : World} {B : Nat} {v0 v : Value} (h : SoN w v0 v) : ∀ i ∈ B :: v.ownBlock.toList, i ∈ B :: v0.ownBlock.toList ∨ w.heap.size ≤ i := by
  intro i hi
  rcases List.mem_cons.1 hi with rfl | hi
  · exact .inl (by simp)
  · rcases h.toList i hi with h | h
    · exact .inl (by simp [List.mem_cons, h])
    · exact .inr h

theorem one_ints (k : IntKind) (l : List Int) : ∀ u ∈ l.map (Value.int k), u.oneCell' = true := by
  intro u hu
  obtain ⟨x, _, rfl⟩ := List.mem_map.1 hu
  rfl

theorem src_in {w : World} {ao : Option Addr} {n c : Nat} {xs : List Int} (h : Src w (.slice ao n c) 1 n (xs.map (Value.int .u8))) (hn : xs.length = n) : Lib.BytesIn w ao n xs := by
  obtain ⟨ao', c', he, h1, h2, h3, h4, h5⟩ := h
  simp only [Value.slice.injEq] at he
  obtain ⟨rfl, _, rfl⟩ := he
  cases ao with
  | none => rw [(h4 rfl).1]; exact Lib.BytesIn.nil _ _ _
  | some a =>
    refine Lib.BytesIn.of_cells fun i hi => h5 a rfl i _ ?_
    simp [hn, hi]
theorem run_str {P : Program} {w : World} {S E T : TypeId} (hS : P.underlying S = some (.slice E)) (hE : P.underlying E = some (.int .u8)) (hT : P.underlying T = some .string) {ao : Option Addr} {n c : Nat} {xs : List Int} (h : Src w (.slice ao n c) 1 n (xs.map (Value.int .u8))) (hn : xs.length = n) :
    (convert S T (.slice ao n c)).run P w = .ok (.string (strOfNums xs)) w :=
  (src_in h hn).convert hn c S E T hS hE hT

theorem cell_in {w : World} {b : Nat} {cs : Array Value} {t : TypeId} {fr : Nat × Nat} (h : w.heap[b]? = some (.cells cs t fr)) (i : Nat) : w.cell? ⟨b, i, none⟩ = cs[i]? := by simp [World.cell?, h]
theorem free_in {w : World} {b : Nat} {cs : Array Value} {t : TypeId} (h : w.heap[b]? = some (.cells cs t (0, 0))) (i : Nat) : w.frozen? ⟨b, i, none⟩ = false := by simp [World.frozen?, h]
theorem Only.cell_in {w w' : World} {b : Nat} {cs : Array Value} {t : TypeId} {fr : Nat × Nat} {L : List Nat} (ho : Only w w' L) (h : w.heap[b]? = some (.cells cs t fr)) (hn : b ∉ L) (i : Nat) : w'.cell? ⟨b, i, none⟩ = cs[i]? := Pw.cell_in (ho.at h hn) i
theorem set_at {w : World} {b i : Nat} {cs : Array Value} {t : TypeId} {fr : Nat × Nat} (h : w.heap[b]? = some (.cells cs t fr)) (u : Value) : (w.setCell ⟨b, i, none⟩ u).heap[b]? = some (.cells (cs.setIfInBounds i u) t fr) := by
  have hlt := lt_of_block h
  have h' : w.heap[b] = .cells cs t fr := by simpa [Array.getElem?_eq_getElem hlt] using h
  show (w.heap.modify b _)[b]? = _
  rw [Array.getElem?_eq_getElem (by simpa using hlt), Array.getElem_modify_self, h']
  rfl
def IsW (T E : TypeId) (B : Nat) (v : Value) (xs : List Int) (w : World) : Prop :=
  w.heap[B]? = some (.cells #[v] T (0, 0)) ∧ w.ownsRow 0 E 1 v xs.length (xs.map (Value.int .u8))
theorem isw_step {T E : TypeId} {B : Nat} {v v' : Value} {ys news : List Int} {wr w1 w' : World} (hTE : T ≠ E) (hw : IsW T E B v ys wr) (h01 : Only wr w1 [])
    (hown : w'.ownsRow 0 E 1 v' (ys.length + news.length) (ys.map (Value.int .u8) ++ news.map (Value.int .u8))) (hg : w1.grownBy w' v.ownBlock) (hs : SoN w1 v v') :
    IsW T E B v' (ys ++ news) (w'.setCell ⟨B, 0, none⟩ v') ∧ SoN wr v v' ∧ Only wr (w'.setCell ⟨B, 0, none⟩ v') (B :: v.ownBlock.toList) := by
  obtain ⟨hB, ho⟩ := hw
  have hlt := (Array.getElem?_eq_some_iff.1 hB).1
  have hne := own_ne ho hB hTE
  have hB1 : w1.heap[B]? = some (.cells #[v] T (0, 0)) := (h01.block B hlt (by simp)).trans hB
  have hB' := grown_block hg hB1 hne
  have hne' := own_ne hown hB' hTE
  refine ⟨⟨one_setCell hB', ?_⟩, hs.weaken h01.size, ?_⟩
  · rw [List.length_append, List.map_append]
    exact ownsRow_setCell_other hown (by simpa using hne') _
  · refine Only.step (Only.step (h01.mono (by simp)) (Only.grown (L := v.ownBlock.toList) hg (fun k hk => by simp [hk])) (fun i hi => .inl (by simp [hi]))) (Only.setCell _ _ _ [B] (by simp)) (fun i hi => .inl (by simp_all))

theorem IsW.slice {T E : TypeId} {B : Nat} {v : Value} {xs : List Int} {w : World} (h : IsW T E B v xs w) : ∃ ao c, v = .slice ao xs.length c := by
  rcases h.2.2 with ⟨rfl, h0⟩ | ⟨g, cap, _, rfl, _⟩
  · exact ⟨none, 0, by rw [h0]⟩
  · exact ⟨_, _, rfl⟩

end Go.Pw
namespace Go.Pw
open Go.RowKit

theorem Only.drewN (w : World) (n : Nat) (L : List Nat) : Only w (w.drewN n) L := ⟨rfl, rfl, rfl, Nat.le_refl _, fun _ _ _ => rfl⟩
structure Res where
  fp : List Nat
  ok : World → Prop
  loc : ∀ w w', (∀ k ∈ fp, w'.heap[k]? = w.heap[k]?) → ok w → ok w'
  lt : ∀ w, ok w → ∀ k ∈ fp, k < w.heap.size
structure Sep (w0 w : World) (rs : List Res) : Prop where
  only : Only w0 w []
  ok : ∀ r ∈ rs, r.ok w
  new : ∀ r ∈ rs, ∀ k ∈ r.fp, w0.heap.size ≤ k
  apart : rs.Pairwise fun a b => ∀ k ∈ a.fp, k ∉ b.fp

theorem Res.only {r : Res} {w w' : World} {L : List Nat} (h : r.ok w) (ho : Only w w' L) (hd : ∀ k ∈ r.fp, k ∉ L) : r.ok w' :=
  r.loc w w' (fun k hk => ho.block k (r.lt w h k hk) (hd k hk)) h

theorem Sep.nil (w : World) : Sep w w [] := ⟨Only.refl _ _, by simp, by simp, List.Pairwise.nil⟩

theorem Sep.perm {w0 w : World} {rs rs' : List Res} (h : Sep w0 w rs) (hp : rs.Perm rs') : Sep w0 w rs' :=
  ⟨h.only, fun r hr => h.ok r (hp.mem_iff.2 hr), fun r hr => h.new r (hp.mem_iff.2 hr), h.apart.perm hp (fun hab k hb ha => hab k ha hb)⟩

theorem Sep.head {w0 w : World} {r : Res} {rs : List Res} (h : Sep w0 w (r :: rs)) : r.ok w := h.ok r (by simp)
theorem Sep.tail {w0 w : World} {r : Res} {rs : List Res} (h : Sep w0 w (r :: rs)) : Sep w0 w rs :=
  ⟨h.only, fun x hx => h.ok x (by simp [hx]), fun x hx => h.new x (by simp [hx]), (List.pairwise_cons.1 h.apart).2⟩
theorem Sep.get {w0 w : World} {rs : List Res} (h : Sep w0 w rs) (i : Nat) {r : Res} (hr : rs[i]? = some r) : r.ok w := h.ok r (List.mem_of_getElem? hr)
theorem up_perm {α : Type} : ∀ (l : List α) (i : Nat) (h : i < l.length), l.Perm (l[i] :: l.eraseIdx i)
  | a :: l, 0, _ => List.Perm.refl _
  | a :: l, i + 1, h => by
    have := up_perm l i (by simpa using h)
    exact (this.cons a).trans (List.Perm.swap _ _ _)
theorem Sep.up {w0 w : World} {rs : List Res} (h : Sep w0 w rs) (i : Nat) (hi : i < rs.length) : Sep w0 w (rs[i] :: rs.eraseIdx i) :=
  h.perm (up_perm rs i hi)
theorem Sep.step {w0 w w' : World} {a b : Res} {rs : List Res} {L : List Nat} (h : Sep w0 w (a :: rs)) (ho : Only w w' L) (hL : ∀ k ∈ L, k ∈ a.fp ∨ w.heap.size ≤ k) (hb : b.ok w') (hf : ∀ k ∈ b.fp, k ∈ a.fp ∨ w.heap.size ≤ k) : Sep w0 w' (b :: rs) := by
  have ha : ∀ k ∈ a.fp, w0.heap.size ≤ k := h.new a (by simp)
  have hp := List.pairwise_cons.1 h.apart
  refine ⟨h.only.new ho fun k hk => ?_, fun r hr => ?_, fun r hr => ?_, List.pairwise_cons.2 ⟨fun r hr k hk hkr => ?_, hp.2⟩⟩
  · rcases hL k hk with h1 | h1
    · exact ha k h1
    · have := h.only.size; omega
  · rcases List.mem_cons.1 hr with rfl | hr
    · exact hb
    · have hk := h.ok r (by simp [hr])
      refine Res.only hk ho fun k h1 h2 => ?_
      rcases hL k h2 with h3 | h3
      · exact hp.1 r hr k h3 h1
      · have := r.lt w hk k h1; omega
  · rcases List.mem_cons.1 hr with rfl | hr
    · intro k hk
      rcases hf k hk with h1 | h1
      · exact ha k h1
      · have := h.only.size; omega
    · exact h.new r (by simp [hr])
  · rcases hf k hk with h1 | h1
    · exact hp.1 r hr k h1 hkr
    · have := r.lt w (h.ok r (by simp [hr])) k hkr; omega
theorem Sep.quiet {w0 w w' : World} {rs : List Res} (h : Sep w0 w rs) (ho : Only w w' []) : Sep w0 w' rs :=
  ⟨h.only.trans ho, fun r hr => Res.only (h.ok r hr) ho (by simp), h.new, h.apart⟩
theorem Sep.add {w0 w w' : World} {b : Res} {rs : List Res} (h : Sep w0 w rs) (ho : Only w w' []) (hb : b.ok w') (hf : ∀ k ∈ b.fp, w.heap.size ≤ k) : Sep w0 w' (b :: rs) :=
  ⟨h.only.trans ho, fun r hr => by rcases List.mem_cons.1 hr with rfl | hr; exact hb; exact Res.only (h.ok r hr) ho (by simp),
   fun r hr => by rcases List.mem_cons.1 hr with rfl | hr; exact fun k hk => Nat.le_trans h.only.size (hf k hk); exact h.new r hr,
   List.pairwise_cons.2 ⟨fun r hr k hk hkr => by have := r.lt w (h.ok r hr) k hkr; have := hf k hk; omega, h.apart⟩⟩
theorem Sep.src {w0 w : World} {rs : List Res} (h : Sep w0 w rs) {x : Value} {size m : Nat} {news : List Value} (hs : Src w0 x size m news) : Src w x size m news := hs.off h.only (fun _ _ _ => by simp)
def blk (B : Nat) (cs : List Value) (T : TypeId) : Res where
  fp := [B]
  ok w := w.heap[B]? = some (.cells cs.toArray T (0, 0))
  loc w w' h k := (h B (by simp)).trans k
  lt w h k hk := by obtain rfl : k = B := by simpa using hk
                    exact (Array.getElem?_eq_some_iff.1 h).1
def row (e size : Nat) (v : Value) (n : Nat) (xs : List Value) : Res where
  fp := v.ownBlock.toList
  ok w := w.ownsRow 0 e size v n xs
  loc w w' h k := ⟨k.1, by
    rcases k.2 with hn | ⟨g, cap, cur, rfl, hb, hg, rest⟩
    · exact .inl hn
    · exact .inr ⟨g, cap, cur, rfl, hb, (h g (by simp [Value.ownBlock])).trans hg, rest⟩⟩
  lt w h k hk := (h.lt k (by simpa using hk)).2
def two (a b : Res) : Res where
  fp := a.fp ++ b.fp
  ok w := a.ok w ∧ b.ok w ∧ ∀ k ∈ a.fp, k ∉ b.fp
  loc w w' h k := ⟨a.loc w w' (fun i hi => h i (by simp [hi])) k.1, b.loc w w' (fun i hi => h i (by simp [hi])) k.2.1, k.2.2⟩
  lt w h k hk := by
    rcases List.mem_append.1 hk with hk | hk
    · exact a.lt w h.1 k hk
    · exact b.lt w h.2.1 k hk
def many (l : List Res) : Res where
  fp := l.flatMap Res.fp
  ok w := (∀ r ∈ l, r.ok w) ∧ l.Pairwise fun (a b : Res) => ∀ k ∈ a.fp, k ∉ b.fp
  loc w w' h k := ⟨fun r hr => r.loc w w' (fun i hi => h i (List.mem_flatMap.2 ⟨r, hr, hi⟩)) (k.1 r hr), k.2⟩
  lt w h k hk := by
    obtain ⟨r, hr, hk⟩ := List.mem_flatMap.1 hk
    exact r.lt w (h.1 r hr) k hk

theorem Sep.join {w0 w : World} {a b : Res} {rs : List Res} (h : Sep w0 w (a :: b :: rs)) : Sep w0 w (two a b :: rs) := by
  have hp := List.pairwise_cons.1 h.apart
  have hq := List.pairwise_cons.1 hp.2
  refine ⟨h.only, fun r hr => ?_, fun r hr k hk => ?_, List.pairwise_cons.2 ⟨fun r hr k hk => ?_, hq.2⟩⟩
  · rcases List.mem_cons.1 hr with rfl | hr
    · exact ⟨h.ok a (by simp), h.ok b (by simp), hp.1 b (by simp)⟩
    · exact h.ok r (by simp [hr])
  · rcases List.mem_cons.1 hr with rfl | hr
    · rcases List.mem_append.1 hk with hk | hk
      · exact h.new a (by simp) k hk
      · exact h.new b (by simp) k hk
    · exact h.new r (by simp [hr]) k hk
  · rcases List.mem_append.1 hk with hk | hk
    · exact hp.1 r (by simp [hr]) k hk
    · exact hq.1 r hr k hk
theorem Sep.split {w0 w : World} {a b : Res} {rs : List Res} (h : Sep w0 w (two a b :: rs)) : Sep w0 w (a :: b :: rs) := by
  have hp := List.pairwise_cons.1 h.apart
  have ht : (two a b).ok w := h.head
  refine ⟨h.only, fun r hr => ?_, fun r hr k hk => ?_, List.pairwise_cons.2 ⟨fun r hr k hk => ?_, List.pairwise_cons.2 ⟨fun r hr k hk => ?_, hp.2⟩⟩⟩
  · rcases List.mem_cons.1 hr with rfl | hr
    · exact ht.1
    · rcases List.mem_cons.1 hr with rfl | hr
      · exact ht.2.1
      · exact h.ok r (by simp [hr])
  · rcases List.mem_cons.1 hr with rfl | hr
    · exact h.new (two r b) (by simp) k (List.mem_append.2 (.inl hk))
    · rcases List.mem_cons.1 hr with rfl | hr
      · exact h.new (two a r) (by simp) k (List.mem_append.2 (.inr hk))
      · exact h.new r (by simp [hr]) k hk
  · rcases List.mem_cons.1 hr with rfl | hr
    · exact ht.2.2 k hk
    · exact hp.1 r hr k (List.mem_append.2 (.inl hk))
  · exact hp.1 r hr k (List.mem_append.2 (.inr hk))

theorem many_ok {l : List Res} {w : World} (h : (many l).ok w) {r : Res} (hr : r ∈ l) : r.ok w := h.1 r hr
theorem Sep.many_nil {w0 w : World} {rs : List Res} (h : Sep w0 w rs) : Sep w0 w (many [] :: rs) :=
  h.add (Only.refl _ _) ⟨by simp, List.Pairwise.nil⟩ (fun k hk => by simp [many] at hk)
theorem Sep.many_snoc {w0 w : World} {l : List Res} {a : Res} {rs : List Res} (h : Sep w0 w (many l :: a :: rs)) : Sep w0 w (many (l ++ [a]) :: rs) := by
  have hp := List.pairwise_cons.1 h.apart
  have hq := List.pairwise_cons.1 hp.2
  have hm : (many l).ok w := h.head
  refine ⟨h.only, fun r hr => ?_, fun r hr k hk => ?_, List.pairwise_cons.2 ⟨fun r hr k hk => ?_, hq.2⟩⟩
  · rcases List.mem_cons.1 hr with rfl | hr
    · refine ⟨fun r hr => ?_, List.pairwise_append.2 ⟨hm.2, List.pairwise_singleton _ _, fun x hx y hy k hk => ?_⟩⟩
      · rcases List.mem_append.1 hr with hr | hr
        · exact hm.1 r hr
        · obtain rfl : r = a := by simpa using hr
          exact h.ok r (by simp)
      · obtain rfl : y = a := by simpa using hy
        exact hp.1 y (by simp) k (List.mem_flatMap.2 ⟨x, hx, hk⟩)
    · exact h.ok r (by simp [hr])
  · rcases List.mem_cons.1 hr with rfl | hr
    · have hk' : k ∈ (l ++ [a]).flatMap Res.fp := hk
      rw [List.flatMap_append, List.mem_append] at hk'
      rcases hk' with hk | hk
      · exact h.new (many l) (by simp) k hk
      · exact h.new a (by simp) k (by simpa using hk)
    · exact h.new r (by simp [hr]) k hk
  · have hk' : k ∈ (l ++ [a]).flatMap Res.fp := hk
    rw [List.flatMap_append, List.mem_append] at hk'
    rcases hk' with hk | hk
    · exact hp.1 r (by simp [hr]) k hk
    · exact hq.1 r hr k (by simpa using hk)
theorem many_sub {l l' : List Res} {w : World} (h : (many l).ok w) (hs : l'.Sublist l) : (many l').ok w :=
  ⟨fun r hr => h.1 r (hs.subset hr), h.2.sublist hs⟩
theorem src_lit (w : World) (cs : List Value) (E : TypeId) (m size : Nat) (h : cs.length = m * size) (hm : m ≤ maxLen := by decide) : Src (w.alloc (.cells cs.toArray E)) (.slice (some ⟨w.heap.size, 0, none⟩) m m) size m cs :=
  ⟨_, _, rfl, Nat.le_refl _, hm, h, by simp, fun b hb j u hj => by
    obtain rfl : b = ⟨w.heap.size, 0, none⟩ := by simpa using hb.symm
    rw [Addr.add_lit, Pw.cell_in (heap_alloc_new w _)]
    simpa using hj⟩
theorem src_litF (w : World) (cs : List Value) (E : TypeId) (fr : Nat × Nat) (m size : Nat) (h : cs.length = m * size) (hm : m ≤ maxLen := by decide) : Src (w.alloc (.cells cs.toArray E fr)) (.slice (some ⟨w.heap.size, 0, none⟩) m m) size m cs :=
  ⟨_, _, rfl, Nat.le_refl _, hm, h, by simp, fun b hb j u hj => by
    obtain rfl : b = ⟨w.heap.size, 0, none⟩ := by simpa using hb.symm
    rw [Addr.add_lit, Pw.cell_in (heap_alloc_new w _)]
    simpa using hj⟩
theorem cell_two0 {w : World} {b : Nat} {u v : Value} {t : TypeId} (h : w.heap[b]? = some (.cells #[u, v] t (0, 0))) : w.cell? ⟨b, 0, none⟩ = some u := by simp [World.cell?, h]
theorem cell_two1 {w : World} {b : Nat} {u v : Value} {t : TypeId} (h : w.heap[b]? = some (.cells #[u, v] t (0, 0))) : w.cell? ⟨b, 1, none⟩ = some v := by simp [World.cell?, h]
theorem src_at {w : World} {ao : Option Addr} {n c : Nat} {cs : List Value} (h : Src w (.slice ao n c) 1 n cs) {k : Nat} (hk : k < n) : ∃ b o, ao = some ⟨b, o, none⟩ ∧ ∀ j u, cs[j]? = some u → w.cell? ⟨b, o + j, none⟩ = some u := by
  obtain ⟨ao', c', he, hc1, hc2, hc3, hc4, hc5⟩ := h
  simp only [Value.slice.injEq] at he
  obtain ⟨rfl, _, rfl⟩ := he
  cases ao with
  | none => have := (hc4 rfl).1; omega
  | some ad =>
    obtain ⟨b, o, sp⟩ := ad
    have hl : 0 < cs.length := by rw [hc3]; omega
    have hcz := hc5 _ rfl 0 cs[0] (by simp)
    have hsp : sp = none := by simpa [Addr.add] using World.cell?_spot hcz
    subst hsp
    exact ⟨b, o, rfl, fun j u hj => by have := hc5 _ rfl j u hj; rwa [Addr.add_lit] at this⟩
theorem src_new {w : World} {ao : Option Addr} {n c : Nat} {cs : List Value} (h : Src w (.slice ao n c) 1 n cs) {k : Nat} (hk : k < n) : ∃ b o, ao = some ⟨b, o, none⟩ ∧ ∀ w', Only w w' [] → ∀ j u, cs[j]? = some u → w'.cell? ⟨b, o + j, none⟩ = some u := by
  obtain ⟨b, o, rfl, _⟩ := src_at h hk
  refine ⟨b, o, rfl, fun w' ho j u hj => ?_⟩
  obtain ⟨b', o', e, hc⟩ := src_at (h.off ho (fun _ _ _ => by simp)) hk
  cases e
  exact hc j u hj
theorem wpList_append_run {P : Program} {w : World} {ops : Array Oper} {rest : List Oper} {o : Oper} {a : Act} {Q : Exit → Act → World → Prop} (hgd : o.guard = none) (s x : Operand) (t : TypeId)
    (ho : o.op = .call { callee := .builtin .append, args := #[s, x], argTypes := #[t, t] }) (v xv : Value) (hs : a.eval s = v) (hx : a.eval x = xv) {v' : Value} {w' : World}
    (hrun : (Builtin.append_ #[t, t] o.type #[v, xv]).run P w = .ok v' w') (h : wpList P ops Q rest (a.put o.dst v') w') : wpList P ops Q (o :: rest) a w :=
  wpList_plain hgd fun _ hK => by
    unfold Oper.wp
    simp [execOp, ho, resolve, invoke, builtin, hs, hx, hrun, Result.andThen]
    exact hK _ _ h
theorem Sep.box {w0 w : World} {rs : List Res} (h : Sep w0 w rs) (cs : List Value) (T : TypeId) : Sep w0 (w.alloc (.cells cs.toArray T)) (blk w.heap.size cs T :: rs) :=
  h.add (Only.alloc _ _ _) (heap_alloc_new w _) (fun k hk => by simp [blk] at hk; omega)
theorem Sep.put {w0 w : World} {rs : List Res} {B : Nat} {cs : List Value} {T : TypeId} (h : Sep w0 w (blk B cs T :: rs)) (i : Nat) (u : Value) : Sep w0 (w.setCell ⟨B, i, none⟩ u) (blk B (cs.set i u) T :: rs) :=
  h.step (L := [B]) (Only.setCell _ _ _ _ (by simp)) (fun k hk => .inl hk) (by
    have := set_at (i := i) (show w.heap[B]? = _ from h.head) u
    simpa [blk] using this) (fun k hk => .inl hk)
theorem Sep.app {w0 w w' : World} {rs : List Res} {e size n m : Nat} {v v' : Value} {xs news : List Value} (h : Sep w0 w (row e size v n xs :: rs)) (h1 : w'.ownsRow 0 e size v' (n + m) (xs ++ news)) (h2 : w.grownBy w' v.ownBlock) (h3 : SoN w v v') : Sep w0 w' (row e size v' (n + m) (xs ++ news) :: rs) :=
  h.step (L := v.ownBlock.toList) (Only.grown h2 (fun k hk => by simp [hk])) (fun k hk => .inl hk) h1 (fun k hk => h3.toList k hk)
theorem Sep.rown {w0 w : World} {rs : List Res} (h : Sep w0 w rs) (e size : Nat) : Sep w0 w (row e size (.slice none 0 0) 0 [] :: rs) :=
  h.add (Only.refl _ _) (World.ownsRow_nil _ _ _ _) (fun k hk => by simp [row, Value.ownBlock] at hk)
end Go.Pw
namespace Go.Pw
open Go.RowKit Go.MapKept Go.MapFrom

def KS (v : Value) : Prop := ∃ s, v = .string s
def VN (n : Nat) (v : Value) : Prop := ∃ z : Int, v = .int .i64 z ∧ 0 ≤ z ∧ z < n
theorem VN.mono {n m : Nat} (h : n ≤ m) {v : Value} (k : VN n v) : VN m v := by
  obtain ⟨z, rfl, h1, h2⟩ := k
  exact ⟨z, rfl, h1, by omega⟩
theorem passes_mono {n m : Nat} (h : n ≤ m) {es : Array MapEntry} (k : Passes KS (VN n) es) : Passes KS (VN m) es := fun x hx => ⟨(k x hx).1, (k x hx).2.mono h⟩
def mapT (B n : Nat) : Res where
  fp := [B]
  ok w := ∃ es c, w.heap[B]? = some (.map es c) ∧ Passes KS (VN n) es
  loc w w' h k := by
    obtain ⟨es, c, h1, h2⟩ := k
    exact ⟨es, c, (h B (by simp)).trans h1, h2⟩
  lt w h k hk := by
    obtain ⟨es, c, h1, h2⟩ := h
    obtain rfl : k = B := by simpa using hk
    exact (Array.getElem?_eq_some_iff.1 h1).1
theorem mapT_mono {B n m : Nat} (h : n ≤ m) {w : World} (k : (mapT B n).ok w) : (mapT B m).ok w := by
  obtain ⟨es, c, h1, h2⟩ := k
  exact ⟨es, c, h1, passes_mono h h2⟩

section
variable {P : Program} {w : World} {mty kt et : TypeId} {d : TypeDesc} {B n : Nat}

theorem ks_key (hd : P.underlying kt = some (.string)) {v : Value} (h : KS v) : IsKey .string v := by
  obtain ⟨s, rfl⟩ := h
  simp [IsKey]

theorem lookup_T (hm : P.underlying mty = some (.map kt et)) (hd : P.underlying kt = some .string) (h : (mapT B n).ok w) {key : Value} (hk : KS key) {z : Value} (hz : ∀ w, (zeroValue et).run P w = .ok z w) :
    ∃ v b, (Instr.lookup mty (.map (some B)) key true).run P w = .ok (.tuple #[v, .bool b]) w ∧ ((b = false ∧ v = z) ∨ (b = true ∧ VN n v)) := by
  obtain ⟨es, c, hb, hp⟩ := h
  have hks : ∀ x ∈ es.toList, IsKey .string x.key := fun x hx => ks_key hd (hp x hx).1
  have hk' := ks_key hd hk
  rcases findNow_spec hk' es.toList 0 hks with ⟨h1, _⟩ | ⟨j, e, h1, h2, h3⟩
  · exact ⟨z, false, by simp [Instr.lookup, run_underlying hm, MapKept.run_getObj_map hb, run_checkKey hd hk', run_findKey hd h1, hz, Result.andThen], .inl ⟨rfl, rfl⟩⟩
  · have hj : es[j]? = some e := by simpa using h2
    exact ⟨e.val, true, by simp [Instr.lookup, run_underlying hm, MapKept.run_getObj_map hb, run_checkKey hd hk', run_findKey hd h1, Result.andThen], .inr ⟨rfl, (hp e (at_mem hj)).2⟩⟩
theorem entry_T (hm : P.underlying mty = some (.map kt et)) (hd : P.underlying kt = some .string) (h : (mapT B n).ok w) (hn : 0 < n) {key : Value} (hk : KS key) (hz : ∀ w, (zeroValue et).run P w = .ok (.int .i64 0) w) :
    ∃ (v : Value) (s : Int) (w' : World), (Instr.mapEntry mty (.map (some B)) key).run P w = .ok (.tuple #[v, .int .i64 s]) w' ∧ Only w w' [B] ∧ (mapT B n).ok w' ∧
      ∀ (w2 : World) (u : Value), w2.heap[B]? = w'.heap[B]? → VN n u → ∃ w3, (Instr.entryStore mty (.map (some B)) (.int .i64 s) u).run P w2 = .ok () w3 ∧ Only w2 w3 [B] ∧ (mapT B n).ok w3 := by
  obtain ⟨es, c, hb, hp⟩ := h
  have hks : ∀ x ∈ es.toList, IsKey .string x.key := fun x hx => ks_key hd (hp x hx).1
  have hk' := ks_key hd hk
  have z0 : VN n (.int .i64 0) := ⟨0, rfl, Int.le_refl _, by omega⟩
  have fin : ∀ (es' : Array MapEntry) (c' : Nat) (s : Int), Passes KS (VN n) es' → (∃ i : Nat, (es'.findIdx? fun e => (e.born : Int) == s) = some i) → ∀ w2 u, w2.heap[B]? = some (.map es' c') → VN n u → ∃ w3, (Instr.entryStore mty (.map (some B)) (.int .i64 s) u).run P w2 = .ok () w3 ∧ Only w2 w3 [B] ∧ (mapT B n).ok w3 := by
    intro es' c' s hp' hi w2 u h2 hu
    obtain ⟨i, hi⟩ := hi
    have hset := heap_set (o' := .map (es'.modify i fun e => { e with val := u }) c') h2
    refine ⟨{ w2 with heap := w2.heap.setIfInBounds B (.map (es'.modify i fun e => { e with val := u }) c') }, ?_, ⟨rfl, rfl, rfl, by simp, fun k hk hn => hset.2 k (by simpa using hn)⟩, _, _, hset.1, passes_modify hp' _ _ fun e he => ⟨(hp' e (at_mem he)).1, hu⟩⟩
    simp [Instr.entryStore, MapKept.run_getObj_map h2, asInt, asIntOf, hi, run_setObj_map _ h2, Result.andThen]
  rcases findNow_spec hk' es.toList 0 hks with ⟨h1, _⟩ | ⟨j, e, h1, h2, h3⟩
  · have hset := heap_set (o' := .map (es.push { key := key, val := .int .i64 0, born := c }) (c + 1)) hb
    refine ⟨.int .i64 0, c, { w with heap := w.heap.setIfInBounds B (.map (es.push { key := key, val := .int .i64 0, born := c }) (c + 1)) }, ?_, ?_, ?_, ?_⟩
    · simp [Instr.mapEntry, run_underlying hm, MapKept.run_getObj_map hb, run_checkKey hd hk', run_findKey hd h1, hz, run_setObj_map _ hb, Result.andThen, goInt]
    · exact ⟨rfl, rfl, rfl, by simp, fun k _ hn => hset.2 k (by simpa using hn)⟩
    · exact ⟨_, _, hset.1, passes_push hp hk z0⟩
    · intro w2 u h2 hu
      refine fin _ _ _ (passes_push hp hk z0) ?_ w2 u (h2.trans hset.1) hu
      cases hf : (es.push { key := key, val := .int .i64 0, born := c }).findIdx? fun e => (e.born : Int) == (c : Int) with
      | some i => exact ⟨i, rfl⟩
      | none =>
        rw [Array.findIdx?_eq_none_iff] at hf
        have := hf { key := key, val := .int .i64 0, born := c } (by simp)
        simp at this
  · have hj : es[j]? = some e := by simpa using h2
    have hset := heap_set (o' := .map (es.modify j fun e => { e with key := key }) c) hb
    have hp2 : Passes KS (VN n) (es.modify j fun e => { e with key := key }) := passes_modify hp _ _ fun e' he' => ⟨hk, (hp e' (at_mem he')).2⟩
    refine ⟨e.val, e.born, { w with heap := w.heap.setIfInBounds B (.map (es.modify j fun e => { e with key := key }) c) }, ?_, ?_, ?_, ?_⟩
    · simp [Instr.mapEntry, run_underlying hm, MapKept.run_getObj_map hb, run_checkKey hd hk', run_findKey hd h1, hj, h3, run_keyThatStays hk', run_setObj_map _ hb, Result.andThen, goInt]
    · exact ⟨rfl, rfl, rfl, by simp, fun k _ hn => hset.2 k (by simpa using hn)⟩
    · exact ⟨_, _, hset.1, hp2⟩
    · intro w2 u h2 hu
      refine fin _ _ _ hp2 ?_ w2 u (h2.trans hset.1) hu
      cases hf : (es.modify j fun e => { e with key := key }).findIdx? fun e' => (e'.born : Int) == (e.born : Int) with
      | some i => exact ⟨i, rfl⟩
      | none =>
        rw [Array.findIdx?_eq_none_iff] at hf
        have hm2 : (es.modify j fun e => { e with key := key })[j]? = some { e with key := key } := by
          rw [Array.getElem?_modify, if_pos rfl, hj]
          rfl
        have := hf _ (Array.mem_of_getElem? hm2)
        simp at this
end
end Go.Pw
namespace Go.Pw
open Go.RowKit

variable {P : Program} {ops : Array Oper} {Q : Exit → Act → World → Prop} {md : Region.Mode} {S S' : World → Prop}
theorem wpAnyH_more (h : ∀ w, S' w → S w) : ∀ (fuel : Nat) (listed : Array Bool) (a : Act) (w : World), wpAnyH P md ops Q S' fuel listed a w → wpAnyH P md ops Q S fuel listed a w
  | 0, _, _, _, hh => hh
  | fuel + 1, _, _, _, hh => ⟨hh.1, fun i hi => wpOp_mono (fun a' w' h' => ⟨h w' h'.1, wpAnyH_more h fuel _ a' w' h'.2⟩) (hh.2 i hi)⟩
theorem op_at {l : List Oper} {i : Nat} {oi : Oper} {rest : List Oper} (h : l.drop i = oi :: rest) : l.toArray[i]? = some oi := by
  rw [List.getElem?_toArray, ← List.head?_drop, h]
  rfl
theorem range_of {w : World} {b : Nat} {l : List Value} {t : TypeId} {fr : Nat × Nat} (h : w.heap[b]? = some (.cells l.toArray t fr)) : w.rangeAt b 0 l := fun j v hv => by
  rw [cell_in h, Nat.zero_add]
  simpa using hv
end Go.Pw
namespace Go.Proofs.YtmmhbehlpppdiaaGreatDoor
open Go.RowKit Go.Pw

set_option maxHeartbeats 400000 in
theorem nanint_any (x : Int) (w : World) :
    Calls Tryz.prog 203 #[.int .i64 x] w fun e w' => e = .returned (.bool false) ∧ w = w' := by
  go_enter Tryz.func203, Tryz.ntmps203
  go_wp2
  go_ret
  exact ⟨by simp, rfl⟩

def cmpI (a b : Int) : Int := if a < b then -1 else if b < a then 1 else 0
set_option maxHeartbeats 400000 in
theorem cmpint_any (a b : Int) (w : World) :
    Calls Tryz.prog 129 #[.int .i64 a, .int .i64 b] w fun e w' => e = .returned (.int .i64 (cmpI a b)) ∧ w = w' := by
  go_enter Tryz.func129, Tryz.ntmps129
  go_wp2_with fail
  refine (nanint_any a _).mono ?_
  rintro e w1 ⟨rfl, rfl⟩
  go_wp2_with fail
  refine (nanint_any b _).mono ?_
  rintro e w1 ⟨rfl, rfl⟩
  by_cases h1 : a < b
  · have d1 : decide (a < b) = true := by simpa using h1
    have E : Hid (cmpI a b = -1) := if_pos h1
    go_wp2_with fail
    go_ret
    exact ⟨by rw [E.out]; rfl, rfl⟩
  · have d1 : decide (a < b) = false := by simpa using h1
    by_cases h2 : b < a
    · have d2 : decide (b < a) = true := by simpa using h2
      have E : Hid (cmpI a b = 1) := (if_neg h1).trans (if_pos h2)
      go_wp2_with fail
      go_ret
      exact ⟨by rw [E.out]; rfl, rfl⟩
    · have d2 : decide (b < a) = false := by simpa using h2
      have E : Hid (cmpI a b = 0) := (if_neg h1).trans (if_neg h2)
      go_wp2_with fail
      go_ret
      exact ⟨by rw [E.out]; rfl, rfl⟩

def orL : List Int → Int
  | [] => 0
  | x :: xs => if x = 0 then orL xs else x

set_option maxHeartbeats 800000 in
theorem orint_any (ao : Option Addr) (c : Nat) (xs : List Int) (w : World) (h : Pw.Src w (.slice ao xs.length c) 1 xs.length (xs.map (.int .i64))) (hl : xs.length ≤ 1000000) :
    Calls Tryz.prog 128 #[.slice ao xs.length c] w fun e w' => e = .returned (.int .i64 (orL xs)) ∧ w = w' := by
  go_enter Tryz.func128, Tryz.ntmps128
  go_wp2_with fail
  go_loopw [8] (fun i wr => ∃ k : Nat, i = .int .i64 k ∧ k ≤ xs.length ∧ Hid (orL xs = orL (xs.drop k)) ∧ w = wr) (fun i _ => xs.length - (intOf i).toNat)
  case atStart => exact ⟨0, rfl, Nat.zero_le _, rfl, rfl⟩
  case round =>
    obtain ⟨k, rfl, hk, hq, rfl⟩ := hrel
    by_cases hkl : k < xs.length
    · have d1 : decide ((k : Int) < xs.length) = true := by simpa using hkl
      obtain ⟨b, o, rfl, hcell⟩ := src_at h hkl
      have hc := hcell k (.int .i64 xs[k]) (by simp [hkl])
      have hd : Hid (orL xs = if xs[k] = 0 then orL (xs.drop (k + 1)) else xs[k]) := by
        show _ = _
        rw [hq.out, List.drop_eq_getElem_cons hkl]
        rfl
      generalize xs[k] = x at *
      clear hcell h
      by_cases hx : x = 0
      · have hq2 : Hid (orL xs = orL (xs.drop (k + 1))) := by
          show _ = _
          rw [hd.out, if_pos hx]
        subst hx
        clear hd
        go_wp2_with fail
        refine ⟨⟨k + 1, by simp, by omega, hq2, trivial⟩, by simp [intOf]; omega⟩
      · have hq2 : Hid (orL xs = x) := by
          show _ = _
          rw [hd.out, if_neg hx]
        clear hd
        have d2 : (x == 0) = false := by simpa using hx
        go_wp2_with fail
        go_ret
        exact ⟨by rw [hq2.out]; rfl, rfl⟩
    · obtain rfl : k = xs.length := by omega
      have d1 : decide ((xs.length : Int) < xs.length) = false := by simp
      have hq2 : Hid (orL xs = 0) := by
        show _ = _
        rw [hq.out, List.drop_length]
        rfl
      clear hq
      go_wp2_with fail
      go_ret
      exact ⟨by rw [hq2.out]; rfl, rfl⟩
def cmpW (u d u' d' : Int) : Int := orL [cmpI u u', cmpI d d']

set_option maxRecDepth 100000 in
set_option maxHeartbeats 1600000 in
theorem compare_any (u d u' d' : Int) (w : World) :
    Calls Tryz.prog 76 #[.agg #[.int .i64 u, .int .i64 d], .agg #[.int .i64 u', .int .i64 d']] w fun e w' => e = .returned (.int .i64 (cmpW u d u' d')) ∧ Only w w' [] := by
  go_enter Tryz.func76, Tryz.ntmps76
  go_wp2_with fail
  have hA : ((w.alloc (.cells #[.int .i64 u, .int .i64 d] 40)).alloc (.cells #[.int .i64 u', .int .i64 d'] 40)).heap[w.heap.size]? = some (.cells #[.int .i64 u, .int .i64 d] 40 (0, 0)) := (Only.alloc _ _ []).at (heap_alloc_new w _) (by simp)
  have hB : ((w.alloc (.cells #[.int .i64 u, .int .i64 d] 40)).alloc (.cells #[.int .i64 u', .int .i64 d'] 40)).heap[w.heap.size + 1]? = some (.cells #[.int .i64 u', .int .i64 d'] 40 (0, 0)) := by
    have e : (w.alloc (.cells #[.int .i64 u, .int .i64 d] 40)).heap.size = w.heap.size + 1 := by simp
    rw [← e]
    exact heap_alloc_new _ _
  have ho : Only w ((w.alloc (.cells #[.int .i64 u, .int .i64 d] 40)).alloc (.cells #[.int .i64 u', .int .i64 d'] 40)) [] := (Only.alloc _ _ _).trans (Only.alloc _ _ _)
  generalize ((w.alloc (.cells #[.int .i64 u, .int .i64 d] 40)).alloc (.cells #[.int .i64 u', .int .i64 d'] 40)) = W at *
  generalize w.heap.size + 1 = B at *
  generalize w.heap.size = A at *
  refine wp_region_held_drew (S := fun w' => Only W.drew w' []) (by kernel_rfl) (Only.refl _ _) (fun hHeld => ?_)
  refine' wpAnyH_take (i := 0) (v := _) (op_at rfl) (by kernel_rfl) (by kernel_rfl) (by kernel_rfl) (fun _ _ _ h => h) (Or.inl ⟨by rfl, ?hy1⟩) (by assumption) ?rest1
  case hy1 =>
    intro w' hS
    go_simp
    try with_reducible rfl
  try simp only [Act.put, List.setIfInBounds_toArray, List.set_cons_zero, List.set_cons_succ]
  refine' wpAnyH_take (i := 1) (v := _) (op_at rfl) (by kernel_rfl) (by kernel_rfl) (by kernel_rfl) (fun _ _ _ h => h) (Or.inl ⟨by rfl, ?hy2⟩) (by assumption) ?rest2
  case hy2 =>
    intro w' hS
    have hc_ := ((Only.drew W []).trans hS).at hA (by simp)
    have hc0 := cell_two0 hc_
    go_simp
    try with_reducible rfl
  try simp only [Act.put, List.setIfInBounds_toArray, List.set_cons_zero, List.set_cons_succ]
  refine' wpAnyH_take (i := 2) (v := _) (op_at rfl) (by kernel_rfl) (by kernel_rfl) (by kernel_rfl) (fun _ _ _ h => h) (Or.inl ⟨by rfl, ?hy3⟩) (by assumption) ?rest3
  case hy3 =>
    intro w' hS
    go_simp
    try with_reducible rfl
  try simp only [Act.put, List.setIfInBounds_toArray, List.set_cons_zero, List.set_cons_succ]
  refine' wpAnyH_take (i := 3) (v := _) (op_at rfl) (by kernel_rfl) (by kernel_rfl) (by kernel_rfl) (fun _ _ _ h => h) (Or.inl ⟨by rfl, ?hy4⟩) (by assumption) ?rest4
  case hy4 =>
    intro w' hS
    have hc_ := ((Only.drew W []).trans hS).at hB (by simp)
    have hc0 := cell_two0 hc_
    go_simp
    try with_reducible rfl
  try simp only [Act.put, List.setIfInBounds_toArray, List.set_cons_zero, List.set_cons_succ]
  refine' wpAnyH_take (i := 5) (v := _) (op_at rfl) (by kernel_rfl) (by kernel_rfl) (by kernel_rfl) (fun _ _ _ h => h) (Or.inl ⟨by rfl, ?hy5⟩) (by assumption) ?rest5
  case hy5 =>
    intro w' hS
    go_simp
    try with_reducible rfl
  try simp only [Act.put, List.setIfInBounds_toArray, List.set_cons_zero, List.set_cons_succ]
  refine' wpAnyH_take (i := 6) (v := _) (op_at rfl) (by kernel_rfl) (by kernel_rfl) (by kernel_rfl) (fun _ _ _ h => h) (Or.inl ⟨by rfl, ?hy6⟩) (by assumption) ?rest6
  case hy6 =>
    intro w' hS
    have hc_ := ((Only.drew W []).trans hS).at hA (by simp)
    have hc1 := cell_two1 hc_
    go_simp
    try with_reducible rfl
  try simp only [Act.put, List.setIfInBounds_toArray, List.set_cons_zero, List.set_cons_succ]
  refine' wpAnyH_take (i := 7) (v := _) (op_at rfl) (by kernel_rfl) (by kernel_rfl) (by kernel_rfl) (fun _ _ _ h => h) (Or.inl ⟨by rfl, ?hy7⟩) (by assumption) ?rest7
  case hy7 =>
    intro w' hS
    go_simp
    try with_reducible rfl
  try simp only [Act.put, List.setIfInBounds_toArray, List.set_cons_zero, List.set_cons_succ]
  refine' wpAnyH_take (i := 8) (v := _) (op_at rfl) (by kernel_rfl) (by kernel_rfl) (by kernel_rfl) (fun _ _ _ h => h) (Or.inl ⟨by rfl, ?hy8⟩) (by assumption) ?rest8
  case hy8 =>
    intro w' hS
    have hc_ := ((Only.drew W []).trans hS).at hB (by simp)
    have hc1 := cell_two1 hc_
    go_simp
    try with_reducible rfl
  try simp only [Act.put, List.setIfInBounds_toArray, List.set_cons_zero, List.set_cons_succ]
  refine wpAnyH_ready (rs := [4]) (by kernel_rfl) (by simp) (AllReadyH.cons (op_at rfl) (fun K hK => ?_) AllReadyH.nil)
  go_simp
  refine (cmpint_any u u' _).mono fun e w3 hq => ?_
  obtain ⟨rfl, rfl⟩ := hq
  go_wp2_with fail
  refine hK.out _ _ hHeld (fun hHeld => ?_)
  clear hK K
  try simp only [Act.put, List.setIfInBounds_toArray, List.set_cons_zero, List.set_cons_succ]
  refine wpAnyH_ready (rs := [9]) (by kernel_rfl) (by simp) (AllReadyH.cons (op_at rfl) (fun K hK => ?_) AllReadyH.nil)
  go_simp
  refine (cmpint_any d d' _).mono fun e w3 hq => ?_
  obtain ⟨rfl, rfl⟩ := hq
  go_wp2_with fail
  refine hK.out _ _ hHeld (fun hHeld => ?_)
  clear hK K
  try simp only [Act.put, List.setIfInBounds_toArray, List.set_cons_zero, List.set_cons_succ]
  refine wpAnyH_ready (rs := [10]) (by kernel_rfl) (by simp) (AllReadyH.cons (op_at rfl) (fun K hK => ?_) AllReadyH.nil)
  go_simp
  go_wp2_with fail
  refine hK.out _ _ (Only.alloc _ _ _) (fun hHeld => ?_)
  clear hK K
  try simp only [Act.put, List.setIfInBounds_toArray, List.set_cons_zero, List.set_cons_succ]
  have hsr := src_lit W.drew [Value.int .i64 (cmpI u u'), .int .i64 (cmpI d d')] 3 2 1 rfl
  refine wpAnyH_ready (rs := [11]) (by kernel_rfl) (by simp) (AllReadyH.cons (op_at rfl) (fun K hK => ?_) AllReadyH.nil)
  go_simp
  refine (orint_any _ 2 [cmpI u u', cmpI d d'] _ hsr (by simp)).mono fun e w3 hq => ?_
  obtain ⟨rfl, rfl⟩ := hq
  go_wp2_with fail
  refine hK.out _ _ hHeld (fun hHeld => ?_)
  clear hK K
  try simp only [Act.put, List.setIfInBounds_toArray, List.set_cons_zero, List.set_cons_succ]
  refine' wpAnyH_take (i := 12) (v := _) (op_at rfl) (by kernel_rfl) (by kernel_rfl) (by kernel_rfl) (fun _ _ _ h => h) (Or.inl ⟨by rfl, ?hy9⟩) (by assumption) ?rest9
  case hy9 =>
    intro w' hS
    go_simp
    try with_reducible rfl
  try simp only [Act.put, List.setIfInBounds_toArray, List.set_cons_zero, List.set_cons_succ]
  refine wpAnyH_done (by kernel_rfl) ?_ _
  go_wp2_with fail
  go_ret
  exact ⟨rfl, ho.trans ((Only.drew W []).trans hHeld)⟩
end Go.Proofs.YtmmhbehlpppdiaaGreatDoor
namespace Go.Pw
open Go.RowKit

section
variable {α : Type} {enc : α → List Value} {k : Nat}

def fl (enc : α → List Value) (l : List α) : List Value := l.flatMap enc

theorem fl_nil : fl enc [] = [] := rfl
theorem fl_cons (x : α) (l : List α) : fl enc (x :: l) = enc x ++ fl enc l := rfl
theorem fl_app (l m : List α) : fl enc (l ++ m) = fl enc l ++ fl enc m := by simp [fl]
theorem fl_snoc (l : List α) (x : α) : fl enc (l ++ [x]) = fl enc l ++ enc x := by simp [fl]
theorem fl_len (hk : ∀ x, (enc x).length = k) (l : List α) : (fl enc l).length = l.length * k := by
  induction l with
  | nil => simp [fl]
  | cons x l ih => rw [fl_cons, List.length_append, ih, hk, List.length_cons, Nat.add_mul]; omega
theorem fl_drop (hk : ∀ x, (enc x).length = k) (l : List α) : ∀ i, (fl enc l).drop (i * k) = fl enc (l.drop i) := by
  induction l with
  | nil => intro i; simp [fl]
  | cons x l ih =>
    intro i
    cases i with
    | zero => simp
    | succ i =>
      rw [List.drop_succ_cons, ← ih i, fl_cons, Nat.add_mul, Nat.one_mul, Nat.add_comm (i * k) k, ← List.drop_drop, List.drop_append_of_le_length (l₁ := enc x) (by rw [hk]; exact Nat.le_refl _), List.drop_of_length_le (l := enc x) (by rw [hk]; exact Nat.le_refl _), List.nil_append]
theorem fl_take (hk : ∀ x, (enc x).length = k) (l : List α) : ∀ i, (fl enc l).take (i * k) = fl enc (l.take i) := by
  induction l with
  | nil => intro i; simp [fl]
  | cons x l ih =>
    intro i
    cases i with
    | zero => simp [fl]
    | succ i =>
      rw [List.take_succ_cons, fl_cons, fl_cons, ← ih i, Nat.add_mul, Nat.one_mul, Nat.add_comm (i * k) k]
      have := List.take_length_add_append (l₁ := enc x) (l₂ := fl enc l) (i := i * k)
      rwa [hk] at this
theorem fl_at (hk : ∀ x, (enc x).length = k) {l : List α} {i j : Nat} (hi : i < l.length) (hj : j < k) : (fl enc l)[i * k + j]? = (enc l[i])[j]? := by
  have h := fl_drop hk l i
  rw [List.drop_eq_getElem_cons hi, fl_cons] at h
  have := congrArg (fun x => x[j]?) h
  simp only [List.getElem?_drop] at this
  rw [this, List.getElem?_append_left (by rw [hk]; exact hj)]
theorem fl_one (h1 : ∀ x, ∀ u ∈ enc x, u.oneCell' = true) (l : List α) : ∀ u ∈ fl enc l, u.oneCell' = true := fun u hu => by
  obtain ⟨x, _, hx⟩ := List.mem_flatMap.1 hu
  exact h1 x u hx
def setL (xs : List Value) : Nat → List Value → List Value
  | _, [] => xs
  | o, v :: r => setL (xs.set o v) (o + 1) r
theorem setL_app (xs pre : List Value) : ∀ vs suf, vs.length = xs.length → setL (pre ++ xs ++ suf) pre.length vs = pre ++ vs ++ suf := by
  induction xs generalizing pre with
  | nil => intro vs suf h; obtain rfl : vs = [] := List.eq_nil_of_length_eq_zero (by simpa using h); simp [setL]
  | cons x xs ih =>
    intro vs suf h
    cases vs with
    | nil => simp at h
    | cons v r =>
      have := ih (pre ++ [v]) r suf (by simpa using h)
      simp only [setL]
      rw [show (pre ++ x :: xs ++ suf).set pre.length v = pre ++ [v] ++ xs ++ suf by simp [List.set_append]]
      rw [List.length_append, List.length_singleton] at this
      rw [this]
      simp
theorem fl_set (hk : ∀ x, (enc x).length = k) {l : List α} {i : Nat} (hi : i < l.length) (x : α) : setL (fl enc l) (i * k) (enc x) = fl enc (l.set i x) := by
  have e1 : fl enc l = fl enc (l.take i) ++ enc l[i] ++ fl enc (l.drop (i + 1)) := by
    conv => lhs; rw [← List.take_append_drop i l, List.drop_eq_getElem_cons hi]
    rw [fl_app, fl_cons, List.append_assoc]
  have e2 : fl enc (l.set i x) = fl enc (l.take i) ++ enc x ++ fl enc (l.drop (i + 1)) := by
    rw [List.set_eq_take_append_cons_drop, if_pos hi, fl_app, fl_cons, List.append_assoc]
  have e3 : i * k = (fl enc (l.take i)).length := by rw [fl_len hk, List.length_take, Nat.min_eq_left (by omega)]
  rw [e1, e2, e3]
  exact setL_app _ _ _ _ (by rw [hk, hk])
end

theorem setL_length : ∀ (vs xs : List Value) (o : Nat), (setL xs o vs).length = xs.length
  | [], _, _ => rfl
  | v :: r, xs, o => by rw [setL, setL_length r, List.length_set]
theorem row_setCells {w : World} {e size g n cap : Nat} : ∀ (vs : List Value) (o : Nat) (w : World) (xs : List Value), w.ownsRow 0 e size (.slice (some ⟨g, 0, none⟩) n cap) n xs → (w.setCells g o vs).ownsRow 0 e size (.slice (some ⟨g, 0, none⟩) n cap) n (setL xs o vs)
  | [], _, _, _, h => h
  | v :: r, o, w, xs, h => row_setCells (w := w) r (o + 1) _ _ (h.stored o v).1
theorem only_setCells {g : Nat} : ∀ (vs : List Value) (o : Nat) (w : World), Only w (w.setCells g o vs) [g]
  | [], _, w => Only.refl _ _
  | v :: r, o, w => (Only.setCell w ⟨g, o, none⟩ v [g] (by simp)).trans (only_setCells r (o + 1) _)
theorem Sep.puts {w0 w : World} {rs : List Res} {e size g n cap : Nat} {xs : List Value} (h : Sep w0 w (row e size (.slice (some ⟨g, 0, none⟩) n cap) n xs :: rs)) (o : Nat) (vs : List Value) : Sep w0 (w.setCells g o vs) (row e size (.slice (some ⟨g, 0, none⟩) n cap) n (setL xs o vs) :: rs) :=
  h.step (L := [g]) (only_setCells vs o w) (fun k hk => .inl (by simpa [row, Value.ownBlock] using hk)) (row_setCells (w := w) vs o w xs h.head) (fun k hk => .inl hk)
theorem row_there {w : World} {e size g n cap : Nat} {xs : List Value} (h : w.ownsRow 0 e size (.slice (some ⟨g, 0, none⟩) n cap) n xs) (o m : Nat) (hm : o + m ≤ n * size) : w.there g o m := fun j hj => ⟨by
  rw [h.cellAt (o + j) (by omega), List.getElem?_eq_getElem (by rw [h.1]; omega)]; rfl, h.frozenAt _⟩
theorem row_range {w : World} {e size g n cap : Nat} {xs : List Value} (h : w.ownsRow 0 e size (.slice (some ⟨g, 0, none⟩) n cap) n xs) (o m : Nat) (vs : List Value) (hv : ∀ j, j < vs.length → xs[o + j]? = vs[j]?) (hm : o + vs.length ≤ n * size) : w.rangeAt g o vs := fun j v hj => by
  have hl := (List.getElem?_eq_some_iff.1 hj).1
  rw [h.cellAt (o + j) (by omega), hv j hl, hj]

end Go.Pw
namespace Go.Pw
open Go.RowKit

theorem setCells_block {b : Nat} {t : TypeId} {fr : Nat × Nat} : ∀ (vs : List Value) (o : Nat) (w : World) (cur : Array Value), w.heap[b]? = some (.cells cur t fr) → (w.setCells b o vs).heap[b]? = some (.cells (setL cur.toList o vs).toArray t fr)
  | [], _, _, cur, h => by simpa [setL, World.setCells] using h
  | v :: r, o, w, cur, h => by
    have := setCells_block r (o + 1) _ _ (set_at (i := o) h v)
    simpa [setL, World.setCells] using this
theorem setL_all (xs vs : List Value) (h : vs.length = xs.length) : setL xs 0 vs = vs := by
  have := setL_app xs [] vs [] h
  simpa using this
theorem block_there {w : World} {b : Nat} {cs : Array Value} {t : TypeId} (h : w.heap[b]? = some (.cells cs t (0, 0))) (o m : Nat) (hm : o + m ≤ cs.size) : w.there b o m := fun j hj => ⟨by
  rw [Pw.cell_in h, Array.getElem?_eq_getElem (by omega)]; rfl, free_in h _⟩
theorem block_range {w : World} {b : Nat} {cs : List Value} {t : TypeId} {fr : Nat × Nat} (h : w.heap[b]? = some (.cells cs.toArray t fr)) : w.rangeAt b 0 cs := fun j v hj => by
  rw [Pw.cell_in h, Nat.zero_add]; simpa using hj

theorem wpList_alloc_new {P : Program} {ops : Array Oper} {rest : List Oper} {op : Oper} {a : Act} {w : World} {Q : Exit → Act → World → Prop} (hgd : op.guard = none) (T : TypeId) (ho : op.op = .alloc T) (z : Value)
    (hz : ∀ w, (zeroValue T).run P w = .ok z w)
    (h : ∀ X w', Only w w' [] → w.heap.size ≤ X → w'.heap[X]? = some (.cells z.cells T (0, 0)) → wpList P ops Q rest (a.put op.dst (.pointer (some ⟨X, 0, none⟩))) w') : wpList P ops Q (op :: rest) a w :=
  wpList_plain hgd fun _ hK => by
    unfold Oper.wp execOp
    simp only [ho, Instr.alloc, Sem.run_bind, hz, Result.andThen_ok]
    exact hK _ _ (h w.heap.size _ (Only.alloc w (.cells z.cells T) []) (Nat.le_refl _) (heap_alloc_new w _))

theorem wpList_box_new {P : Program} {ops : Array Oper} {rest : List Oper} {op : Oper} {a : Act} {w : World} {Q : Exit → Act → World → Prop} (hgd : op.guard = none) (T : TypeId) (x : Operand) (ho : op.op = .box T x) (z : Value) (hx : a.eval x = z)
    (h : ∀ X w', Only w w' [] → w.heap.size ≤ X → w'.heap[X]? = some (.cells z.cells T (0, 0)) → wpList P ops Q rest (a.put op.dst (.pointer (some ⟨X, 0, none⟩))) w') : wpList P ops Q (op :: rest) a w :=
  wpList_plain hgd fun _ hK => by
    unfold Oper.wp execOp
    simp only [ho, hx, Instr.box, Sem.run_bind, Result.andThen_ok]
    exact hK _ _ (h w.heap.size _ (Only.alloc w (.cells z.cells T) []) (Nat.le_refl _) (heap_alloc_new w _))
theorem wpList_load_blk {P : Program} {ops : Array Oper} {rest : List Oper} {op : Oper} {a : Act} {w : World} {Q : Exit → Act → World → Prop} (hgd : op.guard = none) (ty : TypeId) (x : Operand) (ho : op.op = .load ty x)
    (b : Nat) (hx : a.eval x = .pointer (some ⟨b, 0, none⟩)) (cs : List Value) (d : TypeDesc) {t : TypeId} {fr : Nat × Nat} (hc : w.heap[b]? = some (.cells cs.toArray t fr))
    (hu : P.underlying ty = some d) (hd : d.isRow = true) (hi : (P.info? ty).map (·.size) = some cs.length)
    (h : wpList P ops Q rest (a.put op.dst (.agg cs.toArray)) w) : wpList P ops Q (op :: rest) a w :=
  wpList_load_mid hgd ty x ho b 0 hx cs d (block_range hc) hu hd hi h
theorem wpList_store_blk {P : Program} {ops : Array Oper} {rest : List Oper} {op : Oper} {a : Act} {w : World} {Q : Exit → Act → World → Prop} (hgd : op.guard = none) (ty : TypeId) (x y : Operand) (ho : op.op = .store ty x y)
    (b : Nat) (cells : List Value) (hx : a.eval x = .pointer (some ⟨b, 0, none⟩)) (hy : a.eval y = .agg cells.toArray) {old : Array Value} {t : TypeId} (hc : w.heap[b]? = some (.cells old t (0, 0)))
    (hs : old.size = cells.length) (hi : (P.info? ty).map (·.size) = some cells.length) (h1 : cells.toArray.all (·.oneCell') = true)
    (h : ∀ w', Only w w' [b] → w'.heap[b]? = some (.cells cells.toArray t (0, 0)) → wpList P ops Q rest (a.put op.dst undef) w') : wpList P ops Q (op :: rest) a w := by
  refine wpList_store_mid hgd ty x y ho b 0 cells.toArray hx hy (block_there hc 0 _ (by simp [hs])) (by simpa using hi) h1 ?_
  refine h _ (only_setCells _ _ _) ?_
  rw [setCells_block _ _ _ _ hc, setL_all _ _ (by simp [hs])]
theorem wpList_store_rec {P : Program} {ops : Array Oper} {rest : List Oper} {op : Oper} {a : Act} {w w0 : World} {rs : List Res} {Q : Exit → Act → World → Prop} (hgd : op.guard = none) (ty : TypeId) (x y : Operand) (ho : op.op = .store ty x y)
    (g o e size n cap : Nat) (cells xs : List Value) (hx : a.eval x = .pointer (some ⟨g, o, none⟩)) (hy : a.eval y = .agg cells.toArray) (hs : Sep w0 w (row e size (.slice (some ⟨g, 0, none⟩) n cap) n xs :: rs))
    (ho' : o + cells.length ≤ n * size) (hi : (P.info? ty).map (·.size) = some cells.length) (h1 : cells.toArray.all (·.oneCell') = true)
    (h : ∀ w', Sep w0 w' (row e size (.slice (some ⟨g, 0, none⟩) n cap) n (setL xs o cells) :: rs) → wpList P ops Q rest (a.put op.dst undef) w') : wpList P ops Q (op :: rest) a w :=
  wpList_store_mid hgd ty x y ho g o cells.toArray hx hy (by simpa using row_there (hs.head : w.ownsRow 0 e size _ n xs) o cells.length ho') (by simpa using hi) h1 (h _ (hs.puts o cells))

theorem Sep.two_at {w0 w : World} {rs : List Res} (h : Sep w0 w rs) {i j : Nat} {r s : Res} (hi : rs[i]? = some r) (hj : rs[j]? = some s) (hne : i ≠ j) : ∀ k ∈ r.fp, k ∉ s.fp := by
  have hp := List.pairwise_iff_getElem.1 h.apart
  obtain ⟨hi', rfl⟩ := List.getElem?_eq_some_iff.1 hi
  obtain ⟨hj', rfl⟩ := List.getElem?_eq_some_iff.1 hj
  intro k hk hk'
  by_cases hlt : i < j
  · exact hp i j hi' hj' hlt k hk hk'
  · exact hp j i hj' hi' (by omega) k hk' hk
theorem Sep.sel {w0 w : World} {rs : List Res} (h : Sep w0 w rs) (n : Nat) (idx : List Nat) (hn : idx.Nodup ∧ ∀ i ∈ idx, i < n := by decide) : Sep w0 w (idx.filterMap (fun i => rs[i]?) ++ rs.drop n) := by
  have hm : ∀ r ∈ idx.filterMap (fun i => rs[i]?) ++ rs.drop n, r ∈ rs := fun r hr => by
    rcases List.mem_append.1 hr with hr | hr
    · obtain ⟨i, _, hi⟩ := List.mem_filterMap.1 hr
      exact List.mem_of_getElem? hi
    · exact List.mem_of_mem_drop hr
  refine ⟨h.only, fun r hr => h.ok r (hm r hr), fun r hr => h.new r (hm r hr), ?_⟩
  rw [List.pairwise_append]
  refine ⟨?_, h.apart.drop, fun a ha b hb => ?_⟩
  · rw [List.pairwise_filterMap]
    exact hn.1.imp (fun hne r hr s hs => h.two_at hr hs hne)
  · obtain ⟨i, hi, hr⟩ := List.mem_filterMap.1 ha
    obtain ⟨j, hj, rfl⟩ := List.mem_iff_getElem.1 hb
    have := hn.2 i hi
    refine h.two_at hr (List.getElem?_eq_getElem (by rw [List.length_drop] at hj; omega : n + j < rs.length)) (by omega) |> fun q => ?_
    rw [List.getElem_drop]
    exact q
theorem step_store_cells {P : Program} {ops : Array Oper} {o : Oper} {a : Act} {w : World} {K : Act → World → Prop} {Q : Exit → Act → World → Prop} {E : Prop}
    (hg : o.guard = none) (ty : TypeId) (x y : Operand) (hop : o.op = .store ty x y) (b off : Nat) (v : Value) (cells : List Value) (hv : v.cells = cells.toArray)
    (hx : a.eval x = .pointer (some ⟨b, off, none⟩)) (hy : a.eval y = v) (ht : w.there b off cells.length) (hi : (P.info? ty).map (·.size) = some cells.length) (h1 : ∀ u ∈ cells, u.oneCell' = true)
    (hK : K (a.put o.dst undef) (w.setCells b off cells)) : if Region.wanted o (yielded ops a.tmps) = true then Oper.wp P o a w K Q else E := by
  have hw : Region.wanted o (yielded ops a.tmps) = true := by simp [Region.wanted, hg]
  rw [if_pos hw]
  have hst := run_storeCells_cells (P := P) b off cells 0 w (fun j hj => (ht j hj).1) (fun j hj => (ht j hj).2) h1
  have hsv : (storeVar ty ⟨b, off, none⟩ v).run P w = .ok () (w.setCells b off cells) := by
    cases hq : P.info? ty with
    | none => simp [hq] at hi
    | some i =>
      have hs : cells.length = i.size := by simp [hq] at hi; omega
      simp only [Nat.add_zero] at hst
      simp [storeVar, sizeOf, typeInfo, hq, hv, hs, hst]
  unfold Oper.wp execOp
  simp only [hop, hx, hy, Instr.storeAt, Instr.sureAddr, Sem.run_bind, Sem.run_pure, Result.andThen_ok, hsv]
  exact hK
theorem step_store_rec {P : Program} {ops : Array Oper} {o : Oper} {a : Act} {w w0 : World} {rs : List Res} {K : Act → World → Prop} {Q : Exit → Act → World → Prop} {E : Prop}
    (hg : o.guard = none) (ty : TypeId) (x y : Operand) (hop : o.op = .store ty x y) (g off : Nat) (v : Value) (cells : List Value) (hv : v.cells = cells.toArray) (e size n cap : Nat) (xs : List Value)
    (hx : a.eval x = .pointer (some ⟨g, off, none⟩)) (hy : a.eval y = v) (hs : Sep w0 w (row e size (.slice (some ⟨g, 0, none⟩) n cap) n xs :: rs)) (ho' : off + cells.length ≤ n * size) (hi : (P.info? ty).map (·.size) = some cells.length) (h1 : ∀ u ∈ cells, u.oneCell' = true)
    (hK : ∀ w', Only w w' [g] → Sep w0 w' (row e size (.slice (some ⟨g, 0, none⟩) n cap) n (setL xs off cells) :: rs) → K (a.put o.dst undef) w') : if Region.wanted o (yielded ops a.tmps) = true then Oper.wp P o a w K Q else E :=
  step_store_cells hg ty x y hop g off v cells hv hx hy (row_there (hs.head : w.ownsRow 0 e size _ n xs) off cells.length ho') hi h1 (hK _ (only_setCells _ _ _) (hs.puts off cells))
theorem step_store_blk {P : Program} {ops : Array Oper} {o : Oper} {a : Act} {w w0 : World} {rs : List Res} {K : Act → World → Prop} {Q : Exit → Act → World → Prop} {E : Prop}
    (hg : o.guard = none) (ty : TypeId) (x y : Operand) (hop : o.op = .store ty x y) (B off : Nat) (v : Value) (cells old : List Value) (T : TypeId) (hv : v.cells = cells.toArray)
    (hx : a.eval x = .pointer (some ⟨B, off, none⟩)) (hy : a.eval y = v) (hs : Sep w0 w (blk B old T :: rs)) (ho' : off + cells.length ≤ old.length) (hi : (P.info? ty).map (·.size) = some cells.length) (h1 : ∀ u ∈ cells, u.oneCell' = true)
    (hK : ∀ w', Only w w' [B] → Sep w0 w' (blk B (setL old off cells) T :: rs) → K (a.put o.dst undef) w') : if Region.wanted o (yielded ops a.tmps) = true then Oper.wp P o a w K Q else E :=
  step_store_cells hg ty x y hop B off v cells hv hx hy (block_there (show w.heap[B]? = _ from hs.head) off cells.length (by simpa using ho')) hi h1
    (hK _ (only_setCells _ _ _) (hs.step (L := [B]) (only_setCells _ _ _) (fun k hk => .inl (by simpa [blk] using hk)) (setCells_block _ _ _ _ (show w.heap[B]? = _ from hs.head)) (fun k hk => .inl (by simpa [blk] using hk))))
end Go.Pw
namespace Go.Pw
open Go.RowKit

theorem run_copy_k {P : Program} (w : World) (dT sT ty elem : TypeId) (k : Nat) (b o dLen dCap : Nat) (a : Addr) (sLen sCap : Nat) (cs : List Value) (m : Nat)
    (hu : P.underlying dT = some (.slice elem)) (hs : (P.info? elem).map (·.size) = some k) (hm : Nat.min sLen dLen = m) (hn : cs.length = m * k)
    (hsrc : ∀ j v, cs[j]? = some v → w.cell? (a.add j) = some v) (hc : ∀ j, j < cs.length → (w.cell? ⟨b, o + j, none⟩).isSome = true) (hf : ∀ j, j < cs.length → w.frozen? ⟨b, o + j, none⟩ = false) (h1 : ∀ v ∈ cs, v.oneCell' = true) :
    (Builtin.copy_ #[dT, sT] ty #[.slice (some ⟨b, o, none⟩) dLen dCap, .slice (some a) sLen sCap]).run P w = .ok (goInt m) (w.setCells b o cs) := by
  have hl := run_loadCells_list (P := P) w a cs hsrc
  have hst := run_storeCells_cells (P := P) b o cs 0 w (by simpa using hc) (by simpa using hf) h1
  cases hq : P.info? elem with
  | none => simp [hq] at hs
  | some i =>
    have hi : i.size = k := by simpa [hq] using hs
    simp [Builtin.copy_, run_underlying hu, Builtin.lenOf, Builtin.firstCells, sizeOf, typeInfo, hq, hi, hm, ← hn, hl, hst]

theorem wp_copy_k {P : Program} (w : World) {o : Oper} {a : Act} {K : Act → World → Prop} {Q : Exit → Act → World → Prop} (d s : Operand) (t t' : TypeId)
    (ho : o.op = .call { callee := .builtin .copy, args := #[d, s], argTypes := #[t, t'] }) (v u : Value) (hd : a.eval d = v) (hs : a.eval s = u) {v' : Value} {w' : World}
    (hr : (Builtin.copy_ #[t, t'] o.type #[v, u]).run P w = .ok v' w') (h : K (a.put o.dst v') w') : o.wp P a w K Q := by
  unfold Oper.wp execOp
  simp only [ho, resolve, invoke, builtin, Sem.run_bind, Sem.run_pure, Result.andThen_ok, List.map_toArray, List.map_cons, List.map_nil, hd, hs, hr]
  exact h
theorem wpList_copy_k {P : Program} (w : World) {ops : Array Oper} {rest : List Oper} {o : Oper} {a : Act} {Q : Exit → Act → World → Prop} (hgd : o.guard = none) (d s : Operand) (t t' : TypeId)
    (ho : o.op = .call { callee := .builtin .copy, args := #[d, s], argTypes := #[t, t'] }) (v u : Value) (hd : a.eval d = v) (hs : a.eval s = u) {v' : Value} {w' : World}
    (hr : (Builtin.copy_ #[t, t'] o.type #[v, u]).run P w = .ok v' w') (h : wpList P ops Q rest (a.put o.dst v') w') : wpList P ops Q (o :: rest) a w :=
  wpList_plain hgd fun _ hK => wp_copy_k w d s t t' ho v u hd hs hr (hK _ _ h)
theorem step_copy_k {P : Program} {ops : Array Oper} {o : Oper} {a : Act} {w : World} {K : Act → World → Prop} {Q : Exit → Act → World → Prop} {E : Prop}
    (hg : o.guard = none) (d x : Operand) (dT sT : TypeId) (hop : o.op = Op.call { callee := Callee.builtin Builtin.copy, args := #[d, x], argTypes := #[dT, sT] })
    (v u : Value) (hd : a.eval d = v) (hx : a.eval x = u) {v' : Value} {w' : World} (hr : (Builtin.copy_ #[dT, sT] o.type #[v, u]).run P w = .ok v' w') (hK : K (a.put o.dst v') w') :
    if Region.wanted o (yielded ops a.tmps) = true then Oper.wp P o a w K Q else E := by
  have hw : Region.wanted o (yielded ops a.tmps) = true := by simp [Region.wanted, hg]
  rw [if_pos hw]
  unfold Oper.wp
  simp [execOp, hop, resolve, invoke, builtin, hd, hx, hr, Result.andThen]
  exact hK

theorem wpList_append_run2 {P : Program} {w : World} {ops : Array Oper} {rest : List Oper} {o : Oper} {a : Act} {Q : Exit → Act → World → Prop} (hgd : o.guard = none) (s x : Operand) (t t' : TypeId)
    (ho : o.op = .call { callee := .builtin .append, args := #[s, x], argTypes := #[t, t'] }) (v xv : Value) (hs : a.eval s = v) (hx : a.eval x = xv) {v' : Value} {w' : World}
    (hrun : (Builtin.append_ #[t, t'] o.type #[v, xv]).run P w = .ok v' w') (h : wpList P ops Q rest (a.put o.dst v') w') : wpList P ops Q (o :: rest) a w :=
  wpList_plain hgd fun _ hK => by
    unfold Oper.wp
    simp [execOp, ho, resolve, invoke, builtin, hs, hx, hrun, Result.andThen]
    exact hK _ _ h
theorem row_more {w : World} {e size n cap g : Nat} {xs : List Value} (h : w.ownsRow 0 e size (.slice (some ⟨g, 0, none⟩) n cap) n xs) (m : Nat) (hm : n + m ≤ cap) : ∃ junk, junk.length = m * size ∧ w.ownsRow 0 e size (.slice (some ⟨g, 0, none⟩) (n + m) cap) (n + m) (xs ++ junk) := by
  rcases h.2 with ⟨h', _⟩ | ⟨g', cap', cur, h', hb, hg, hnc, hcm, hcs, htake⟩
  · simp at h'
  · simp only [Value.slice.injEq, Option.some.injEq, Addr.mk.injEq, and_true, true_and] at h'
    obtain ⟨rfl, rfl⟩ := h'
    have hle : n * size + m * size ≤ cap * size := by rw [← Nat.add_mul]; exact Nat.mul_le_mul_right _ hm
    have hjl : ((cur.toList.drop (n * size)).take (m * size)).length = m * size := by
      rw [List.length_take, List.length_drop, Array.length_toList, hcs]; omega
    refine ⟨(cur.toList.drop (n * size)).take (m * size), hjl, by rw [List.length_append, h.1, hjl, Nat.add_mul], .inr ⟨g, cap, cur, rfl, hb, hg, hm, hcm, hcs, ?_⟩⟩
    rw [Nat.add_mul, List.take_add, htake]
theorem row_cap {w : World} {e size n cap g : Nat} {xs : List Value} (h : w.ownsRow 0 e size (.slice (some ⟨g, 0, none⟩) n cap) n xs) : n ≤ cap ∧ cap ≤ maxLen := by
  rcases h.2 with ⟨h', _⟩ | ⟨g', cap', cur, h', hb, hg, hnc, hcm, hcs, htake⟩
  · simp at h'
  · simp only [Value.slice.injEq, Option.some.injEq, Addr.mk.injEq, and_true, true_and] at h'
    obtain ⟨rfl, rfl⟩ := h'
    exact ⟨hnc, hcm⟩
theorem row_shape {w : World} {e size n cap g : Nat} {xs : List Value} (h : w.ownsRow 0 e size (.slice (some ⟨g, 0, none⟩) n cap) n xs) (hc : 0 < cap) (hs : 0 < size) : ∃ t k, w.shape? g = some (t, k) ∧ k ≠ 0 := by
  rcases h.2 with ⟨h', _⟩ | ⟨g', cap', cur, h', hb, hg, hnc, hcm, hcs, htake⟩
  · simp at h'
  · simp only [Value.slice.injEq, Option.some.injEq, Addr.mk.injEq, and_true, true_and] at h'
    obtain ⟨rfl, rfl⟩ := h'
    refine ⟨e, cur.size, by simp [World.shape?, hg], ?_⟩
    rw [hcs]
    exact Nat.mul_ne_zero (by omega) (by omega)
theorem cells_shape {w : World} {b : Nat} {cs : Array Value} {t : TypeId} {fr : Nat × Nat} (h : w.heap[b]? = some (.cells cs t fr)) : w.shape? b = some (t, cs.size) := by simp [World.shape?, h]
theorem setL_ins (L A B vs : List Value) (i k : Nat) (hk : vs.length = k) (hi : A.length = i * k) (hL : L.length = i * k + k + B.length) (hA : L.take (i * k) = A) :
    setL (setL L (i * k) vs) ((i + 1) * k) B = A ++ vs ++ B ∧ setL (setL L ((i + 1) * k) B) (i * k) vs = A ++ vs ++ B := by
  obtain ⟨H, T, hH, hT, rfl⟩ : ∃ H T, H.length = k ∧ T.length = B.length ∧ L = A ++ H ++ T := by
    refine ⟨(L.drop (i * k)).take k, (L.drop (i * k)).drop k, ?_, ?_, ?_⟩
    · rw [List.length_take, List.length_drop]; omega
    · rw [List.length_drop, List.length_drop]; omega
    · rw [List.append_assoc, List.take_append_drop, ← hA, List.take_append_drop]
  have e1 := setL_app H A vs T (by rw [hH, hk])
  have e2 := setL_app T (A ++ vs) B [] (by rw [hT])
  have e3 := setL_app T (A ++ H) B [] (by rw [hT])
  have e4 := setL_app H A vs B (by rw [hH, hk])
  rw [hi] at e1 e4
  rw [List.length_append, hi, hk, show i * k + k = (i + 1) * k by rw [Nat.add_mul]; omega] at e2
  rw [List.length_append, hi, hH, show i * k + k = (i + 1) * k by rw [Nat.add_mul]; omega] at e3
  simp only [List.append_nil] at e2 e3
  exact ⟨by rw [e1, e2], by rw [e3, e4]⟩
end Go.Pw
namespace Go.Pw
open Go.RowKit

theorem Sep.splice {w0 w : World} {L rs : List Res} (h : Sep w0 w (many L :: rs)) : Sep w0 w (L ++ rs) := by
  have hp := List.pairwise_cons.1 h.apart
  have hm : (many L).ok w := h.head
  refine ⟨h.only, fun r hr => ?_, fun r hr k hk => ?_, List.pairwise_append.2 ⟨hm.2, hp.2, fun a ha b hb k hk => ?_⟩⟩
  · rcases List.mem_append.1 hr with hr | hr
    · exact hm.1 r hr
    · exact h.ok r (by simp [hr])
  · rcases List.mem_append.1 hr with hr | hr
    · exact h.new (many L) (by simp) k (List.mem_flatMap.2 ⟨r, hr, hk⟩)
    · exact h.new r (by simp [hr]) k hk
  · exact hp.1 b hb k (List.mem_flatMap.2 ⟨a, ha, hk⟩)
theorem Sep.gather {w0 w : World} {L rs : List Res} (h : Sep w0 w (L ++ rs)) : Sep w0 w (many L :: rs) := by
  have hp := List.pairwise_append.1 h.apart
  refine ⟨h.only, fun r hr => ?_, fun r hr k hk => ?_, List.pairwise_cons.2 ⟨fun r hr k hk => ?_, hp.2.1⟩⟩
  · rcases List.mem_cons.1 hr with rfl | hr
    · exact ⟨fun r hr => h.ok r (by simp [hr]), hp.1⟩
    · exact h.ok r (by simp [hr])
  · rcases List.mem_cons.1 hr with rfl | hr
    · obtain ⟨a, ha, hk⟩ := List.mem_flatMap.1 hk
      exact h.new a (by simp [ha]) k hk
    · exact h.new r (by simp [hr]) k hk
  · obtain ⟨a, ha, hk⟩ := List.mem_flatMap.1 hk
    exact hp.2.2 a ha r hr k hk
theorem Sep.pick {w0 w : World} {L rs : List Res} (h : Sep w0 w (many L :: rs)) (k : Nat) {r : Res} (hk : L[k]? = some r) : Sep w0 w (r :: many (L.eraseIdx k) :: rs) := by
  obtain ⟨hk', rfl⟩ := List.getElem?_eq_some_iff.1 hk
  have := h.splice.perm ((up_perm L k hk').append_right rs)
  have h2 : Sep w0 w (L.eraseIdx k ++ (L[k] :: rs)) := this.perm (by
    rw [List.cons_append]
    exact List.perm_middle.symm)
  exact h2.gather.perm (List.Perm.swap _ _ _)
theorem set_perm {α : Type} : ∀ (L : List α) (k : Nat) (r : α), k < L.length → (r :: L.eraseIdx k).Perm (L.set k r)
  | [], _, _, h => by simp at h
  | a :: L, 0, r, _ => List.Perm.refl _
  | a :: L, k + 1, r, h => (List.Perm.swap _ _ _).trans ((set_perm L k r (by simpa using h)).cons a)
theorem Sep.putk {w0 w : World} {L rs : List Res} {r : Res} (k : Nat) (hk : k < L.length) (h : Sep w0 w (r :: many (L.eraseIdx k) :: rs)) : Sep w0 w (many (L.set k r) :: rs) := by
  have h2 := (h.perm (List.Perm.swap _ _ _)).splice
  have h3 : Sep w0 w ((r :: L.eraseIdx k) ++ rs) := h2.perm List.perm_middle
  exact (h3.perm ((set_perm L k r hk).append_right rs)).gather
theorem Sep.many_ins {w0 w : World} {L rs : List Res} {r : Res} (k : Nat) (h : Sep w0 w (r :: many L :: rs)) : Sep w0 w (many (L.take k ++ r :: L.drop k) :: rs) := by
  have h2 := (h.perm (List.Perm.swap _ _ _)).splice
  have h3 : Sep w0 w ((r :: L) ++ rs) := h2.perm List.perm_middle
  refine (h3.perm (List.Perm.append_right rs ?_)).gather
  refine (List.Perm.trans ?_ List.perm_middle.symm)
  rw [List.take_append_drop]
end Go.Pw
