/- The symbolic machine and what stands on it, part Nd. -/
import Derived.WalkKit
import Derived.WalkSpells
import Derived.WalkLawsBesides
import Derived.Deep.RegionLaw
import Derived.Deep.QuietTactic
import Derived.BigQuiet
import Derived.BigRegion
import Derived.Lib.Hide
import Derived.Shelf.Bytes.SlEqualAll
import Derived.Test.YtfkbookaceckhaaGreatDoorProg
import Derived.KernelRfl
import Derived.Shelf.Bits.Mul64
import Derived.Laws.Externs
import Derived.Handy
import Derived.Test.YtfkbookaceckhaaGreatDoorXNc
set_option linter.all false
section
namespace Go.Pw
open Go.RowKit
set_option linter.all false
structure Only (w w' : World) (L : List Nat) : Prop where
  os : w'.os = w.os
  tape : w'.tape = w.tape
  output : w'.output = w.output
  size : w.heap.size ≤ w'.heap.size
  block : ∀ k, k < w.heap.size → k ∉ L → w'.heap[k]? = w.heap[k]?
theorem Only.refl (w : World) (L : List Nat) : Only w w L := ⟨rfl, rfl, rfl, Nat.le_refl _, fun _ _ _ => rfl⟩
theorem Only.trans {a b c : World} {L : List Nat} (h : Only a b L) (k : Only b c L) : Only a c L :=
  ⟨k.os.trans h.os, k.tape.trans h.tape, k.output.trans h.output, Nat.le_trans h.size k.size, fun i hi hn => (k.block i (Nat.lt_of_lt_of_le hi h.size) hn).trans (h.block i hi hn)⟩
theorem Only.mono {a b : World} {L L' : List Nat} (h : Only a b L) (hs : ∀ k, k < a.heap.size → k ∈ L → k ∈ L') : Only a b L' :=
  ⟨h.os, h.tape, h.output, h.size, fun i hi hn => h.block i hi (fun m => hn (hs i hi m))⟩
theorem Only.below {a b : World} {L : List Nat} (h : Only a b L) {B : Nat} (hB : B ≤ a.heap.size) (hL : ∀ k ∈ L, B ≤ k) : Below B a b :=
  ⟨h.os, h.tape, h.output, h.size, fun i hi => h.block i (by omega) (fun m => by have := hL i m; omega)⟩
theorem Only.drew (w : World) (L : List Nat) : Only w w.drew L := ⟨rfl, rfl, rfl, Nat.le_refl _, fun _ _ _ => rfl⟩
theorem Only.alloc (w : World) (o : Obj) (L : List Nat) : Only w (w.alloc o) L := ⟨rfl, rfl, rfl, by simp, fun k hk _ => Below.heap_alloc _ _ _ hk⟩
theorem Only.setCell (w : World) (a : Addr) (u : Value) (L : List Nat) (h : a.block ∈ L) : Only w (w.setCell a u) L :=
  ⟨rfl, rfl, rfl, by simp [World.setCell], fun k _ hn => Below.heap_setCell _ _ _ _ (fun e => hn (e ▸ h))⟩
theorem Only.grown {w w' : World} {row : Option Nat} {L : List Nat} (hg : w.grownBy w' row) (hr : ∀ k, row = some k → k ∈ L) : Only w w' L :=
  ⟨hg.os, hg.tape, hg.output, hg.size, fun k hk hn => hg.block k hk (fun e => hn (hr k e.symm))⟩
def Src (w : World) (x : Value) (size m : Nat) (news : List Value) : Prop :=
  ∃ ao c, x = .slice ao m c ∧ m ≤ c ∧ c ≤ maxLen ∧ news.length = m * size ∧ (ao = none → m = 0 ∧ c = 0) ∧ ∀ b, ao = some b → ∀ j u, news[j]? = some u → w.cell? (b.add j) = some u
def SoN (w : World) (v v' : Value) : Prop := ∀ k, v'.ownBlock = some k → v.ownBlock = some k ∨ w.heap.size ≤ k
theorem SoN.refl (w : World) (v : Value) : SoN w v v := fun _ h => .inl h
theorem SoN.trans {w w1 : World} {v v1 v2 : Value} (h : SoN w v v1) (k : SoN w1 v1 v2) (hs : w.heap.size ≤ w1.heap.size) : SoN w v v2 := fun i hi => by
  rcases k i hi with h1 | h1
  · exact h i h1
  · exact .inr (Nat.le_trans hs h1)
theorem run_append_src {P : Program} (w : World) (t ty e : TypeId) (i : TypeInfo) (z : Value) (size bytes : Nat) (ht : P.underlying t = some (.slice e)) (hi : P.info? e = some i) (hz : i.zero = some z)
    (hsize : i.size = size) (hby : i.bytes = bytes) (hzs : z.cells.size = size) (hsz : 0 < size)
    (v : Value) (n : Nat) (xs : List Value) (hown : w.ownsRow 0 e size v n xs)
    (x : Value) (m : Nat) (news : List Value) (hx : Src w x size m news) (h1 : ∀ u ∈ news, u.oneCell' = true)
    (h63 : n + m ≤ maxLen) (hbytes : (n + m) * bytes ≤ 140737488355328) :
    ∃ v' w', (Builtin.append_ #[t, t] ty #[v, x]).run P w = .ok v' w' ∧ w'.ownsRow 0 e size v' (n + m) (xs ++ news) ∧ w.grownBy w' v.ownBlock ∧ SoN w v v' := by
  obtain ⟨ao, c, rfl, _, _, hl, hnone, hnews⟩ := hx
  cases ao with
  | none =>
    obtain ⟨rfl, rfl⟩ := hnone rfl
    obtain rfl : news = [] := List.eq_nil_of_length_eq_zero (by simpa using hl)
    exact ⟨v, w, run_append_owned_none (P := P) (w := w) 0 t ty e i size ht hi v n xs hown, by simpa using hown, ⟨rfl, rfl, rfl, Nat.le_refl _, fun _ _ _ => rfl⟩, SoN.refl _ _⟩
  | some a =>
    have hnews := hnews a rfl
    subst hsize
    subst hby
    have hsmall : n + m ≤ 9223372036854775807 := by simp only [maxLen] at h63; omega
    have hlen : (xs ++ news).length = (n + m) * i.size := by rw [List.length_append, hown.1, hl, Nat.add_mul]
    have grown : ∀ (old : Nat), old < n + m → ∀ (row : Option Nat),
        (w.drew.alloc (.cells (xs.toArray ++ news.toArray ++ Builtin.zeroCells z.cells (grownCap w (n + m) old e - (n + m))) e)).ownsRow 0 e i.size
          (.slice (some ⟨w.heap.size, 0, none⟩) (n + m) (grownCap w (n + m) old e)) (n + m) (xs ++ news) ∧
        w.grownBy (w.drew.alloc (.cells (xs.toArray ++ news.toArray ++ Builtin.zeroCells z.cells (grownCap w (n + m) old e - (n + m))) e)) row := by
      intro old ho row
      have hge := grownCap_ge w (n + m) old e
      have hcm : grownCap w (n + m) old e ≤ maxLen := grownCap_le_maxLen w (n + m) old e h63
      refine ⟨⟨hlen, .inr ⟨w.heap.size, _, _, rfl, Nat.zero_le _, heap_alloc_new w.drew _, hge, hcm, ?_, ?_⟩⟩, ⟨rfl, rfl, rfl, by simp, fun k hk _ => Below.heap_alloc w.drew _ k hk⟩⟩
      · simp only [Array.size_append, List.size_toArray, size_zeroCells, hzs, hown.1, hl, ← Nat.add_mul]
        congr 1
        omega
      · simp only [Array.toList_append, List.append_assoc]
        rw [← List.append_assoc, ← hlen]
        exact List.take_left
    rcases hown.2 with ⟨rfl, rfl⟩ | ⟨g, cap, cur, rfl, hbg, hg, hnc, hcm, hcs, htake⟩
    · have hx : xs = [] := List.eq_nil_of_length_eq_zero (by simpa using hown.1)
      subst hx
      by_cases hm : m = 0
      · subst hm
        have hn : news = [] := List.eq_nil_of_length_eq_zero (by simpa using hl)
        subst hn
        refine ⟨.slice none 0 0, w, ?_, World.ownsRow_nil w 0 e i.size, ⟨rfl, rfl, rfl, Nat.le_refl _, fun _ _ _ => rfl⟩, SoN.refl _ _⟩
        simp [Builtin.append_, run_underlying ht, sizeOf, typeInfo, hi, Builtin.lenOf, Builtin.firstCells, loadCells, loadCellsFrom]
      · have hr := run_append_nil (P := P) w t ty e i z ht hi hz a m c news hl hnews (by omega) (by omega) (by have hb := hbytes; simp only [Nat.zero_add] at hb; omega)
        have hgr := grown 0 (by omega) (Value.ownBlock (.slice none 0 0))
        simp only [Nat.zero_add, List.nil_append, Array.empty_append] at hgr ⊢
        exact ⟨_, _, hr, hgr.1, hgr.2, fun k hk => .inr (by simp [Value.ownBlock] at hk; omega)⟩
    · by_cases hroom : n + m ≤ cap
      · have hfit : n * i.size + news.length ≤ cur.size := by rw [hl, hcs, ← Nat.add_mul]; exact Nat.mul_le_mul_right _ hroom
        have hr := run_append_room (P := P) w t ty e i ht hi g n cap cur hg a m c news hl hnews h1 hroom hfit
        refine ⟨_, _, hr, ⟨hlen, .inr ⟨g, cap, _, rfl, hbg, setRow_heap w g cur _ e _ hg, hroom, hcm, ?_, ?_⟩⟩, ⟨rfl, rfl, rfl, by simp, fun k _ hk => setRow_other w g k _ (fun e => hk (by simp [Value.ownBlock, e]))⟩, fun k hk => .inl hk⟩
        · simp only [List.size_toArray, List.length_append, List.length_take, List.length_drop, Array.length_toList]
          omega
        · rw [htake, ← hlen]
          exact List.take_left
      · have holds : ∀ j u, xs[j]? = some u → w.cell? ((⟨g, 0, none⟩ : Addr).add j) = some u := hown.cells (g := g) rfl
        have hr := run_append_grow (P := P) w t ty e i z ht hi hz ⟨g, 0, none⟩ n cap xs hown.1 holds a m c news hl hnews (by omega) (by omega) (growslice_fits (by omega) hbytes)
        have hgr := grown cap (by omega) (Value.ownBlock (.slice (some ⟨g, 0, none⟩) n cap))
        exact ⟨_, _, hr, hgr.1, hgr.2, fun k hk => .inr (by simp [Value.ownBlock] at hk; omega)⟩
theorem wpList_append_src {P : Program} {w : World} {ops : Array Oper} {rest : List Oper} {o : Oper} {a : Act} {Q : Exit → Act → World → Prop} (hgd : o.guard = none) (s x : Operand) (t : TypeId)
    (ho : o.op = .call { callee := .builtin .append, args := #[s, x], argTypes := #[t, t] })
    (e : TypeId) (i : TypeInfo) (z : Value) (size bytes : Nat) (ht : P.underlying t = some (.slice e)) (hi : P.info? e = some i) (hz : i.zero = some z)
    (hsize : i.size = size) (hby : i.bytes = bytes) (hzs : z.cells.size = size) (hsz : 0 < size)
    (v : Value) (n : Nat) (xs : List Value) (hs : a.eval s = v) (hown : w.ownsRow 0 e size v n xs)
    (xv : Value) (m : Nat) (news : List Value) (hx : a.eval x = xv) (hsrc : Src w xv size m news) (h1 : ∀ u ∈ news, u.oneCell' = true)
    (h63 : n + m ≤ maxLen) (hbytes : (n + m) * bytes ≤ 140737488355328)
    (h : ∀ v' w', w'.ownsRow 0 e size v' (n + m) (xs ++ news) → w.grownBy w' v.ownBlock → SoN w v v' → wpList P ops Q rest (a.put o.dst v') w') : wpList P ops Q (o :: rest) a w :=
  wpList_plain hgd fun _ hK => by
    obtain ⟨v', w', hrun, r1, r2, r3⟩ := run_append_src (P := P) w t o.type e i z size bytes ht hi hz hsize hby hzs hsz v n xs hown xv m news hsrc h1 h63 hbytes
    unfold Oper.wp
    simp [execOp, ho, resolve, invoke, builtin, hs, hx, hrun, Result.andThen]
    exact hK _ _ (h v' w' r1 r2 r3)
theorem step_append_src {P : Program} {ops : Array Oper} {o : Oper} {a : Act} {w : World} {K : Act → World → Prop} {Q : Exit → Act → World → Prop} {E : Prop}
    (hg : o.guard = none) (s x : Operand) (t : TypeId) (hop : o.op = Op.call { callee := Callee.builtin Builtin.append, args := #[s, x], argTypes := #[t, t] })
    (e : TypeId) (i : TypeInfo) (z : Value) (size bytes : Nat) (ht : P.underlying t = some (.slice e)) (hi : P.info? e = some i) (hz : i.zero = some z)
    (hsize : i.size = size) (hby : i.bytes = bytes) (hzs : z.cells.size = size) (hsz : 0 < size)
    (v : Value) (n : Nat) (xs : List Value) (hs : a.eval s = v) (hown : w.ownsRow 0 e size v n xs)
    (xv : Value) (m : Nat) (news : List Value) (hx : a.eval x = xv) (hsrc : Src w xv size m news) (h1 : ∀ u ∈ news, u.oneCell' = true)
    (h63 : n + m ≤ maxLen) (hbytes : (n + m) * bytes ≤ 140737488355328)
    (hK : ∀ v' w', w'.ownsRow 0 e size v' (n + m) (xs ++ news) → w.grownBy w' v.ownBlock → SoN w v v' → K (a.put o.dst v') w') :
    if Region.wanted o (yielded ops a.tmps) = true then Oper.wp P o a w K Q else E := by
  have hw : Region.wanted o (yielded ops a.tmps) = true := by simp [Region.wanted, hg]
  rw [if_pos hw]
  obtain ⟨v', w', hrun, r1, r2, r3⟩ := run_append_src (P := P) w t o.type e i z size bytes ht hi hz hsize hby hzs hsz v n xs hown xv m news hsrc h1 h63 hbytes
  unfold Oper.wp
  simp [execOp, hop, resolve, invoke, builtin, hs, hx, hrun, Result.andThen]
  exact hK v' w' r1 r2 r3
theorem own_slice {w : World} {base size n : Nat} {e : TypeId} {v : Value} {xs : List Value} (h : w.ownsRow base e size v n xs) : ∃ ao c, v = .slice ao n c := by
  rcases h.2 with ⟨rfl, rfl⟩ | ⟨g, cap, _, rfl, _⟩
  · exact ⟨_, _, rfl⟩
  · exact ⟨_, _, rfl⟩
theorem src_one (w : World) (x : Value) (E : TypeId) : Src (w.alloc (.cells #[x] E)) (.slice (some ⟨w.heap.size, 0, none⟩) 1 1) 1 1 [x] :=
  ⟨_, _, rfl, Nat.le_refl _, by decide, rfl, by simp, fun b hb j u hj => by
    obtain rfl : b = ⟨w.heap.size, 0, none⟩ := by simpa using hb.symm
    exact cell_one_new _ _ _ j u hj⟩
theorem Src.drew {w : World} {x : Value} {size m : Nat} {news : List Value} (h : Src w x size m news) : Src w.drew x size m news := h
theorem Only.step {a b c : World} {L L' : List Nat} (h : Only a b L) (k : Only b c L') (hL : ∀ i ∈ L', i ∈ L ∨ a.heap.size ≤ i) : Only a c L :=
  ⟨k.os.trans h.os, k.tape.trans h.tape, k.output.trans h.output, Nat.le_trans h.size k.size, fun i hi hn => (k.block i (Nat.lt_of_lt_of_le hi h.size) (fun m => by rcases hL i m with h1 | h1; exact hn h1; omega)).trans (h.block i hi hn)⟩
theorem Only.new {a b c : World} {L : List Nat} (h : Only a b []) (k : Only b c L) (hL : ∀ i ∈ L, a.heap.size ≤ i) : Only a c [] := h.step k fun i hi => .inr (hL i hi)
theorem SoN.toList {w : World} {v v' : Value} (h : SoN w v v') : ∀ i ∈ v'.ownBlock.toList, i ∈ v.ownBlock.toList ∨ w.heap.size ≤ i := by
  intro i hi
  have hi' : v'.ownBlock = some i := by simpa using hi
  rcases h i hi' with h1 | h1
  · exact .inl (by simp [h1])
  · exact .inr h1
theorem SoN.weaken {w w1 : World} {v v' : Value} (h : SoN w1 v v') (hs : w.heap.size ≤ w1.heap.size) : SoN w v v' := fun i hi => by
  rcases h i hi with h1 | h1
  · exact .inl h1
  · exact .inr (Nat.le_trans hs h1)
theorem grown_block {w w' : World} {v : Value} {B : Nat} {o : Obj} (hg : w.grownBy w' v.ownBlock) (h : w.heap[B]? = some o) (hne : v.ownBlock ≠ some B) : w'.heap[B]? = some o :=
  (hg.block B (Array.getElem?_eq_some_iff.1 h).1 (fun e => hne e.symm)).trans h
theorem own_ne {w : World} {base size n : Nat} {e T : TypeId} {v : Value} {xs : List Value} {B : Nat} {cs : Array Value} {fr : Nat × Nat} (h : w.ownsRow base e size v n xs) (hB : w.heap[B]? = some (.cells cs T fr)) (hT : T ≠ e) : v.ownBlock ≠ some B := by
  rcases h.2 with ⟨rfl, rfl⟩ | ⟨g, cap, cur, rfl, _, hg, _⟩
  · simp [Value.ownBlock]
  · simp only [Value.ownBlock, ne_eq, Option.some.injEq]
    rintro rfl
    rw [hg] at hB
    simp at hB
    exact hT hB.2.1.symm
theorem cell_al {w : World} {a : Addr} {v : Value} (h : w.cell? a = some v) (o : Obj) : (w.alloc o).cell? a = some v :=
  (World.cell?_of_block (w := w) (Below.heap_alloc w o a.block (World.block_lt_of_cell? w a h))).trans h
def Apart (x : Value) (L : List Nat) : Prop := ∀ k, x.ownBlock = some k → k ∉ L
theorem Src.only {w w' : World} {x : Value} {size m : Nat} {news : List Value} {L : List Nat} (h : Src w x size m news) (ho : Only w w' L) (ha : Apart x L) : Src w' x size m news := by
  obtain ⟨ao, c, rfl, h1, h2, h3, h4, h5⟩ := h
  refine ⟨ao, c, rfl, h1, h2, h3, h4, fun b hb j u hj => ?_⟩
  have hc := h5 b hb j u hj
  have hbk : (b.add j).block = b.block := by unfold Addr.add; split <;> rfl
  refine (World.cell?_of_block (w := w) (ho.block _ (World.block_lt_of_cell? w _ hc) ?_)).trans hc
  rw [hbk]
  exact ha _ (by subst hb; rfl)
def slen : Value → Nat
  | .slice _ n _ => n
  | _ => 0
def Off (x : Value) (L : List Nat) : Prop := 0 < slen x → Apart x L
theorem Src.off {w w' : World} {x : Value} {size m : Nat} {news : List Value} {L : List Nat} (h : Src w x size m news) (ho : Only w w' L) (ha : Off x L) : Src w' x size m news := by
  by_cases hm : 0 < slen x
  · exact h.only ho (ha hm)
  · obtain ⟨ao, c, rfl, h1, h2, h3, h4, h5⟩ := h
    have hm : m = 0 := by simpa [slen] using hm
    subst hm
    refine ⟨ao, c, rfl, h1, h2, h3, h4, fun b hb j u hj => ?_⟩
    have : news = [] := List.eq_nil_of_length_eq_zero (by simpa using h3)
    subst this
    simp at hj
theorem Src.lt {w : World} {x : Value} {size m : Nat} {news : List Value} (h : Src w x size m news) (hs : 0 < size) (hm : 0 < slen x) : ∀ k, x.ownBlock = some k → k < w.heap.size := by
  obtain ⟨ao, c, rfl, h1, h2, h3, h4, h5⟩ := h
  intro k hk
  have hm : 0 < m := hm
  cases ao with
  | none => simp [Value.ownBlock] at hk
  | some a =>
    simp only [Value.ownBlock, Option.some.injEq] at hk
    subst hk
    have hl : 0 < news.length := by rw [h3]; exact Nat.mul_pos hm hs
    have hc := h5 a rfl 0 news[0] (by simp)
    rw [show a.add 0 = a by simp [Addr.add]] at hc
    exact World.block_lt_of_cell? w a hc
theorem Src.off_new {w : World} {x : Value} {size m : Nat} {news : List Value} {L : List Nat} (h : Src w x size m news) (hs : 0 < size) (hL : ∀ k ∈ L, w.heap.size ≤ k) : Off x L := fun hm k hk hkL => by
  have := h.lt hs hm k hk
  have := hL k hkL
  omega
theorem own_src {w : World} {base e size n : Nat} {v : Value} {xs : List Value} (h : w.ownsRow base e size v n xs) : Src w v size n xs := by
  obtain ⟨h0, h1⟩ := h
  rcases h1 with ⟨rfl, rfl⟩ | ⟨g, cap, cur, rfl, hb, hg, h2, h3, h4, h5⟩
  · exact ⟨none, 0, rfl, Nat.le_refl _, Nat.zero_le _, h0, by simp, by simp⟩
  · refine ⟨some ⟨g, 0, none⟩, cap, rfl, h2, h3, h0, by simp, fun b hbb j u hj => ?_⟩
    obtain rfl : b = ⟨g, 0, none⟩ := by simpa using hbb.symm
    exact World.ownsRow.cells (base := base) (e := e) (size := size) (n := n) (v := .slice (some ⟨g, 0, none⟩) n cap) (xs := xs) ⟨h0, .inr ⟨g, cap, cur, rfl, hb, hg, h2, h3, h4, h5⟩⟩ rfl j u hj
theorem own_only {w w' : World} {base e size n : Nat} {v : Value} {xs : List Value} {L : List Nat} (h : w.ownsRow base e size v n xs) (ho : Only w w' L) (ha : Apart v L) : w'.ownsRow base e size v n xs := by
  refine ⟨h.1, ?_⟩
  rcases h.2 with hn | ⟨g, cap, cur, rfl, hb, hgg, rest⟩
  · exact .inl hn
  · exact .inr ⟨g, cap, cur, rfl, hb, (ho.block g (Array.getElem?_eq_some_iff.1 hgg).1 (ha g rfl)).trans hgg, rest⟩
theorem own_new {w w' : World} {base e size n : Nat} {v : Value} {xs : List Value} {L : List Nat} (h : w.ownsRow base e size v n xs) (ho : Only w w' L) (hL : ∀ k ∈ L, w.heap.size ≤ k) : w'.ownsRow base e size v n xs :=
  own_only h ho fun k hk hm => by
    have := (h.lt k hk).2
    have := hL k hm
    omega
theorem Only.at {w w' : World} {L : List Nat} {B : Nat} {o : Obj} (ho : Only w w' L) (h : w.heap[B]? = some o) (hn : B ∉ L) : w'.heap[B]? = some o :=
  (ho.block B (Array.getElem?_eq_some_iff.1 h).1 hn).trans h
theorem own_list {w : World} {B : Nat} {v0 v : Value} (h : SoN w v0 v) : ∀ i ∈ B :: v.ownBlock.toList, i ∈ B :: v0.ownBlock.toList ∨ w.heap.size ≤ i := by
  intro i hi
  rcases List.mem_cons.1 hi with rfl | hi
  · exact .inl (by simp)
  · rcases h.toList i hi with h | h
    · exact .inl (by simp [List.mem_cons, h])
    · exact .inr h
theorem one_ints (k : IntKind) (l : List Int) : ∀ u ∈ l.map (Value.int k), u.oneCell' = true := by
  intro u hu
  obtain ⟨x, _, rfl⟩ := List.mem_map.1 hu
  rfl
theorem cell_in {w : World} {b : Nat} {cs : Array Value} {t : TypeId} {fr : Nat × Nat} (h : w.heap[b]? = some (.cells cs t fr)) (i : Nat) : w.cell? ⟨b, i, none⟩ = cs[i]? := by simp [World.cell?, h]
theorem free_in {w : World} {b : Nat} {cs : Array Value} {t : TypeId} (h : w.heap[b]? = some (.cells cs t (0, 0))) (i : Nat) : w.frozen? ⟨b, i, none⟩ = false := by simp [World.frozen?, h]
theorem Only.cell_in {w w' : World} {b : Nat} {cs : Array Value} {t : TypeId} {fr : Nat × Nat} {L : List Nat} (ho : Only w w' L) (h : w.heap[b]? = some (.cells cs t fr)) (hn : b ∉ L) (i : Nat) : w'.cell? ⟨b, i, none⟩ = cs[i]? := Pw.cell_in (ho.at h hn) i
theorem set_at {w : World} {b i : Nat} {cs : Array Value} {t : TypeId} {fr : Nat × Nat} (h : w.heap[b]? = some (.cells cs t fr)) (u : Value) : (w.setCell ⟨b, i, none⟩ u).heap[b]? = some (.cells (cs.setIfInBounds i u) t fr) := by
  have hlt := lt_of_block h
  have h' : w.heap[b] = .cells cs t fr := by simpa [Array.getElem?_eq_getElem hlt] using h
  show (w.heap.modify b _)[b]? = _
  rw [Array.getElem?_eq_getElem (by simpa using hlt), Array.getElem_modify_self, h']
  rfl
theorem new_block (w : World) (o : Obj) : ∃ W X, W = w.alloc o ∧ X = w.heap.size ∧ W.heap[X]? = some o ∧ Only w W [] ∧ w.heap.size ≤ X ∧ X < W.heap.size :=
  ⟨_, _, rfl, rfl, heap_alloc_new w o, Only.alloc w o [], Nat.le_refl _, by simp⟩
def IsW (T E : TypeId) (B : Nat) (v : Value) (xs : List Int) (w : World) : Prop :=
  w.heap[B]? = some (.cells #[v] T (0, 0)) ∧ w.ownsRow 0 E 1 v xs.length (xs.map (Value.int .u8))
theorem isw_step {T E : TypeId} {B : Nat} {v v' : Value} {ys news : List Int} {wr w1 w' : World} (hTE : T ≠ E) (hw : IsW T E B v ys wr) (h01 : Only wr w1 [])
    (hown : w'.ownsRow 0 E 1 v' (ys.length + news.length) (ys.map (Value.int .u8) ++ news.map (Value.int .u8))) (hg : w1.grownBy w' v.ownBlock) (hs : SoN w1 v v') :
    IsW T E B v' (ys ++ news) (w'.setCell ⟨B, 0, none⟩ v') ∧ SoN wr v v' ∧ Only wr (w'.setCell ⟨B, 0, none⟩ v') (B :: v.ownBlock.toList) := by
  obtain ⟨hB, ho⟩ := hw
  have hlt := (Array.getElem?_eq_some_iff.1 hB).1
  have hne := own_ne ho hB hTE
  have hB1 : w1.heap[B]? = some (.cells #[v] T (0, 0)) := (h01.block B hlt (by simp)).trans hB
  have hB' := grown_block hg hB1 hne
  have hne' := own_ne hown hB' hTE
  refine ⟨⟨one_setCell hB', ?_⟩, hs.weaken h01.size, ?_⟩
  · rw [List.length_append, List.map_append]
    exact ownsRow_setCell_other hown (by simpa using hne') _
  · refine Only.step (Only.step (h01.mono (by simp)) (Only.grown (L := v.ownBlock.toList) hg (fun k hk => by simp [hk])) (fun i hi => .inl (by simp [hi]))) (Only.setCell _ _ _ [B] (by simp)) (fun i hi => .inl (by simp_all))
theorem IsW.slice {T E : TypeId} {B : Nat} {v : Value} {xs : List Int} {w : World} (h : IsW T E B v xs w) : ∃ ao c, v = .slice ao xs.length c := by
  rcases h.2.2 with ⟨rfl, h0⟩ | ⟨g, cap, _, rfl, _⟩
  · exact ⟨none, 0, by rw [h0]⟩
  · exact ⟨_, _, rfl⟩
end Go.Pw
end

section
set_option linter.all false
open Go Go.Sx Go.Proofs
set_option linter.all false
namespace Go.Proofs.YtfkbookaceckhaaGreatDoor
set_option maxRecDepth 1000000
def okT (t : Nat) : Bool := memN t [7, 8, 24, 25, 39, 40, 46, 47, 57, 58, 70, 71, 82, 83, 87, 88, 90, 91, 95, 96, 104, 105, 106, 107, 110, 111, 112, 113, 119, 120, 126, 127, 133, 134, 139, 140, 143, 144, 145, 146, 148, 149, 150, 151, 156, 157, 164, 165, 168, 169, 173, 174, 175, 176, 184, 185, 188, 189, 190, 191, 196, 197, 209, 210, 214, 215, 219, 220, 224, 225, 227, 228, 235, 236, 262, 263, 278, 279, 293, 294, 297, 298, 308, 309, 321, 322, 335, 336, 368, 369, 380, 381, 382, 472, 473, 550, 551]
noncomputable def caughtC : Code := bodyOf Tryz.prog 94
noncomputable def caughtR : Code := seqB caughtC
noncomputable def caughtO : Oper := match seqA caughtC with
  | .region _ #[o] _ => o
  | _ => default
theorem caught_body : Tryz.f94.body = some (.seq (.region 0 #[caughtO] false) caughtR) := by kernel_rfl
noncomputable def dhC : Dh := dhookM Tryz.prog okT 94 15 5 1000 caughtR
theorem callsOK : CallsOK Tryz.prog := callsOK_of (by kernel_rfl)
theorem mixed : Tryz.prog.follows .mixedOrders = true := by kernel_rfl
theorem okt : OkT Tryz.prog okT := okT_of (by kernel_rfl)
theorem dhC_good : DhGood Tryz.prog dhC := dhookM_good okt callsOK mixed Tryz.func94 caught_body (by kernel_rfl) (by kernel_rfl) (by kernel_rfl) (by kernel_rfl) (fun l => by kernel_rfl) (fun e w => by kernel_rfl)
end Go.Proofs.YtfkbookaceckhaaGreatDoor
open Go Go.Sx Go.Proofs Go.RowKit Go.Lib
set_option linter.all false
namespace Go.Proofs.YtfkbookaceckhaaGreatDoor
set_option maxRecDepth 100000
set_option maxHeartbeats 1000000 in
theorem mul64_any (x y : Nat) (hx : x < 18446744073709551616) (hy : y < 18446744073709551616) (w : World) :
    Calls Tryz.prog 386 #[.int .u64 x, .int .u64 y] w fun e w' => e = .returned (.tuple #[.int .u64 ((x * y / 18446744073709551616 : Nat) : Int), .int .u64 ((x * y % 18446744073709551616 : Nat) : Int)]) ∧ w' = w := by
  obtain ⟨bd, bt, bw, hhi⟩ := Lib.mul64_hi x y hx hy
  have ba := Lib.half_mul_le (a := x / 4294967296) (b := y / 4294967296) (by omega) (by omega)
  have bb := Lib.half_mul_le (a := x / 4294967296) (b := y % 4294967296) (by omega) (by omega)
  have bc := Lib.half_mul_le (a := x % 4294967296) (b := y / 4294967296) (by omega) (by omega)
  have ba' : x / 4294967296 * (y / 4294967296) < 18446744073709551616 := by omega
  have bb' : x / 4294967296 * (y % 4294967296) < 18446744073709551616 := by omega
  have bc' : x % 4294967296 * (y / 4294967296) < 18446744073709551616 := by omega
  have bh1 : x / 4294967296 * (y / 4294967296) + (x / 4294967296 * (y % 4294967296) + x % 4294967296 * (y % 4294967296) / 4294967296) / 4294967296 < 18446744073709551616 := by omega
  have bh : x / 4294967296 * (y / 4294967296) + (x / 4294967296 * (y % 4294967296) + x % 4294967296 * (y % 4294967296) / 4294967296) / 4294967296 + ((x / 4294967296 * (y % 4294967296) + x % 4294967296 * (y % 4294967296) / 4294967296) % 4294967296 + x % 4294967296 * (y / 4294967296)) / 4294967296 < 18446744073709551616 := by
    rw [hhi]
    have : x * y < 18446744073709551616 * 18446744073709551616 := Nat.mul_lt_mul'' hx hy
    omega
  go_enter Tryz.func386, Tryz.ntmps386
  go_wp2
  simp only [Mul64.maskN x hx, Mul64.maskN y hy, Mul64.divN, Mul64.mulN, Mul64.addN, Mul64.wrapN _ bd, Mul64.wrapN _ bb', Mul64.wrapN _ bt, Mul64.maskN _ bt, Mul64.wrapN _ bc', Mul64.wrapN _ bw, Mul64.wrapN _ ba', Mul64.wrapN _ bh1, Mul64.wrapN _ bh, Mul64.wrapM (x * y)]
  rw [hhi]
  go_ret2
  exact ⟨rfl, rfl⟩
theorem add64_run (x y c : Nat) (hc : c ≤ 1) (w : World) :
    (callFunc 387 #[.int .u64 x, .int .u64 y, .int .u64 c]).run Tryz.prog w =
      .ok (.value (.tuple #[.int .u64 (((x + y + c) % 18446744073709551616 : Nat) : Int), .int .u64 (((x + y + c) / 18446744073709551616 : Nat) : Int)])) w := by
  rw [run_callFunc_extern Tryz.func387 (by kernel_rfl) (by kernel_rfl) (by kernel_rfl) (e := add64Entry) (by kernel_rfl), run_add64 x y c (by omega) (by omega) (by omega) (by omega)]
  simp only [Result.andThen]
  congr 5 <;> omega
set_option maxHeartbeats 1000000 in
theorem wadd_any (hi lo a b : Nat) (h1 : hi < 18446744073709551616) (h2 : lo < 18446744073709551616) (ha : a < 18446744073709551616) (hb : b < 18446744073709551616) (w : World) :
    Calls Tryz.prog 358 #[.agg #[.int .u64 hi, .int .u64 lo], .int .u64 a, .int .u64 b] w fun e w' =>
      e = .returned (.agg #[.int .u64 ((((hi * 18446744073709551616 + lo) + a * b) / 18446744073709551616 % 18446744073709551616 : Nat) : Int), .int .u64 ((((hi * 18446744073709551616 + lo) + a * b) % 18446744073709551616 : Nat) : Int)]) ∧ OnlyB w w' (fun _ => False) := by
  obtain ⟨p, hp⟩ : ∃ p, p = a * b / 18446744073709551616 := ⟨_, rfl⟩
  obtain ⟨q, hq⟩ : ∃ q, q = a * b % 18446744073709551616 := ⟨_, rfl⟩
  have hm := mul64_any a b ha hb
  rw [← hp, ← hq] at hm
  have hq2 : q < 18446744073709551616 := by omega
  obtain ⟨l, hl⟩ : ∃ l, l = (lo + q) % 18446744073709551616 := ⟨_, rfl⟩
  obtain ⟨c, hc⟩ : ∃ c, c = (lo + q) / 18446744073709551616 := ⟨_, rfl⟩
  obtain ⟨h, hh⟩ : ∃ h, h = (hi + p + c) % 18446744073709551616 := ⟨_, rfl⟩
  obtain ⟨d, hd⟩ : ∃ d, d = (hi + p + c) / 18446744073709551616 := ⟨_, rfl⟩
  have h3 : ∀ w, (callFunc 387 #[.int .u64 lo, .int .u64 q, .int .u64 0]).run Tryz.prog w = .ok (.value (.tuple #[.int .u64 l, .int .u64 c])) w := fun w => by
    have := add64_run lo q 0 (by omega) w
    rw [Nat.add_zero, ← hl, ← hc] at this
    exact this
  have h4 : ∀ w, (callFunc 387 #[.int .u64 hi, .int .u64 p, .int .u64 c]).run Tryz.prog w = .ok (.value (.tuple #[.int .u64 h, .int .u64 d])) w := fun w => by
    have := add64_run hi p c (by omega) w
    rw [← hh, ← hd] at this
    exact this
  have e1 : ((hi * 18446744073709551616 + lo) + a * b) / 18446744073709551616 % 18446744073709551616 = h := by
    have := Nat.div_add_mod (a * b) 18446744073709551616
    rw [← hp, ← hq] at this
    omega
  have e2 : ((hi * 18446744073709551616 + lo) + a * b) % 18446744073709551616 = l := by
    have := Nat.div_add_mod (a * b) 18446744073709551616
    rw [← hp, ← hq] at this
    omega
  rw [e1, e2]
  clear e1 e2 hh hd hl hc hp hq hq2 h1 h2 ha hb
  go_enter Tryz.func358, Tryz.ntmps358
  go_wp2_with (go_at_call 386; refine (hm _).mono ?_; rintro e w' ⟨rfl, rfl⟩)
  go_returns
  refine ⟨rfl, rfl, rfl, rfl, by show _ ≤ (Array.push (Array.push w.heap _) _).size; rw [Array.size_push, Array.size_push]; omega, fun k hk _ => ?_⟩
  rw [Below.heap_alloc _ _ _ (by show _ < (Array.push w.heap _).size; rw [Array.size_push]; omega), Below.heap_alloc _ _ _ hk]
def gWA : List AV → Option AV
  | [.agg [x, y], z, t] => match symN .u64 x, symN .u64 y, symN .u64 z, symN .u64 t with
    | some hi, some lo, some a, some b => some (.agg [.sn .u64 (Nat.mod (Nat.div (Nat.add (Nat.add (Nat.mul hi.1 18446744073709551616) lo.1) (Nat.mul a.1 b.1)) 18446744073709551616) 18446744073709551616) (Nat.mod_lt _ (by decide)), .sn .u64 (Nat.mod (Nat.add (Nat.add (Nat.mul hi.1 18446744073709551616) lo.1) (Nat.mul a.1 b.1)) 18446744073709551616) (Nat.mod_lt _ (by decide))])
    | _, _, _, _ => none
  | _ => none
theorem wadd_fn : fnOf Tryz.prog 358 = some (ntOf Tryz.prog 358, bodyOf Tryz.prog 358, resultsOf Tryz.prog 358) := by kernel_rfl
theorem wadd_good : HkGood Tryz.prog (pureHook 358 gWA) := by
  obtain ⟨fn, h1, _, h3, _⟩ := fnOf_ok wadd_fn
  refine fHook_good ⟨fn, _, h1, h3⟩ fun args v σ us w hg hd => ?_
  unfold gWA at hg
  split at hg
  · rename_i x y z t
    split at hg
    · rename_i hi lo a b q1 q2 q3 q4
      obtain rfl := Option.some.inj hg
      obtain ⟨u, l1, rfl, hx, hd⟩ := denL_cons hd
      obtain ⟨u', l2, rfl, hz, hd⟩ := denL_cons hd
      obtain ⟨u'', l3, rfl, ht, hd⟩ := denL_cons hd
      obtain rfl := denL_nil hd
      simp only [den] at hx
      split at hx
      · rename_i l hl
        obtain rfl := Option.some.inj hx
        obtain ⟨u1, l1, rfl, hx1, hl⟩ := denL_cons hl
        obtain ⟨u2, l2, rfl, hx2, hl⟩ := denL_cons hl
        obtain rfl := denL_nil hl
        obtain rfl := symN_ok q1 hx1
        obtain rfl := symN_ok q2 hx2
        obtain rfl := symN_ok q3 hz
        obtain rfl := symN_ok q4 ht
        exact ⟨_, rfl, wadd_any hi.1 lo.1 a.1 b.1 hi.2 lo.2 a.2 b.2 w⟩
      · cases hx
    · cases hg
  · cases hg
end Go.Proofs.YtfkbookaceckhaaGreatDoor
open Go Go.Sx Go.Proofs Go.RowKit
set_option linter.all false
namespace Go.Proofs.YtfkbookaceckhaaGreatDoor
set_option maxRecDepth 1000000
def settleL (a0 a1 a2 a3 a4 : Nat) : List Nat :=
  let s0 := Nat.mod (Nat.add a0 (Nat.mod (Nat.mul 19 (Nat.div a4 2251799813685248)) 18446744073709551616)) 18446744073709551616
  let s1 := Nat.mod (Nat.add a1 (Nat.div s0 2251799813685248)) 18446744073709551616
  let s2 := Nat.mod (Nat.add a2 (Nat.div s1 2251799813685248)) 18446744073709551616
  let s3 := Nat.mod (Nat.add a3 (Nat.div s2 2251799813685248)) 18446744073709551616
  let s4 := Nat.mod (Nat.add (Nat.land a4 2251799813685247) (Nat.div s3 2251799813685248)) 18446744073709551616
  [Nat.land s0 2251799813685247, Nat.land s1 2251799813685247, Nat.land s2 2251799813685247, Nat.land s3 2251799813685247, s4]
def settle1 (l : List Nat) : List Nat := match l with
  | [a0, a1, a2, a3, a4] => settleL a0 a1 a2 a3 a4
  | _ => []
def plusW (a b : Nat) : Nat := Nat.mod (Nat.add a b) 18446744073709551616
def addF (a0 a1 a2 a3 a4 b0 b1 b2 b3 b4 : Nat) : List Nat := settleL (plusW a0 b0) (plusW a1 b1) (plusW a2 b2) (plusW a3 b3) (plusW a4 b4)
def lessW (a two b : Nat) : Nat := Nat.mod (Nat.add a (Nat.mod (Nat.add two (Nat.sub 18446744073709551616 b)) 18446744073709551616)) 18446744073709551616
def sub5 (a0 a1 a2 a3 a4 : Nat) (l : List Nat) : List Nat := match l with
  | [b0, b1, b2, b3, b4] => settle1 (settleL (lessW a0 9007199254740916 b0) (lessW a1 9007199254740988 b1) (lessW a2 9007199254740988 b2) (lessW a3 9007199254740988 b3) (lessW a4 9007199254740988 b4))
  | _ => []
def subF (a0 a1 a2 a3 a4 b0 b1 b2 b3 b4 : Nat) : List Nat := sub5 a0 a1 a2 a3 a4 (settleL b0 b1 b2 b3 b4)
def settleG (A : Alg) (a0 a1 a2 a3 a4 : Nat) : List Nat :=
  let s0 := A.add 18446744073709551616 a0 (A.mul 18446744073709551616 19 (A.shr a4 51))
  let s1 := A.add 18446744073709551616 a1 (A.shr s0 51)
  let s2 := A.add 18446744073709551616 a2 (A.shr s1 51)
  let s3 := A.add 18446744073709551616 a3 (A.shr s2 51)
  let s4 := A.add 18446744073709551616 (A.and a4 2251799813685247) (A.shr s3 51)
  [A.and s0 2251799813685247, A.and s1 2251799813685247, A.and s2 2251799813685247, A.and s3 2251799813685247, s4]
def settle1G (A : Alg) (l : List Nat) : List Nat := match l with
  | [a0, a1, a2, a3, a4] => settleG A a0 a1 a2 a3 a4
  | _ => []
def addG (A : Alg) (a0 a1 a2 a3 a4 b0 b1 b2 b3 b4 : Nat) : List Nat := settleG A (A.add 18446744073709551616 a0 b0) (A.add 18446744073709551616 a1 b1) (A.add 18446744073709551616 a2 b2) (A.add 18446744073709551616 a3 b3) (A.add 18446744073709551616 a4 b4)
def lessG (A : Alg) (a two b : Nat) : Nat := A.add 18446744073709551616 a (A.sub 18446744073709551616 two b)
def sub5G (A : Alg) (a0 a1 a2 a3 a4 : Nat) (l : List Nat) : List Nat := match l with
  | [b0, b1, b2, b3, b4] => settle1G A (settleG A (lessG A a0 9007199254740916 b0) (lessG A a1 9007199254740988 b1) (lessG A a2 9007199254740988 b2) (lessG A a3 9007199254740988 b3) (lessG A a4 9007199254740988 b4))
  | _ => []
def subG (A : Alg) (a0 a1 a2 a3 a4 b0 b1 b2 b3 b4 : Nat) : List Nat := sub5G A a0 a1 a2 a3 a4 (settleG A b0 b1 b2 b3 b4)
theorem addG_eq (a0 a1 a2 a3 a4 b0 b1 b2 b3 b4 : Nat) : addG nA a0 a1 a2 a3 a4 b0 b1 b2 b3 b4 = addF a0 a1 a2 a3 a4 b0 b1 b2 b3 b4 := rfl
theorem subG_eq (a0 a1 a2 a3 a4 b0 b1 b2 b3 b4 : Nat) : subG nA a0 a1 a2 a3 a4 b0 b1 b2 b3 b4 = subF a0 a1 a2 a3 a4 b0 b1 b2 b3 b4 := rfl
def wstep (w : Nat × Nat) (a b : Nat) : Nat × Nat := (Nat.mod (Nat.div (Nat.add (Nat.add (Nat.mul w.1 18446744073709551616) w.2) (Nat.mul a b)) 18446744073709551616) 18446744073709551616, Nat.mod (Nat.add (Nat.add (Nat.mul w.1 18446744073709551616) w.2) (Nat.mul a b)) 18446744073709551616)
def whigh (w : Nat × Nat) : Nat := Nat.lor (Nat.mod (Nat.mul w.1 8192) 18446744073709551616) (Nat.div w.2 2251799813685248)
def t19 (a : Nat) : Nat := Nat.mod (Nat.mul 19 a) 18446744073709551616
def carryM (r0 r1 r2 r3 r4 : Nat × Nat) : List Nat :=
  let q1 := wstep r1 (whigh r0) 1
  let q2 := wstep r2 (whigh q1) 1
  let q3 := wstep r3 (whigh q2) 1
  let q4 := wstep r4 (whigh q3) 1
  let o0 := plusW (Nat.land r0.2 2251799813685247) (t19 (whigh q4))
  [Nat.land o0 2251799813685247, plusW (Nat.land q1.2 2251799813685247) (Nat.div o0 2251799813685248), Nat.land q2.2 2251799813685247, Nat.land q3.2 2251799813685247, Nat.land q4.2 2251799813685247]
def whighG (A : Alg) (w : Nat × Nat) : Nat := A.or (A.shl 18446744073709551616 w.1 13) (A.shr w.2 51)
def carryG (A : Alg) (r0 r1 r2 r3 r4 : Nat × Nat) : List Nat :=
  let q1 := wstep r1 (whighG A r0) 1
  let q2 := wstep r2 (whighG A q1) 1
  let q3 := wstep r3 (whighG A q2) 1
  let q4 := wstep r4 (whighG A q3) 1
  let o0 := A.add 18446744073709551616 (A.and r0.2 2251799813685247) (A.mul 18446744073709551616 19 (whighG A q4))
  [A.and o0 2251799813685247, A.add 18446744073709551616 (A.and q1.2 2251799813685247) (A.shr o0 51), A.and q2.2 2251799813685247, A.and q3.2 2251799813685247, A.and q4.2 2251799813685247]
def t19G (A : Alg) (a : Nat) : Nat := A.mul 18446744073709551616 19 a
def mulM (a0 a1 a2 a3 a4 b0 b1 b2 b3 b4 : Nat) : List Nat := carryM (wstep (wstep (wstep (wstep (wstep (0, 0) a0 b0) (t19 a1) b4) (t19 a2) b3) (t19 a3) b2) (t19 a4) b1) (wstep (wstep (wstep (wstep (wstep (0, 0) a0 b1) a1 b0) (t19 a2) b4) (t19 a3) b3) (t19 a4) b2) (wstep (wstep (wstep (wstep (wstep (0, 0) a0 b2) a1 b1) a2 b0) (t19 a3) b4) (t19 a4) b3) (wstep (wstep (wstep (wstep (wstep (0, 0) a0 b3) a1 b2) a2 b1) a3 b0) (t19 a4) b4) (wstep (wstep (wstep (wstep (wstep (0, 0) a0 b4) a1 b3) a2 b2) a3 b1) a4 b0)
def mulG (A : Alg) (a0 a1 a2 a3 a4 b0 b1 b2 b3 b4 : Nat) : List Nat := carryG A (wstep (wstep (wstep (wstep (wstep (0, 0) a0 b0) (t19G A a1) b4) (t19G A a2) b3) (t19G A a3) b2) (t19G A a4) b1) (wstep (wstep (wstep (wstep (wstep (0, 0) a0 b1) a1 b0) (t19G A a2) b4) (t19G A a3) b3) (t19G A a4) b2) (wstep (wstep (wstep (wstep (wstep (0, 0) a0 b2) a1 b1) a2 b0) (t19G A a3) b4) (t19G A a4) b3) (wstep (wstep (wstep (wstep (wstep (0, 0) a0 b3) a1 b2) a2 b1) a3 b0) (t19G A a4) b4) (wstep (wstep (wstep (wstep (wstep (0, 0) a0 b4) a1 b3) a2 b2) a3 b1) a4 b0)
theorem whighG_eq : whighG nA = whigh := rfl
theorem t19G_eq : t19G nA = t19 := rfl
theorem carryG_eq (r0 r1 r2 r3 r4 : Nat × Nat) : carryG nA r0 r1 r2 r3 r4 = carryM r0 r1 r2 r3 r4 := by
  unfold carryG carryM
  rw [whighG_eq]
  rfl
theorem mulG_eq (a0 a1 a2 a3 a4 b0 b1 b2 b3 b4 : Nat) : mulG nA a0 a1 a2 a3 a4 b0 b1 b2 b3 b4 = mulM a0 a1 a2 a3 a4 b0 b1 b2 b3 b4 := by
  unfold mulG mulM
  rw [carryG_eq, t19G_eq]
def high1 (s : Nat) : Nat := Nat.lor (Nat.mod (Nat.mul (Nat.mod (Nat.div s 18446744073709551616) 18446744073709551616) 8192) 18446744073709551616) (Nat.div (Nat.mod s 18446744073709551616) 2251799813685248)
def low1 (s : Nat) : Nat := Nat.land (Nat.mod s 18446744073709551616) 2251799813685247
def carryF (s0 s1 s2 s3 s4 : Nat) : List Nat :=
  let q1 := Nat.add s1 (high1 s0)
  let q2 := Nat.add s2 (high1 q1)
  let q3 := Nat.add s3 (high1 q2)
  let q4 := Nat.add s4 (high1 q3)
  let o0 := plusW (low1 s0) (t19 (high1 q4))
  [Nat.land o0 2251799813685247, plusW (low1 q1) (Nat.div o0 2251799813685248), low1 q2, low1 q3, low1 q4]
def mulF (a0 a1 a2 a3 a4 b0 b1 b2 b3 b4 : Nat) : List Nat := carryF (Nat.add (Nat.add (Nat.add (Nat.add (Nat.mul a0 b0) (Nat.mul (t19 a1) b4)) (Nat.mul (t19 a2) b3)) (Nat.mul (t19 a3) b2)) (Nat.mul (t19 a4) b1)) (Nat.add (Nat.add (Nat.add (Nat.add (Nat.mul a0 b1) (Nat.mul a1 b0)) (Nat.mul (t19 a2) b4)) (Nat.mul (t19 a3) b3)) (Nat.mul (t19 a4) b2)) (Nat.add (Nat.add (Nat.add (Nat.add (Nat.mul a0 b2) (Nat.mul a1 b1)) (Nat.mul a2 b0)) (Nat.mul (t19 a3) b4)) (Nat.mul (t19 a4) b3)) (Nat.add (Nat.add (Nat.add (Nat.add (Nat.mul a0 b3) (Nat.mul a1 b2)) (Nat.mul a2 b1)) (Nat.mul a3 b0)) (Nat.mul (t19 a4) b4)) (Nat.add (Nat.add (Nat.add (Nat.add (Nat.mul a0 b4) (Nat.mul a1 b3)) (Nat.mul a2 b2)) (Nat.mul a3 b1)) (Nat.mul a4 b0))
def RepW (w : Nat × Nat) (s : Nat) : Prop := w = (s / 18446744073709551616 % 18446744073709551616, s % 18446744073709551616)
theorem RepW.zero : RepW (0, 0) 0 := rfl
theorem RepW.step {w : Nat × Nat} {s : Nat} (h : RepW w s) (a b : Nat) : RepW (wstep w a b) (s + a * b) := by
  subst h
  have e : ∀ p : Nat, (s / 18446744073709551616 % 18446744073709551616 * 18446744073709551616 + s % 18446744073709551616 + p) % (18446744073709551616 * 18446744073709551616) = (s + p) % (18446744073709551616 * 18446744073709551616) := fun p => by omega
  have hd : ∀ x : Nat, x / 18446744073709551616 % 18446744073709551616 = x % (18446744073709551616 * 18446744073709551616) / 18446744073709551616 := fun x => by omega
  have hm : ∀ x : Nat, x % 18446744073709551616 = x % (18446744073709551616 * 18446744073709551616) % 18446744073709551616 := fun x => by omega
  show ((s / 18446744073709551616 % 18446744073709551616 * 18446744073709551616 + s % 18446744073709551616 + a * b) / 18446744073709551616 % 18446744073709551616, (s / 18446744073709551616 % 18446744073709551616 * 18446744073709551616 + s % 18446744073709551616 + a * b) % 18446744073709551616) = _
  generalize a * b = p
  rw [hd, hm (_ + p), e p, ← hd, ← hm]
theorem RepW.high {w : Nat × Nat} {s : Nat} (h : RepW w s) : whigh w = high1 s := by subst h; rfl
theorem RepW.low {w : Nat × Nat} {s : Nat} (h : RepW w s) : Nat.land w.2 2251799813685247 = low1 s := by subst h; rfl
theorem carry_eq {r0 r1 r2 r3 r4 : Nat × Nat} {s0 s1 s2 s3 s4 : Nat} (h0 : RepW r0 s0) (h1 : RepW r1 s1) (h2 : RepW r2 s2) (h3 : RepW r3 s3) (h4 : RepW r4 s4) : carryM r0 r1 r2 r3 r4 = carryF s0 s1 s2 s3 s4 := by
  have q1 := h1.step (whigh r0) 1
  rw [h0.high, Nat.mul_one] at q1
  have q2 := h2.step (high1 (s1 + high1 s0)) 1
  rw [Nat.mul_one] at q2
  have q3 := h3.step (high1 (s2 + high1 (s1 + high1 s0))) 1
  rw [Nat.mul_one] at q3
  have q4 := h4.step (high1 (s3 + high1 (s2 + high1 (s1 + high1 s0)))) 1
  rw [Nat.mul_one] at q4
  unfold carryM carryF
  simp only [h0.high, q1.high, q2.high, q3.high, q4.high, h0.low, q1.low, q2.low, q3.low, q4.low]
  rfl
theorem mul_eq (a0 a1 a2 a3 a4 b0 b1 b2 b3 b4 : Nat) : mulM a0 a1 a2 a3 a4 b0 b1 b2 b3 b4 = mulF a0 a1 a2 a3 a4 b0 b1 b2 b3 b4 := by
  have h0 := trivial
  refine (carry_eq (s0 := (0 + a0 * b0 + (t19 a1) * b4 + (t19 a2) * b3 + (t19 a3) * b2 + (t19 a4) * b1)) (s1 := (0 + a0 * b1 + a1 * b0 + (t19 a2) * b4 + (t19 a3) * b3 + (t19 a4) * b2)) (s2 := (0 + a0 * b2 + a1 * b1 + a2 * b0 + (t19 a3) * b4 + (t19 a4) * b3)) (s3 := (0 + a0 * b3 + a1 * b2 + a2 * b1 + a3 * b0 + (t19 a4) * b4)) (s4 := (0 + a0 * b4 + a1 * b3 + a2 * b2 + a3 * b1 + a4 * b0)) (RepW.step (RepW.step (RepW.step (RepW.step (RepW.step RepW.zero _ _) _ _) _ _) _ _) _ _) (RepW.step (RepW.step (RepW.step (RepW.step (RepW.step RepW.zero _ _) _ _) _ _) _ _) _ _) (RepW.step (RepW.step (RepW.step (RepW.step (RepW.step RepW.zero _ _) _ _) _ _) _ _) _ _) (RepW.step (RepW.step (RepW.step (RepW.step (RepW.step RepW.zero _ _) _ _) _ _) _ _) _ _) (RepW.step (RepW.step (RepW.step (RepW.step (RepW.step RepW.zero _ _) _ _) _ _) _ _) _ _)).trans ?_
  · simp only [Nat.zero_add]
    rfl
noncomputable def hA : Hk := pureHook 358 gWA
theorem add_run (a0 : Nat) (ha0 : a0 < um .u64) (a1 : Nat) (ha1 : a1 < um .u64) (a2 : Nat) (ha2 : a2 < um .u64) (a3 : Nat) (ha3 : a3 < um .u64) (a4 : Nat) (ha4 : a4 < um .u64) (b0 : Nat) (hb0 : b0 < um .u64) (b1 : Nat) (hb1 : b1 < um .u64) (b2 : Nat) (hb2 : b2 < um .u64) (b3 : Nat) (hb3 : b3 < um .u64) (b4 : Nat) (hb4 : b4 < um .u64) (E : Nat → Nat) : (xcall Tryz.prog okT hA dhC 1000 20 363 [.agg [.sn .u64 a0 ha0, .sn .u64 a1 ha1, .sn .u64 a2 ha2, .sn .u64 a3 ha3, .sn .u64 a4 ha4], .agg [.sn .u64 b0 hb0, .sn .u64 b1 hb1, .sn .u64 b2 hb2, .sn .u64 b3 hb3, .sn .u64 b4 hb4]] (st0 [] E)).val.bind (nats .u64) = some (addG oA a0 a1 a2 a3 a4 b0 b1 b2 b3 b4) := by kernel_rfl
theorem add_any (a0 : Nat) (ha0 : a0 < um .u64) (a1 : Nat) (ha1 : a1 < um .u64) (a2 : Nat) (ha2 : a2 < um .u64) (a3 : Nat) (ha3 : a3 < um .u64) (a4 : Nat) (ha4 : a4 < um .u64) (b0 : Nat) (hb0 : b0 < um .u64) (b1 : Nat) (hb1 : b1 < um .u64) (b2 : Nat) (hb2 : b2 < um .u64) (b3 : Nat) (hb3 : b3 < um .u64) (b4 : Nat) (hb4 : b4 < um .u64) (W : World) : Calls Tryz.prog 363 #[.agg #[.int .u64 a0, .int .u64 a1, .int .u64 a2, .int .u64 a3, .int .u64 a4], .agg #[.int .u64 b0, .int .u64 b1, .int .u64 b2, .int .u64 b3, .int .u64 b4]] W fun e W' => e = .returned (.agg ((addF a0 a1 a2 a3 a4 b0 b1 b2 b3 b4).map fun (n : Nat) => Value.int .u64 n).toArray) ∧ OnlyB W W' (fun _ => False) := by
  rw [← addG_eq, ← oA_eq]
  exact nat_calls (E := fun _ => 0) okt callsOK mixed wadd_good dhC_good (args := [.agg [.sn .u64 a0 ha0, .sn .u64 a1 ha1, .sn .u64 a2 ha2, .sn .u64 a3 ha3, .sn .u64 a4 ha4], .agg [.sn .u64 b0 hb0, .sn .u64 b1 hb1, .sn .u64 b2 hb2, .sn .u64 b3 hb3, .sn .u64 b4 hb4]]) (us := [.agg #[.int .u64 a0, .int .u64 a1, .int .u64 a2, .int .u64 a3, .int .u64 a4], .agg #[.int .u64 b0, .int .u64 b1, .int .u64 b2, .int .u64 b3, .int .u64 b4]]) (fun σ => rfl) (by kernel_rfl) (by kernel_rfl) (fun _ _ h => by cases h) (add_run a0 ha0 a1 ha1 a2 ha2 a3 ha3 a4 ha4 b0 hb0 b1 hb1 b2 hb2 b3 hb3 b4 hb4 _)
theorem sub_run (a0 : Nat) (ha0 : a0 < um .u64) (a1 : Nat) (ha1 : a1 < um .u64) (a2 : Nat) (ha2 : a2 < um .u64) (a3 : Nat) (ha3 : a3 < um .u64) (a4 : Nat) (ha4 : a4 < um .u64) (b0 : Nat) (hb0 : b0 < um .u64) (b1 : Nat) (hb1 : b1 < um .u64) (b2 : Nat) (hb2 : b2 < um .u64) (b3 : Nat) (hb3 : b3 < um .u64) (b4 : Nat) (hb4 : b4 < um .u64) (E : Nat → Nat) : (xcall Tryz.prog okT hA dhC 1000 20 362 [.agg [.sn .u64 a0 ha0, .sn .u64 a1 ha1, .sn .u64 a2 ha2, .sn .u64 a3 ha3, .sn .u64 a4 ha4], .agg [.sn .u64 b0 hb0, .sn .u64 b1 hb1, .sn .u64 b2 hb2, .sn .u64 b3 hb3, .sn .u64 b4 hb4]] (st0 [] E)).val.bind (nats .u64) = some (subG oA a0 a1 a2 a3 a4 b0 b1 b2 b3 b4) := by kernel_rfl
theorem sub_any (a0 : Nat) (ha0 : a0 < um .u64) (a1 : Nat) (ha1 : a1 < um .u64) (a2 : Nat) (ha2 : a2 < um .u64) (a3 : Nat) (ha3 : a3 < um .u64) (a4 : Nat) (ha4 : a4 < um .u64) (b0 : Nat) (hb0 : b0 < um .u64) (b1 : Nat) (hb1 : b1 < um .u64) (b2 : Nat) (hb2 : b2 < um .u64) (b3 : Nat) (hb3 : b3 < um .u64) (b4 : Nat) (hb4 : b4 < um .u64) (W : World) : Calls Tryz.prog 362 #[.agg #[.int .u64 a0, .int .u64 a1, .int .u64 a2, .int .u64 a3, .int .u64 a4], .agg #[.int .u64 b0, .int .u64 b1, .int .u64 b2, .int .u64 b3, .int .u64 b4]] W fun e W' => e = .returned (.agg ((subF a0 a1 a2 a3 a4 b0 b1 b2 b3 b4).map fun (n : Nat) => Value.int .u64 n).toArray) ∧ OnlyB W W' (fun _ => False) := by
  rw [← subG_eq, ← oA_eq]
  exact nat_calls (E := fun _ => 0) okt callsOK mixed wadd_good dhC_good (args := [.agg [.sn .u64 a0 ha0, .sn .u64 a1 ha1, .sn .u64 a2 ha2, .sn .u64 a3 ha3, .sn .u64 a4 ha4], .agg [.sn .u64 b0 hb0, .sn .u64 b1 hb1, .sn .u64 b2 hb2, .sn .u64 b3 hb3, .sn .u64 b4 hb4]]) (us := [.agg #[.int .u64 a0, .int .u64 a1, .int .u64 a2, .int .u64 a3, .int .u64 a4], .agg #[.int .u64 b0, .int .u64 b1, .int .u64 b2, .int .u64 b3, .int .u64 b4]]) (fun σ => rfl) (by kernel_rfl) (by kernel_rfl) (fun _ _ h => by cases h) (sub_run a0 ha0 a1 ha1 a2 ha2 a3 ha3 a4 ha4 b0 hb0 b1 hb1 b2 hb2 b3 hb3 b4 hb4 _)
theorem mul_run (a0 : Nat) (ha0 : a0 < um .u64) (a1 : Nat) (ha1 : a1 < um .u64) (a2 : Nat) (ha2 : a2 < um .u64) (a3 : Nat) (ha3 : a3 < um .u64) (a4 : Nat) (ha4 : a4 < um .u64) (b0 : Nat) (hb0 : b0 < um .u64) (b1 : Nat) (hb1 : b1 < um .u64) (b2 : Nat) (hb2 : b2 < um .u64) (b3 : Nat) (hb3 : b3 < um .u64) (b4 : Nat) (hb4 : b4 < um .u64) (E : Nat → Nat) : (xcall Tryz.prog okT hA dhC 1000 20 309 [.agg [.sn .u64 a0 ha0, .sn .u64 a1 ha1, .sn .u64 a2 ha2, .sn .u64 a3 ha3, .sn .u64 a4 ha4], .agg [.sn .u64 b0 hb0, .sn .u64 b1 hb1, .sn .u64 b2 hb2, .sn .u64 b3 hb3, .sn .u64 b4 hb4]] (st0 [] E)).val.bind (nats .u64) = some (mulG oA a0 a1 a2 a3 a4 b0 b1 b2 b3 b4) := by kernel_rfl
theorem mul_any (a0 : Nat) (ha0 : a0 < um .u64) (a1 : Nat) (ha1 : a1 < um .u64) (a2 : Nat) (ha2 : a2 < um .u64) (a3 : Nat) (ha3 : a3 < um .u64) (a4 : Nat) (ha4 : a4 < um .u64) (b0 : Nat) (hb0 : b0 < um .u64) (b1 : Nat) (hb1 : b1 < um .u64) (b2 : Nat) (hb2 : b2 < um .u64) (b3 : Nat) (hb3 : b3 < um .u64) (b4 : Nat) (hb4 : b4 < um .u64) (W : World) : Calls Tryz.prog 309 #[.agg #[.int .u64 a0, .int .u64 a1, .int .u64 a2, .int .u64 a3, .int .u64 a4], .agg #[.int .u64 b0, .int .u64 b1, .int .u64 b2, .int .u64 b3, .int .u64 b4]] W fun e W' => e = .returned (.agg ((mulF a0 a1 a2 a3 a4 b0 b1 b2 b3 b4).map fun (n : Nat) => Value.int .u64 n).toArray) ∧ OnlyB W W' (fun _ => False) := by
  rw [← mul_eq]
  rw [← mulG_eq, ← oA_eq]
  exact nat_calls (E := fun _ => 0) okt callsOK mixed wadd_good dhC_good (args := [.agg [.sn .u64 a0 ha0, .sn .u64 a1 ha1, .sn .u64 a2 ha2, .sn .u64 a3 ha3, .sn .u64 a4 ha4], .agg [.sn .u64 b0 hb0, .sn .u64 b1 hb1, .sn .u64 b2 hb2, .sn .u64 b3 hb3, .sn .u64 b4 hb4]]) (us := [.agg #[.int .u64 a0, .int .u64 a1, .int .u64 a2, .int .u64 a3, .int .u64 a4], .agg #[.int .u64 b0, .int .u64 b1, .int .u64 b2, .int .u64 b3, .int .u64 b4]]) (fun σ => rfl) (by kernel_rfl) (by kernel_rfl) (fun _ _ h => by cases h) (mul_run a0 ha0 a1 ha1 a2 ha2 a3 ha3 a4 ha4 b0 hb0 b1 hb1 b2 hb2 b3 hb3 b4 hb4 _)
abbrev N64 := { n : Nat // n < um .u64 }
structure L5 where
  a0 : N64
  a1 : N64
  a2 : N64
  a3 : N64
  a4 : N64
def L5.list (x : L5) : List Nat := [x.a0.1, x.a1.1, x.a2.1, x.a3.1, x.a4.1]
def L5.val (x : L5) : Value := .agg #[.int .u64 x.a0.1, .int .u64 x.a1.1, .int .u64 x.a2.1, .int .u64 x.a3.1, .int .u64 x.a4.1]
noncomputable def L5.avs (s : Bool) (x : L5) : List AV := [limb s .u64 x.a0.1 x.a0.2, limb s .u64 x.a1.1 x.a1.2, limb s .u64 x.a2.1 x.a2.2, limb s .u64 x.a3.1 x.a3.2, limb s .u64 x.a4.1 x.a4.2]
theorem L5.avs_den {σ : Env} (s : Bool) (x : L5) : denL σ (x.avs s) = some [.int .u64 x.a0.1, .int .u64 x.a1.1, .int .u64 x.a2.1, .int .u64 x.a3.1, .int .u64 x.a4.1] := by simp only [L5.avs, denL, limb_den]
theorem L5.val_eq (x : L5) : x.val = .agg (x.list.map fun (n : Nat) => Value.int .u64 n).toArray := rfl
def andM (n : Nat) : N64 := ⟨Nat.land n 2251799813685247, Nat.lt_of_le_of_lt Nat.and_le_right (by decide)⟩
def modW (n : Nat) : N64 := ⟨Nat.mod n 18446744073709551616, Nat.mod_lt _ (by decide)⟩
def settleS (a0 a1 a2 a3 a4 : Nat) : L5 :=
  let s0 := Nat.mod (Nat.add a0 (Nat.mod (Nat.mul 19 (Nat.div a4 2251799813685248)) 18446744073709551616)) 18446744073709551616
  let s1 := Nat.mod (Nat.add a1 (Nat.div s0 2251799813685248)) 18446744073709551616
  let s2 := Nat.mod (Nat.add a2 (Nat.div s1 2251799813685248)) 18446744073709551616
  let s3 := Nat.mod (Nat.add a3 (Nat.div s2 2251799813685248)) 18446744073709551616
  ⟨andM s0, andM s1, andM s2, andM s3, modW (Nat.add (Nat.land a4 2251799813685247) (Nat.div s3 2251799813685248))⟩
def addS (a b : L5) : L5 := settleS (plusW a.a0.1 b.a0.1) (plusW a.a1.1 b.a1.1) (plusW a.a2.1 b.a2.1) (plusW a.a3.1 b.a3.1) (plusW a.a4.1 b.a4.1)
def lessS (a b : L5) : L5 := settleS (lessW a.a0.1 9007199254740916 b.a0.1) (lessW a.a1.1 9007199254740988 b.a1.1) (lessW a.a2.1 9007199254740988 b.a2.1) (lessW a.a3.1 9007199254740988 b.a3.1) (lessW a.a4.1 9007199254740988 b.a4.1)
def settleT (x : L5) : L5 := settleS x.a0.1 x.a1.1 x.a2.1 x.a3.1 x.a4.1
def subS (a b : L5) : L5 := settleT (lessS a (settleT b))
def carryS (s0 s1 s2 s3 s4 : Nat) : L5 :=
  let q1 := Nat.add s1 (high1 s0)
  let q2 := Nat.add s2 (high1 q1)
  let q3 := Nat.add s3 (high1 q2)
  let q4 := Nat.add s4 (high1 q3)
  let o0 := plusW (low1 s0) (t19 (high1 q4))
  ⟨andM o0, modW (Nat.add (low1 q1) (Nat.div o0 2251799813685248)), andM (Nat.mod q2 18446744073709551616), andM (Nat.mod q3 18446744073709551616), andM (Nat.mod q4 18446744073709551616)⟩
def mulS (a b : L5) : L5 := carryS (Nat.add (Nat.add (Nat.add (Nat.add (Nat.mul a.a0.1 b.a0.1) (Nat.mul (t19 a.a1.1) b.a4.1)) (Nat.mul (t19 a.a2.1) b.a3.1)) (Nat.mul (t19 a.a3.1) b.a2.1)) (Nat.mul (t19 a.a4.1) b.a1.1)) (Nat.add (Nat.add (Nat.add (Nat.add (Nat.mul a.a0.1 b.a1.1) (Nat.mul a.a1.1 b.a0.1)) (Nat.mul (t19 a.a2.1) b.a4.1)) (Nat.mul (t19 a.a3.1) b.a3.1)) (Nat.mul (t19 a.a4.1) b.a2.1)) (Nat.add (Nat.add (Nat.add (Nat.add (Nat.mul a.a0.1 b.a2.1) (Nat.mul a.a1.1 b.a1.1)) (Nat.mul a.a2.1 b.a0.1)) (Nat.mul (t19 a.a3.1) b.a4.1)) (Nat.mul (t19 a.a4.1) b.a3.1)) (Nat.add (Nat.add (Nat.add (Nat.add (Nat.mul a.a0.1 b.a3.1) (Nat.mul a.a1.1 b.a2.1)) (Nat.mul a.a2.1 b.a1.1)) (Nat.mul a.a3.1 b.a0.1)) (Nat.mul (t19 a.a4.1) b.a4.1)) (Nat.add (Nat.add (Nat.add (Nat.add (Nat.mul a.a0.1 b.a4.1) (Nat.mul a.a1.1 b.a3.1)) (Nat.mul a.a2.1 b.a2.1)) (Nat.mul a.a3.1 b.a1.1)) (Nat.mul a.a4.1 b.a0.1))
theorem add_list (a b : L5) : (addS a b).list = addF a.a0.1 a.a1.1 a.a2.1 a.a3.1 a.a4.1 b.a0.1 b.a1.1 b.a2.1 b.a3.1 b.a4.1 := rfl
theorem sub_list (a b : L5) : (subS a b).list = subF a.a0.1 a.a1.1 a.a2.1 a.a3.1 a.a4.1 b.a0.1 b.a1.1 b.a2.1 b.a3.1 b.a4.1 := rfl
theorem mul_list (a b : L5) : (mulS a b).list = mulF a.a0.1 a.a1.1 a.a2.1 a.a3.1 a.a4.1 b.a0.1 b.a1.1 b.a2.1 b.a3.1 b.a4.1 := rfl
structure Five where
  s : Bool
  p : L5
def isSn : AV → Bool
  | .sn .. => true
  | _ => false
noncomputable def fiveL : List AV → Option Five
  | [x0, x1, x2, x3, x4] => match symN .u64 x0, symN .u64 x1, symN .u64 x2, symN .u64 x3, symN .u64 x4 with
    | some a0, some a1, some a2, some a3, some a4 => some ⟨isSn x0 || isSn x1 || isSn x2 || isSn x3 || isSn x4, a0, a1, a2, a3, a4⟩
    | _, _, _, _, _ => none
  | _ => none
noncomputable def fiveOf : AV → Option Five
  | .agg l => fiveL l
  | _ => none
theorem fiveL_den {σ : Env} {l : List AV} {x : Five} (h : fiveL l = some x) {us : List Value} (hd : denL σ l = some us) : us = [.int .u64 x.p.a0.1, .int .u64 x.p.a1.1, .int .u64 x.p.a2.1, .int .u64 x.p.a3.1, .int .u64 x.p.a4.1] := by
  unfold fiveL at h
  split at h
  · rename_i x0 x1 x2 x3 x4
    split at h
    · rename_i a0 a1 a2 a3 a4 q0 q1 q2 q3 q4
      obtain rfl := Option.some.inj h
      obtain ⟨u0, l0, rfl, h0, hl⟩ := denL_cons hd
      obtain ⟨u1, l1, rfl, h1, hl⟩ := denL_cons hl
      obtain ⟨u2, l2, rfl, h2, hl⟩ := denL_cons hl
      obtain ⟨u3, l3, rfl, h3, hl⟩ := denL_cons hl
      obtain ⟨u4, l4, rfl, h4, hl⟩ := denL_cons hl
      obtain rfl := denL_nil hl
      rw [symN_ok q0 h0, symN_ok q1 h1, symN_ok q2 h2, symN_ok q3 h3, symN_ok q4 h4]
      rfl
    · cases h
  · cases h
theorem five_den {σ : Env} {v : AV} {x : Five} (h : fiveOf v = some x) {u : Value} (hd : den σ v = some u) : u = x.p.val := by
  unfold fiveOf at h
  split at h
  · rename_i l
    simp only [den] at hd
    split at hd
    · rename_i us hl
      obtain rfl := Option.some.inj hd
      rw [fiveL_den h hl]
      rfl
    · cases hd
  · cases h
noncomputable def gF (f : L5 → L5 → L5) : List AV → Option AV
  | [x, y] => match fiveOf x, fiveOf y with
    | some a, some b => some (.agg ((f a.p b.p).avs (a.s || b.s)))
    | _, _ => none
  | _ => none
theorem gF_good {f : Nat} (hf : ∃ fn c, nthL Tryz.prog.funcs.toList f = some fn ∧ fn.body = some c) {F : L5 → L5 → L5}
    (h : ∀ (a b : L5) (W : World), Calls Tryz.prog f #[a.val, b.val] W fun e W' => e = .returned (F a b).val ∧ OnlyB W W' (fun _ => False)) : HkGood Tryz.prog (pureHook f (gF F)) := by
  refine fHook_good hf fun args v σ us w hg hd => ?_
  unfold gF at hg
  split at hg
  · rename_i x y
    split at hg
    · rename_i a b ha hb
      obtain rfl := Option.some.inj hg
      obtain ⟨u, l1, rfl, hx, hd⟩ := denL_cons hd
      obtain ⟨u', l2, rfl, hy, hd⟩ := denL_cons hd
      obtain rfl := denL_nil hd
      obtain rfl := five_den ha hx
      obtain rfl := five_den hb hy
      exact ⟨_, by simp only [den, L5.avs_den]; rfl, h a.p b.p w⟩
    · cases hg
  · cases hg
theorem add_fn : fnOf Tryz.prog 363 = some (ntOf Tryz.prog 363, bodyOf Tryz.prog 363, resultsOf Tryz.prog 363) := by kernel_rfl
theorem add_good : HkGood Tryz.prog (pureHook 363 (gF addS)) := by
  obtain ⟨fn, h1, _, h3, _⟩ := fnOf_ok add_fn
  refine gF_good ⟨fn, _, h1, h3⟩ fun a b W => ?_
  rw [L5.val_eq (addS a b), add_list]
  exact add_any _ a.a0.2 _ a.a1.2 _ a.a2.2 _ a.a3.2 _ a.a4.2 _ b.a0.2 _ b.a1.2 _ b.a2.2 _ b.a3.2 _ b.a4.2 W
theorem sub_fn : fnOf Tryz.prog 362 = some (ntOf Tryz.prog 362, bodyOf Tryz.prog 362, resultsOf Tryz.prog 362) := by kernel_rfl
theorem sub_good : HkGood Tryz.prog (pureHook 362 (gF subS)) := by
  obtain ⟨fn, h1, _, h3, _⟩ := fnOf_ok sub_fn
  refine gF_good ⟨fn, _, h1, h3⟩ fun a b W => ?_
  rw [L5.val_eq (subS a b), sub_list]
  exact sub_any _ a.a0.2 _ a.a1.2 _ a.a2.2 _ a.a3.2 _ a.a4.2 _ b.a0.2 _ b.a1.2 _ b.a2.2 _ b.a3.2 _ b.a4.2 W
theorem mul_fn : fnOf Tryz.prog 309 = some (ntOf Tryz.prog 309, bodyOf Tryz.prog 309, resultsOf Tryz.prog 309) := by kernel_rfl
theorem mul_good : HkGood Tryz.prog (pureHook 309 (gF mulS)) := by
  obtain ⟨fn, h1, _, h3, _⟩ := fnOf_ok mul_fn
  refine gF_good ⟨fn, _, h1, h3⟩ fun a b W => ?_
  rw [L5.val_eq (mulS a b), mul_list]
  exact mul_any _ a.a0.2 _ a.a1.2 _ a.a2.2 _ a.a3.2 _ a.a4.2 _ b.a0.2 _ b.a1.2 _ b.a2.2 _ b.a3.2 _ b.a4.2 W
noncomputable def hF : Hk := hor (pureHook 309 (gF mulS)) (hor (pureHook 363 (gF addS)) (pureHook 362 (gF subS)))
theorem hF_good : HkGood Tryz.prog hF := HkGood.or mul_good (HkGood.or add_good sub_good)
end Go.Proofs.YtfkbookaceckhaaGreatDoor
open Go Go.Sx Go.Proofs Go.RowKit
set_option linter.all false
namespace Go.Proofs.YtfkbookaceckhaaGreatDoor
set_option maxRecDepth 1000000
def num5 (n : Nat) (h : n < um .u64) : L5 := ⟨⟨n, h⟩, ⟨0, by decide⟩, ⟨0, by decide⟩, ⟨0, by decide⟩, ⟨0, by decide⟩⟩
def sqS (a : L5) : L5 := mulS a a
def dblS (a : L5) : L5 := addS a a
def stepE (ss e : L5) : L5 := mulS e (addS ss (mulS (num5 121665 (by decide)) e))
def stepX (a b c d : L5) : L5 := sqS (addS (mulS (subS c d) (addS a b)) (mulS (addS c d) (subS a b)))
def stepZ (u a b c d : L5) : L5 := mulS u (sqS (subS (mulS (subS c d) (addS a b)) (mulS (addS c d) (subS a b))))
def stepA (a b : L5) : L5 := mulS (sqS (addS a b)) (sqS (subS a b))
def stepB (a b : L5) : L5 := stepE (sqS (addS a b)) (subS (sqS (addS a b)) (sqS (subS a b)))
theorem step_run (u a b c d : L5) (E : Nat → Nat) : (xcall Tryz.prog okT hF dhC 1000 20 320 [.agg (u.avs true), .agg (a.avs true), .agg (b.avs true), .agg (c.avs true), .agg (d.avs true)] (st0 [] E)).val =
    some (.tup [.agg ((stepA a b).avs true), .agg ((stepB a b).avs true), .agg ((stepX a b c d).avs true), .agg ((stepZ u a b c d).avs true)]) := by kernel_rfl
theorem step_any (u a b c d : L5) (W : World) : Calls Tryz.prog 320 #[u.val, a.val, b.val, c.val, d.val] W fun e W' => e = .returned (.tuple #[(stepA a b).val, (stepB a b).val, (stepX a b c d).val, (stepZ u a b c d).val]) ∧ OnlyB W W' (fun _ => False) :=
  sym_calls (E := fun _ => 0) okt callsOK mixed hF_good dhC_good (args := [.agg (u.avs true), .agg (a.avs true), .agg (b.avs true), .agg (c.avs true), .agg (d.avs true)]) (us := [u.val, a.val, b.val, c.val, d.val]) (fun σ => by simp only [denL, den, L5.avs_den]; rfl) (by kernel_rfl) (by kernel_rfl) (fun _ _ h => by cases h) (step_run u a b c d _)
    (fun σ => by simp only [denL, den, L5.avs_den]; rfl)
structure P4 where
  x : L5
  y : L5
  z : L5
  t : L5
noncomputable def P4.avs (s : Bool) (p : P4) : List AV := p.x.avs s ++ (p.y.avs s ++ (p.z.avs s ++ p.t.avs s))
def P4.val (p : P4) : Value := .agg (p.x.val.cells.toList ++ (p.y.val.cells.toList ++ (p.z.val.cells.toList ++ p.t.val.cells.toList))).toArray
theorem P4.avs_den {σ : Env} (s : Bool) (p : P4) : den σ (.agg (p.avs s)) = some p.val := by
  simp only [den, P4.avs]
  rw [denL_append (p.x.avs_den s) (denL_append (p.y.avs_den s) (denL_append (p.z.avs_den s) (p.t.avs_den s)))]
  rfl
def ptA (p q : P4) : L5 := mulS (subS p.y p.x) (subS q.y q.x)
def ptB (p q : P4) : L5 := mulS (addS p.y p.x) (addS q.y q.x)
def ptC (p q : P4) (d : L5) : L5 := mulS (mulS p.t d) q.t
def ptZ (p q : P4) : L5 := dblS (mulS p.z q.z)
def sumS (p q : P4) (d : L5) : P4 :=
  ⟨mulS (subS (ptB p q) (ptA p q)) (subS (ptZ p q) (ptC p q d)), mulS (addS (ptZ p q) (ptC p q d)) (addS (ptB p q) (ptA p q)), mulS (subS (ptZ p q) (ptC p q d)) (addS (ptZ p q) (ptC p q d)), mulS (subS (ptB p q) (ptA p q)) (addS (ptB p q) (ptA p q))⟩
theorem sum_run (p q : P4) (d : L5) (E : Nat → Nat) : (xcall Tryz.prog okT hF dhC 1000 20 314 [.agg (p.avs true), .agg (q.avs true), .agg (d.avs true)] (st0 [] E)).val = some (.agg ((sumS p q d).avs true)) := by kernel_rfl
theorem sum_any (p q : P4) (d : L5) (W : World) : Calls Tryz.prog 314 #[p.val, q.val, d.val] W fun e W' => e = .returned (sumS p q d).val ∧ OnlyB W W' (fun _ => False) :=
  sym_calls (E := fun _ => 0) okt callsOK mixed hF_good dhC_good (args := [.agg (p.avs true), .agg (q.avs true), .agg (d.avs true)]) (us := [p.val, q.val, d.val]) (fun σ => by
      have h1 := p.avs_den (σ := σ) true
      have h2 := q.avs_den (σ := σ) true
      have h3 : den σ (.agg (d.avs true)) = some d.val := by simp only [den, L5.avs_den]; rfl
      simp only [denL, h1, h2, h3]) (by kernel_rfl) (by kernel_rfl) (fun _ _ h => by cases h) (sum_run p q d _) (fun σ => P4.avs_den true _)
noncomputable def gStep : List AV → Option AV
  | [x, y, z, v, w] => match fiveOf x, fiveOf y, fiveOf z, fiveOf v, fiveOf w with
    | some u, some a, some b, some c, some d => let s := u.s || (a.s || (b.s || (c.s || d.s)))
      some (.tup [.agg ((stepA a.p b.p).avs s), .agg ((stepB a.p b.p).avs s), .agg ((stepX a.p b.p c.p d.p).avs s), .agg ((stepZ u.p a.p b.p c.p d.p).avs s)])
    | _, _, _, _, _ => none
  | _ => none
theorem step_fn : fnOf Tryz.prog 320 = some (ntOf Tryz.prog 320, bodyOf Tryz.prog 320, resultsOf Tryz.prog 320) := by kernel_rfl
theorem step_good : HkGood Tryz.prog (pureHook 320 gStep) := by
  obtain ⟨fn, h1, _, h3, _⟩ := fnOf_ok step_fn
  refine fHook_good ⟨fn, _, h1, h3⟩ fun args v σ us w hg hd => ?_
  unfold gStep at hg
  split at hg
  · split at hg
    · rename_i u a b c d q1 q2 q3 q4 q5
      obtain rfl := Option.some.inj hg
      obtain ⟨u1, l1, rfl, k1, hd⟩ := denL_cons hd
      obtain ⟨u2, l2, rfl, k2, hd⟩ := denL_cons hd
      obtain ⟨u3, l3, rfl, k3, hd⟩ := denL_cons hd
      obtain ⟨u4, l4, rfl, k4, hd⟩ := denL_cons hd
      obtain ⟨u5, l5, rfl, k5, hd⟩ := denL_cons hd
      obtain rfl := denL_nil hd
      obtain rfl := five_den q1 k1
      obtain rfl := five_den q2 k2
      obtain rfl := five_den q3 k3
      obtain rfl := five_den q4 k4
      obtain rfl := five_den q5 k5
      exact ⟨_, by simp only [denL, den, L5.avs_den]; rfl, step_any u.p a.p b.p c.p d.p w⟩
    · cases hg
  · cases hg
noncomputable def pt4 : AV → Option (Bool × P4)
  | .agg [x0, x1, x2, x3, x4, y0, y1, y2, y3, y4, z0, z1, z2, z3, z4, t0, t1, t2, t3, t4] => match fiveL [x0, x1, x2, x3, x4], fiveL [y0, y1, y2, y3, y4], fiveL [z0, z1, z2, z3, z4], fiveL [t0, t1, t2, t3, t4] with
    | some x, some y, some z, some t => some (x.s || (y.s || (z.s || t.s)), ⟨x.p, y.p, z.p, t.p⟩)
    | _, _, _, _ => none
  | _ => none
theorem pt4_den {σ : Env} {v : AV} {p : Bool × P4} (h : pt4 v = some p) {u : Value} (hd : den σ v = some u) : u = p.2.val := by
  unfold pt4 at h
  split at h
  · rename_i x0 x1 x2 x3 x4 y0 y1 y2 y3 y4 z0 z1 z2 z3 z4 t0 t1 t2 t3 t4
    split at h
    · rename_i x y z t q1 q2 q3 q4
      obtain rfl := Option.some.inj h
      simp only [den] at hd
      split at hd
      · rename_i us hl
        obtain rfl := Option.some.inj hd
        have get : ∀ {a b : List AV} {us : List Value}, denL σ (a ++ b) = some us → ∃ p q, us = p ++ q ∧ denL σ a = some p ∧ denL σ b = some q := by
          intro a
          induction a with
          | nil => intro b us h; exact ⟨[], us, rfl, rfl, h⟩
          | cons v a ih =>
            intro b us h
            obtain ⟨u, us', rfl, h1, h2⟩ := denL_cons h
            obtain ⟨p, q, rfl, k1, k2⟩ := ih h2
            exact ⟨u :: p, q, rfl, by simp only [denL, h1, k1], k2⟩
        obtain ⟨p1, r1, rfl, m1, hl⟩ := get (a := [x0, x1, x2, x3, x4]) (b := [y0, y1, y2, y3, y4] ++ ([z0, z1, z2, z3, z4] ++ [t0, t1, t2, t3, t4])) hl
        obtain ⟨p2, r2, rfl, m2, hl⟩ := get hl
        obtain ⟨p3, p4, rfl, m3, m4⟩ := get hl
        obtain rfl := fiveL_den q1 m1
        obtain rfl := fiveL_den q2 m2
        obtain rfl := fiveL_den q3 m3
        obtain rfl := fiveL_den q4 m4
        rfl
      · cases hd
    · cases h
  · cases h
noncomputable def gSum : List AV → Option AV
  | [x, y, z] => match pt4 x, pt4 y, fiveOf z with
    | some p, some q, some d => some (.agg ((sumS p.2 q.2 d.p).avs (p.1 || (q.1 || d.s))))
    | _, _, _ => none
  | _ => none
theorem sum_fn : fnOf Tryz.prog 314 = some (ntOf Tryz.prog 314, bodyOf Tryz.prog 314, resultsOf Tryz.prog 314) := by kernel_rfl
theorem sum_good : HkGood Tryz.prog (pureHook 314 gSum) := by
  obtain ⟨fn, h1, _, h3, _⟩ := fnOf_ok sum_fn
  refine fHook_good ⟨fn, _, h1, h3⟩ fun args v σ us w hg hd => ?_
  unfold gSum at hg
  split at hg
  · split at hg
    · rename_i p q d q1 q2 q3
      obtain rfl := Option.some.inj hg
      obtain ⟨u1, l1, rfl, k1, hd⟩ := denL_cons hd
      obtain ⟨u2, l2, rfl, k2, hd⟩ := denL_cons hd
      obtain ⟨u3, l3, rfl, k3, hd⟩ := denL_cons hd
      obtain rfl := denL_nil hd
      obtain rfl := pt4_den q1 k1
      obtain rfl := pt4_den q2 k2
      obtain rfl := five_den q3 k3
      exact ⟨_, P4.avs_den _ _, sum_any p.2 q.2 d.p w⟩
    · cases hg
  · cases hg
end Go.Proofs.YtfkbookaceckhaaGreatDoor
open Go Go.Sx Go.Proofs Go.RowKit
set_option linter.all false
namespace Go.Proofs.YtfkbookaceckhaaGreatDoor
set_option maxRecDepth 1000000
theorem lor_lt {k a b : Nat} (ha : a < 2 ^ k) (hb : b < 2 ^ k) : Nat.lor a b < 2 ^ k := Nat.or_lt_two_pow ha hb
def bitG (A : Alg) (f : Nat → Nat) (i : Nat) : Nat := A.shl 18446744073709551616 (A.md (A.and (A.shr (f (Nat.div i 8)) (Nat.mod i 8)) 1) 18446744073709551616) (Nat.mod i 51)
def limbG (A : Alg) (f : Nat → Nat) (k : Nat) : Nat := (List.range 51).foldl (fun acc j => A.or acc (bitG A f (Nat.add (Nat.mul 51 k) j))) 0
def limbR (f : Nat → Nat) (k : Nat) : Nat := limbG nA f k
theorem limbR_lt (f : Nat → Nat) (k : Nat) : limbR f k < um .u64 := by
  have key : ∀ (l : List Nat) (a : Nat), a < 2 ^ 64 → l.foldl (fun acc j => nA.or acc (bitG nA f (Nat.add (Nat.mul 51 k) j))) a < 2 ^ 64 := by
    intro l
    induction l with
    | nil => intro a h; exact h
    | cons x l ih => intro a h; exact ih _ (lor_lt h (Nat.mod_lt _ (by decide)))
  exact key _ 0 (by decide)
def readS (f : Nat → Nat) : L5 := ⟨⟨limbR f 0, limbR_lt f 0⟩, ⟨limbR f 1, limbR_lt f 1⟩, ⟨limbR f 2, limbR_lt f 2⟩, ⟨limbR f 3, limbR_lt f 3⟩, ⟨limbR f 4, limbR_lt f 4⟩⟩
theorem read_run (f : Nat → Nat) (h : ∀ x ∈ (List.range 32).map f, x < 256) (c T : Nat) (E : Nat → Nat) : (xcall Tryz.prog okT hF dhC 1000 20 319 [.slc 200 0 32 (.lit c)] (stT [] E T (snB ((List.range 32).map f) h))).val.bind (nats .u64) = some [limbG oA f 0, limbG oA f 1, limbG oA f 2, limbG oA f 3, limbG oA f 4] := by kernel_rfl
def add32 (A : Alg) (a b : Nat) : Nat := A.add 4294967296 a b
def rot32 (A : Alg) (x s : Nat) : Nat := A.or (A.shl 4294967296 x s) (A.shr x (Nat.sub 32 s))
def not32 (A : Alg) (x : Nat) : Nat := A.xor 4294967295 x
structure W8 where
  a : Nat
  b : Nat
  c : Nat
  d : Nat
  e : Nat
  f : Nat
  g : Nat
  h : Nat
def shaX (A : Alg) (v : W8) (k w : Nat) : Nat :=
  add32 A (add32 A (add32 A (add32 A v.h (A.xor (A.xor (rot32 A v.e 26) (rot32 A v.e 21)) (rot32 A v.e 7))) (A.xor (A.and v.e v.f) (A.and (not32 A v.e) v.g))) k) w
def shaR (A : Alg) (v : W8) (k w : Nat) : W8 :=
  ⟨add32 A (add32 A (shaX A v k w) (A.xor (A.xor (rot32 A v.a 30) (rot32 A v.a 19)) (rot32 A v.a 10))) (A.xor (A.xor (A.and v.a v.b) (A.and v.a v.c)) (A.and v.b v.c)), v.a, v.b, v.c, add32 A v.d (shaX A v k w), v.e, v.f, v.g⟩
noncomputable def nthN (l : List Nat) (i : Nat) : Nat := (nthL l i).getD 0
noncomputable def shaW (A : Alg) (l : List Nat) : Nat :=
  add32 A (add32 A (add32 A (nthN l 0) (A.xor (A.xor (rot32 A (nthN l 1) 25) (rot32 A (nthN l 1) 14)) (A.shr (nthN l 1) 3))) (nthN l 9)) (A.xor (A.xor (rot32 A (nthN l 14) 15) (rot32 A (nthN l 14) 13)) (A.shr (nthN l 14) 10))
def word0 (A : Alg) (f : Nat → Nat) (i : Nat) : Nat :=
  A.or (A.or (A.or (A.shl 4294967296 (A.md (f (Nat.mul 4 i)) 4294967296) 24) (A.shl 4294967296 (A.md (f (Nat.add (Nat.mul 4 i) 1)) 4294967296) 16)) (A.shl 4294967296 (A.md (f (Nat.add (Nat.mul 4 i) 2)) 4294967296) 8)) (A.md (f (Nat.add (Nat.mul 4 i) 3)) 4294967296)
noncomputable def shaGo (A : Alg) : List Nat → List Nat → W8 → W8
  | [], _, v => v
  | k :: ks, [], v => v
  | k :: ks, w :: l, v => shaGo A ks (l ++ [shaW A (w :: l)]) (shaR A v k w)
def shaK : List Nat := [1116352408, 1899447441, 3049323471, 3921009573, 961987163, 1508970993, 2453635748, 2870763221, 3624381080, 310598401, 607225278, 1426881987, 1925078388, 2162078206, 2614888103, 3248222580, 3835390401, 4022224774, 264347078, 604807628, 770255983, 1249150122, 1555081692, 1996064986, 2554220882, 2821834349, 2952996808, 3210313671, 3336571891, 3584528711, 113926993, 338241895, 666307205, 773529912, 1294757372, 1396182291, 1695183700, 1986661051, 2177026350, 2456956037, 2730485921, 2820302411, 3259730800, 3345764771, 3516065817, 3600352804, 4094571909, 275423344, 430227734, 506948616, 659060556, 883997877, 958139571, 1322822218, 1537002063, 1747873779, 1955562222, 2024104815, 2227730452, 2361852424, 2428436474, 2756734187, 3204031479, 3329325298]
noncomputable def shaB (A : Alg) (h : W8) (f : Nat → Nat) : W8 :=
  let v := shaGo A shaK ((List.range 16).map (word0 A f)) h
  ⟨add32 A h.a v.a, add32 A h.b v.b, add32 A h.c v.c, add32 A h.d v.d, add32 A h.e v.e, add32 A h.f v.f, add32 A h.g v.g, add32 A h.h v.h⟩
def W8.list (v : W8) : List Nat := [v.a, v.b, v.c, v.d, v.e, v.f, v.g, v.h]
def roK : List (Nat × Cont) := [(2, Cont.cells (shaK.map fun z => AV.int .u32 (.ofNat z)))]
theorem block_run (v : W8) (ha : v.a < um .u32) (hb : v.b < um .u32) (hc : v.c < um .u32) (hd : v.d < um .u32) (he : v.e < um .u32) (hf : v.f < um .u32) (hg : v.g < um .u32) (hh : v.h < um .u32) (f : Nat → Nat) (h : ∀ x ∈ (List.range 64).map f, x < 256) (c T : Nat) (E : Nat → Nat) :
    (xcall Tryz.prog okT hF dhC 1000 20 353 [.agg [.sn .u32 v.a ha, .sn .u32 v.b hb, .sn .u32 v.c hc, .sn .u32 v.d hd, .sn .u32 v.e he, .sn .u32 v.f hf, .sn .u32 v.g hg, .sn .u32 v.h hh], .slc 200 0 64 (.lit c)] (stT roK E T (snB ((List.range 64).map f) h))).val.bind (nats .u32) = some (shaB oA v f).list := by kernel_rfl
end Go.Proofs.YtfkbookaceckhaaGreatDoor
end

section
set_option linter.all false
open Go Go.Sx Go.Proofs Go.RowKit
set_option linter.all false
namespace Go.Proofs.YtfkbookaceckhaaGreatDoor
set_option maxRecDepth 1000000
def fin5 (A : Alg) (l : List Nat) : List Nat :=
  match l with
  | [a0, a1, a2, a3, a4] =>
    let c0 := A.shr (A.add 18446744073709551616 a0 19) 51
    let c1 := A.shr (A.add 18446744073709551616 a1 c0) 51
    let c2 := A.shr (A.add 18446744073709551616 a2 c1) 51
    let c3 := A.shr (A.add 18446744073709551616 a3 c2) 51
    let c4 := A.shr (A.add 18446744073709551616 a4 c3) 51
    let b0 := A.add 18446744073709551616 a0 (A.mul 18446744073709551616 19 c4)
    let b1 := A.add 18446744073709551616 a1 (A.shr b0 51)
    let b2 := A.add 18446744073709551616 a2 (A.shr b1 51)
    let b3 := A.add 18446744073709551616 a3 (A.shr b2 51)
    let b4 := A.add 18446744073709551616 a4 (A.shr b3 51)
    [A.and b0 2251799813685247, A.and b1 2251799813685247, A.and b2 2251799813685247, A.and b3 2251799813685247, A.and b4 2251799813685247]
  | _ => []
def finG (A : Alg) (x : L5) : List Nat := fin5 A (settle1G A (settle1G A (settleG A x.a0.1 x.a1.1 x.a2.1 x.a3.1 x.a4.1)))
noncomputable def bitB (A : Alg) (l : List Nat) (i : Nat) : Nat := A.shl 256 (A.md (A.and (A.shr (nthN l (Nat.div i 51)) (Nat.mod i 51)) 1) 256) (Nat.mod i 8)
noncomputable def byteB (A : Alg) (l : List Nat) (j n : Nat) : Nat := (List.range n).foldl (fun acc t => A.or acc (bitB A l (Nat.add (Nat.mul 8 j) t))) 0
noncomputable def bytesG (A : Alg) (l : List Nat) : List Nat := (List.range 31).map (fun j => byteB A l j 8) ++ [byteB A l 31 7]
theorem bytes_run (x : L5) (E : Nat → Nat) : rowRes 5 (xcall Tryz.prog okT hF dhC 1000 20 308 [.agg (x.avs true)] (st0 [] E)) = some (bytesG oA (finG oA x)) := by kernel_rfl
theorem bytes_any (x : L5) (W : World) : Calls Tryz.prog 308 #[x.val] W (RowNew W 5 (bytesG nA (finG nA x))) := by
  have h := bytes_run x (fun _ => 0)
  rw [oA_eq] at h
  exact new_calls (E := fun _ => 0) okt callsOK mixed hF_good dhC_good (args := [.agg (x.avs true)]) (us := [x.val]) (fun σ => by simp only [denL, den, L5.avs_den]; rfl) (by kernel_rfl) h
noncomputable def bytesF (x : L5) : List Nat := match finG nA x with
  | [a0, a1, a2, a3, a4] => wo a0 fun a0 => wo a1 fun a1 => wo a2 fun a2 => wo a3 fun a3 => wo a4 fun a4 => bytesG nA [a0, a1, a2, a3, a4]
  | l => bytesG nA l
theorem bytesF_eq (x : L5) : bytesF x = bytesG nA (finG nA x) := by
  unfold bytesF
  split
  · rename_i h
    simp only [wo_eq, h]
  · rfl
noncomputable def gBytes : List AV → Option (List Nat)
  | [x] => match fiveOf x with
    | some a => some (bytesF a.p)
    | none => none
  | _ => none
theorem bytes_fn : fnOf Tryz.prog 308 = some (ntOf Tryz.prog 308, bodyOf Tryz.prog 308, resultsOf Tryz.prog 308) := by kernel_rfl
theorem bytes_good : HkGood Tryz.prog (nbHook 308 5 gBytes) := by
  obtain ⟨fn, h1, _, h3, _⟩ := fnOf_ok bytes_fn
  refine nbHook_good ⟨fn, _, h1, h3⟩ fun args bs σ us w hg hd => ?_
  unfold gBytes at hg
  split at hg
  · split at hg
    · rename_i a ha
      obtain rfl := Option.some.inj hg
      obtain ⟨u, l1, rfl, hx, hd⟩ := denL_cons hd
      obtain rfl := denL_nil hd
      obtain rfl := five_den ha hx
      rw [bytesF_eq]
      exact bytes_any a.p w
    · cases hg
  · cases hg
theorem list_fn (bs : List Nat) (n : Nat) (h : bs.length = n) : bs = (List.range n).map (nthN bs) := by
  apply List.ext_getElem
  · simp [h]
  · intro i h1 h2
    rw [List.getElem_map, List.getElem_range]
    unfold nthN
    rw [nthL_eq, List.getElem?_eq_getElem h1]
    rfl
theorem read_any (bs : List Nat) (hl : bs.length = 32) (hb : ∀ x ∈ bs, x < 256) (b o T c : Nat) (W : World) (hr : RowAt W b o T bs) :
    Calls Tryz.prog 319 #[.slice (some ⟨b, o, none⟩) 32 c] W fun e W' => e = .returned (readS (nthN bs)).val ∧ OnlyB W W' (fun _ => False) := by
  have e := list_fn bs 32 hl
  have hb2 : ∀ x ∈ (List.range 32).map (nthN bs), x < 256 := by rw [← e]; exact hb
  have hr2 : RowAt W b o T ((List.range 32).map (nthN bs)) := by rw [← e]; exact hr
  have := rowN_calls (E := fun _ => 0) (ro := []) okt callsOK mixed hF_good dhC_good (args := [.slc 200 0 32 (.lit c)]) (us := [.slice (some ⟨b, o, none⟩) 32 c]) (b := b) (o := o) (T := T) rfl rfl (by kernel_rfl) (W := W) (fun _ _ h => by cases h) hb2 hr2 (read_run (nthN bs) hb2 c T _)
  rw [oA_eq] at this
  exact this
noncomputable def gRead (args : List AV) (bs : List Nat) : Option AV :=
  match args with
  | [_] => bif Nat.beq (lenL bs) 32 then some (.agg ((readS (nthN bs)).avs false)) else none
  | _ => none
theorem read_fn : fnOf Tryz.prog 319 = some (ntOf Tryz.prog 319, bodyOf Tryz.prog 319, resultsOf Tryz.prog 319) := by kernel_rfl
theorem read_good : HkGood Tryz.prog (rdHook 319 0 [] gRead) := by
  obtain ⟨fn, h1, _, h3, _⟩ := fnOf_ok read_fn
  refine rdHook_good rfl rfl ⟨fn, _, h1, h3⟩ fun args v bs σ us w id off len cp l T E hj hg hd hl hlen hb hr ht => ?_
  unfold gRead at hg
  split at hg
  · cases h32 : Nat.beq (lenL bs) 32 with
    | false => rw [h32] at hg; cases hg
    | true =>
      rw [h32] at hg
      obtain rfl := Option.some.inj hg
      have h32 := nbeq h32
      rw [lenL_eq2] at h32
      obtain ⟨u, l1, rfl, hx, hd⟩ := denL_cons hd
      obtain rfl := denL_nil hd
      obtain rfl := Option.some.inj hj
      simp only [den, hl, Option.map_some, Option.some.injEq] at hx
      subst hx
      have e : len = 32 := by omega
      rw [e]
      exact ⟨_, by simp only [den, L5.avs_den]; rfl, read_any bs h32 hb l.blk (l.base + off) T _ w hr⟩
  · cases hg
noncomputable def shaGoF : List Nat → List Nat → W8 → W8
  | [], _, v => v
  | k :: ks, [], v => v
  | k :: ks, w :: l, v => wo (shaW nA (w :: l)) fun nw => wo (shaX nA v k w) fun x =>
      wo (add32 nA (add32 nA x (nA.xor (nA.xor (rot32 nA v.a 30) (rot32 nA v.a 19)) (rot32 nA v.a 10))) (nA.xor (nA.xor (nA.and v.a v.b) (nA.and v.a v.c)) (nA.and v.b v.c))) fun a => wo (add32 nA v.d x) fun e =>
      shaGoF ks (l ++ [nw]) ⟨a, v.a, v.b, v.c, e, v.e, v.f, v.g⟩
theorem shaGoF_eq : ∀ (ks l : List Nat) (v : W8), shaGoF ks l v = shaGo nA ks l v
  | [], _, v => rfl
  | k :: ks, [], v => rfl
  | k :: ks, w :: l, v => by
    unfold shaGoF shaGo
    simp only [wo_eq]
    rw [shaGoF_eq]
    rfl
noncomputable def shaF (h : W8) (f : Nat → Nat) : List Nat :=
  let v := shaGoF shaK ((List.range 16).map (word0 nA f)) h
  [add32 nA h.a v.a, add32 nA h.b v.b, add32 nA h.c v.c, add32 nA h.d v.d, add32 nA h.e v.e, add32 nA h.f v.f, add32 nA h.g v.g, add32 nA h.h v.h]
theorem shaF_eq (h : W8) (f : Nat → Nat) : shaF h f = (shaB nA h f).list := by
  unfold shaF shaB
  rw [shaGoF_eq]
  generalize shaGo nA shaK (List.map (word0 nA f) (List.range 16)) h = v
  rfl
theorem block_any (v : W8) (ha : v.a < um .u32) (hb : v.b < um .u32) (hc : v.c < um .u32) (hd : v.d < um .u32) (he : v.e < um .u32) (hf : v.f < um .u32) (hg : v.g < um .u32) (hh : v.h < um .u32) (bs : List Nat) (hl : bs.length = 64) (hbs : ∀ x ∈ bs, x < 256) (b o T c : Nat) (E : Nat → Nat) (W : World) (hr : RowAt W b o T bs) (ht : TabsAt Tryz.prog roK W b E) :
    Calls Tryz.prog 353 #[.agg (v.list.map fun (n : Nat) => Value.int .u32 n).toArray, .slice (some ⟨b, o, none⟩) 64 c] W fun e W' => e = .returned (.agg ((shaF v (nthN bs)).map fun (n : Nat) => Value.int .u32 n).toArray) ∧ OnlyB W W' (fun _ => False) := by
  have e := list_fn bs 64 hl
  have hb2 : ∀ x ∈ (List.range 64).map (nthN bs), x < 256 := by rw [← e]; exact hbs
  have hr2 : RowAt W b o T ((List.range 64).map (nthN bs)) := by rw [← e]; exact hr
  have hrun := block_run v ha hb hc hd he hf hg hh (nthN bs) hb2 c T E
  rw [oA_eq, ← shaF_eq v (nthN bs)] at hrun
  generalize shaF v (nthN bs) = r at hrun ⊢
  exact rowN_calls (E := E) (ro := roK) okt callsOK mixed hF_good dhC_good (args := [.agg [.sn .u32 v.a ha, .sn .u32 v.b hb, .sn .u32 v.c hc, .sn .u32 v.d hd, .sn .u32 v.e he, .sn .u32 v.f hf, .sn .u32 v.g hg, .sn .u32 v.h hh], .slc 200 0 64 (.lit c)])
    (us := [.agg (v.list.map fun (n : Nat) => Value.int .u32 n).toArray, .slice (some ⟨b, o, none⟩) 64 c]) (b := b) (o := o) (T := T) rfl (by kernel_rfl) (by kernel_rfl) (W := W) ht hb2 hr2 hrun
noncomputable def back32 : List Nat → List AV
  | [] => []
  | n :: l => forceI .u32 (.ofNat n) :: back32 l
theorem back32_den {σ : Env} : ∀ (l : List Nat), denL σ (back32 l) = some (l.map fun (n : Nat) => Value.int .u32 n)
  | [] => rfl
  | n :: l => by
    simp only [back32, denL, forceI_eq, den, back32_den l, List.map_cons]
    rfl
noncomputable def gBlockG (F : W8 → (Nat → Nat) → List Nat) (args : List AV) (bs : List Nat) : Option AV :=
  match args with
  | [.agg [a, b, c, d, e, f, g, h], _] => match symN .u32 a, symN .u32 b, symN .u32 c, symN .u32 d, symN .u32 e, symN .u32 f, symN .u32 g, symN .u32 h with
    | some a, some b, some c, some d, some e, some f, some g, some h => bif Nat.beq (lenL bs) 64 then some (.agg (back32 (F ⟨a.1, b.1, c.1, d.1, e.1, f.1, g.1, h.1⟩ (nthN bs)))) else none
    | _, _, _, _, _, _, _, _ => none
  | _ => none
theorem block_fn : fnOf Tryz.prog 353 = some (ntOf Tryz.prog 353, bodyOf Tryz.prog 353, resultsOf Tryz.prog 353) := by kernel_rfl
theorem blockG_good (F : W8 → (Nat → Nat) → List Nat) (hF : ∀ (v : W8) (ha : v.a < um .u32) (hb : v.b < um .u32) (hc : v.c < um .u32) (hd : v.d < um .u32) (he : v.e < um .u32) (hf : v.f < um .u32) (hg : v.g < um .u32) (hh : v.h < um .u32) (bs : List Nat) (hl : bs.length = 64) (hbs : ∀ x ∈ bs, x < 256) (b o T c : Nat) (E : Nat → Nat) (W : World) (hr : RowAt W b o T bs) (ht : TabsAt Tryz.prog roK W b E),
    Calls Tryz.prog 353 #[.agg (v.list.map fun (n : Nat) => Value.int .u32 n).toArray, .slice (some ⟨b, o, none⟩) 64 c] W fun e W' => e = .returned (.agg ((F v (nthN bs)).map fun (n : Nat) => Value.int .u32 n).toArray) ∧ OnlyB W W' (fun _ => False)) : HkGood Tryz.prog (rdHook 353 1 roK (gBlockG F)) := by
  obtain ⟨fn, h1, _, h3, _⟩ := fnOf_ok block_fn
  refine rdHook_good (by kernel_rfl) (by kernel_rfl) ⟨fn, _, h1, h3⟩ fun args v bs σ us w id off len cp l T E hj hg hd hl hlen hb hr ht => ?_
  unfold gBlockG at hg
  split at hg
  · rename_i x0 x1 x2 x3 x4 x5 x6 x7 y
    split at hg
    · rename_i a0 a1 a2 a3 a4 a5 a6 a7 q0 q1 q2 q3 q4 q5 q6 q7
      cases h64 : Nat.beq (lenL bs) 64 with
      | false => rw [h64] at hg; cases hg
      | true =>
        rw [h64] at hg
        obtain rfl := Option.some.inj hg
        have h64 := nbeq h64
        rw [lenL_eq2] at h64
        obtain ⟨u, l1, rfl, hx, hd⟩ := denL_cons hd
        obtain ⟨u', l2, rfl, hy, hd⟩ := denL_cons hd
        obtain rfl := denL_nil hd
        obtain rfl := Option.some.inj hj
        simp only [den] at hx
        split at hx
        · rename_i us hus
          obtain rfl := Option.some.inj hx
          obtain ⟨z0, l0, rfl, k0, hus⟩ := denL_cons hus
          obtain ⟨z1, l1, rfl, k1, hus⟩ := denL_cons hus
          obtain ⟨z2, l2, rfl, k2, hus⟩ := denL_cons hus
          obtain ⟨z3, l3, rfl, k3, hus⟩ := denL_cons hus
          obtain ⟨z4, l4, rfl, k4, hus⟩ := denL_cons hus
          obtain ⟨z5, l5, rfl, k5, hus⟩ := denL_cons hus
          obtain ⟨z6, l6, rfl, k6, hus⟩ := denL_cons hus
          obtain ⟨z7, l7, rfl, k7, hus⟩ := denL_cons hus
          obtain rfl := denL_nil hus
          obtain rfl := symN_ok q0 k0
          obtain rfl := symN_ok q1 k1
          obtain rfl := symN_ok q2 k2
          obtain rfl := symN_ok q3 k3
          obtain rfl := symN_ok q4 k4
          obtain rfl := symN_ok q5 k5
          obtain rfl := symN_ok q6 k6
          obtain rfl := symN_ok q7 k7
          simp only [den, hl, Option.map_some, Option.some.injEq] at hy
          subst hy
          have e : len = 64 := by omega
          rw [e]
          exact ⟨_, by simp only [den, back32_den], hF ⟨a0.1, a1.1, a2.1, a3.1, a4.1, a5.1, a6.1, a7.1⟩ a0.2 a1.2 a2.2 a3.2 a4.2 a5.2 a6.2 a7.2 bs h64 hb l.blk (l.base + off) T _ E w hr ht⟩
        · cases hx
    · cases hg
  · cases hg
noncomputable def gBlock : List AV → List Nat → Option AV := gBlockG shaF
theorem block_good : HkGood Tryz.prog (rdHook 353 1 roK gBlock) := blockG_good shaF block_any
noncomputable def hC1 : Hk := hor hF (hor (pureHook 320 gStep) (hor (pureHook 314 gSum) (hor (rdHook 319 0 [] gRead) (hor (nbHook 308 5 gBytes) (rdHook 353 1 roK gBlock)))))
theorem hC1_good : HkGood Tryz.prog hC1 := HkGood.or hF_good (HkGood.or step_good (HkGood.or sum_good (HkGood.or read_good (HkGood.or bytes_good block_good))))
end Go.Proofs.YtfkbookaceckhaaGreatDoor
open Go Go.Sx Go.Proofs Go.RowKit
set_option linter.all false
namespace Go.Proofs.YtfkbookaceckhaaGreatDoor
set_option maxRecDepth 1000000
def bitAt (n i : Nat) : Bool := Nat.beq (Nat.mod (Nat.div n (Nat.pow 2 i)) 2) 1
def powStep (a : L5) (o : L5) (b : Bool) : L5 := match b with
  | true => mulS (sqS o) a
  | false => sqS o
def powS (n : Nat) (a : L5) : L5 := (List.range 256).foldl (fun o i => powStep a o (bitAt n (Nat.sub 255 i))) (num5 1 (by decide))
def e1 : Nat := 57896044618658097711785492504343953926634992332820282019728792003956564819947
def e2 : Nat := 7237005577332262213973186563042994240829374041602535252466099000494570602494
def e3 : Nat := 14474011154664524427946373126085988481658748083205070504932198000989141204987
def expA (n : Nat) : AV := .agg ((List.range 32).map fun j => .int .u8 (.ofNat (Nat.mod (Nat.div n (Nat.pow 256 j)) 256)))
theorem pow1_run (a : L5) (E : Nat → Nat) : (xcall Tryz.prog okT hC1 dhC 1000 20 355 [.agg (a.avs true), expA e1] (st0 [] E)).val = some (.agg ((powS e1 a).avs true)) := by kernel_rfl
theorem pow2_run (a : L5) (E : Nat → Nat) : (xcall Tryz.prog okT hC1 dhC 1000 20 355 [.agg (a.avs true), expA e2] (st0 [] E)).val = some (.agg ((powS e2 a).avs true)) := by kernel_rfl
theorem pow3_run (a : L5) (E : Nat → Nat) : (xcall Tryz.prog okT hC1 dhC 1000 20 355 [.agg (a.avs true), expA e3] (st0 [] E)).val = some (.agg ((powS e3 a).avs true)) := by kernel_rfl
structure R5 where
  a0 : Nat
  a1 : Nat
  a2 : Nat
  a3 : Nat
  a4 : Nat
def L5.raw (x : L5) : R5 := ⟨x.a0.1, x.a1.1, x.a2.1, x.a3.1, x.a4.1⟩
def carryR (s0 s1 s2 s3 s4 : Nat) : R5 :=
  let q1 := Nat.add s1 (high1 s0)
  let q2 := Nat.add s2 (high1 q1)
  let q3 := Nat.add s3 (high1 q2)
  let q4 := Nat.add s4 (high1 q3)
  let o0 := plusW (low1 s0) (t19 (high1 q4))
  ⟨Nat.land o0 2251799813685247, plusW (low1 q1) (Nat.div o0 2251799813685248), low1 q2, low1 q3, low1 q4⟩
def mulR (a b : R5) : R5 := carryR (Nat.add (Nat.add (Nat.add (Nat.add (Nat.mul a.a0 b.a0) (Nat.mul (t19 a.a1) b.a4)) (Nat.mul (t19 a.a2) b.a3)) (Nat.mul (t19 a.a3) b.a2)) (Nat.mul (t19 a.a4) b.a1)) (Nat.add (Nat.add (Nat.add (Nat.add (Nat.mul a.a0 b.a1) (Nat.mul a.a1 b.a0)) (Nat.mul (t19 a.a2) b.a4)) (Nat.mul (t19 a.a3) b.a3)) (Nat.mul (t19 a.a4) b.a2)) (Nat.add (Nat.add (Nat.add (Nat.add (Nat.mul a.a0 b.a2) (Nat.mul a.a1 b.a1)) (Nat.mul a.a2 b.a0)) (Nat.mul (t19 a.a3) b.a4)) (Nat.mul (t19 a.a4) b.a3)) (Nat.add (Nat.add (Nat.add (Nat.add (Nat.mul a.a0 b.a3) (Nat.mul a.a1 b.a2)) (Nat.mul a.a2 b.a1)) (Nat.mul a.a3 b.a0)) (Nat.mul (t19 a.a4) b.a4)) (Nat.add (Nat.add (Nat.add (Nat.add (Nat.mul a.a0 b.a4) (Nat.mul a.a1 b.a3)) (Nat.mul a.a2 b.a2)) (Nat.mul a.a3 b.a1)) (Nat.mul a.a4 b.a0))
noncomputable def woR {α : Type} (x : R5) (k : R5 → α) : α := wo x.a0 fun a0 => wo x.a1 fun a1 => wo x.a2 fun a2 => wo x.a3 fun a3 => wo x.a4 fun a4 => k ⟨a0, a1, a2, a3, a4⟩
theorem woR_eq {α : Type} (x : R5) (k : R5 → α) : woR x k = k x := by simp only [woR, wo_eq]
noncomputable def powGo (n : Nat) (a : R5) : List Nat → R5 → R5
  | [], o => o
  | i :: l, o => woR (mulR o o) fun q => match bitAt n (Nat.sub 255 i) with
    | true => woR (mulR q a) fun r => powGo n a l r
    | false => powGo n a l q
theorem powGo_eq (n : Nat) (a : L5) : ∀ (l : List Nat) (o : L5), powGo n a.raw l o.raw = (l.foldl (fun o i => powStep a o (bitAt n (Nat.sub 255 i))) o).raw
  | [], o => rfl
  | i :: l, o => by
    rw [List.foldl_cons, ← powGo_eq n a l]
    show (woR (mulR o.raw o.raw) fun q => match bitAt n (Nat.sub 255 i) with
      | true => woR (mulR q a.raw) fun r => powGo n a.raw l r
      | false => powGo n a.raw l q) = _
    simp only [woR_eq]
    unfold powStep
    cases bitAt n (Nat.sub 255 i)
    · rfl
    · rfl
noncomputable def powF (n : Nat) (a : R5) : R5 := powGo n a (List.range 256) ⟨1, 0, 0, 0, 0⟩
theorem powF_eq (n : Nat) (a : L5) : powF n a.raw = (powS n a).raw := powGo_eq n a (List.range 256) (num5 1 (by decide))
noncomputable def R5.avs (x : R5) : List AV := [forceI .u64 (.ofNat x.a0), forceI .u64 (.ofNat x.a1), forceI .u64 (.ofNat x.a2), forceI .u64 (.ofNat x.a3), forceI .u64 (.ofNat x.a4)]
def R5.val (x : R5) : Value := .agg #[.int .u64 x.a0, .int .u64 x.a1, .int .u64 x.a2, .int .u64 x.a3, .int .u64 x.a4]
theorem R5.avs_den {σ : Env} (x : R5) : den σ (.agg x.avs) = some x.val := by
  simp only [den, R5.avs, denL, forceI_eq]
  rfl
def whichE (e : AV) : Option Nat := bif AV.beq e (expA e1) then some e1 else bif AV.beq e (expA e2) then some e2 else bif AV.beq e (expA e3) then some e3 else none
noncomputable def gPow : List AV → Option AV
  | [x, e] => match fiveOf x, whichE e with
    | some a, some n => (match a.s with
      | true => some (.agg ((powS n a.p).avs true))
      | false => some (.agg (powF n a.p.raw).avs))
    | _, _ => none
  | _ => none
def expV (n : Nat) : Value := .agg ((List.range 32).map fun j => Value.int .u8 (.ofNat (Nat.mod (Nat.div n (Nat.pow 256 j)) 256))).toArray
theorem pow_any (n : Nat) (hn : n = e1 ∨ n = e2 ∨ n = e3) (a : L5) (W : World) : Calls Tryz.prog 355 #[a.val, expV n] W fun e W' => e = .returned (powS n a).val ∧ OnlyB W W' (fun _ => False) := by
  have key : ∀ (n : Nat), (∀ σ, den σ (expA n) = some (expV n)) → (xcall Tryz.prog okT hC1 dhC 1000 20 355 [.agg (a.avs true), expA n] (st0 [] (fun _ => 0))).val = some (.agg ((powS n a).avs true)) → Calls Tryz.prog 355 #[a.val, expV n] W fun e W' => e = .returned (powS n a).val ∧ OnlyB W W' (fun _ => False) := fun n hd h =>
    sym_calls (E := fun _ => 0) (ro := []) okt callsOK mixed hC1_good dhC_good (args := [.agg (a.avs true), expA n]) (us := [a.val, expV n]) (fun σ => by
      have h1 : den σ (.agg (a.avs true)) = some a.val := by simp only [den, L5.avs_den]; rfl
      simp only [denL, h1, hd]) (by kernel_rfl) (by kernel_rfl) (fun _ _ h => by cases h) h (fun σ => by simp only [den, L5.avs_den]; rfl)
  rcases hn with rfl | rfl | rfl
  · exact key _ (fun σ => by kernel_rfl) (pow1_run a _)
  · exact key _ (fun σ => by kernel_rfl) (pow2_run a _)
  · exact key _ (fun σ => by kernel_rfl) (pow3_run a _)
theorem whichE_ok {e : AV} {n : Nat} (h : whichE e = some n) : (n = e1 ∨ n = e2 ∨ n = e3) ∧ e = expA n := by
  unfold whichE at h
  cases h1 : AV.beq e (expA e1) with
  | true =>
    rw [h1] at h
    obtain rfl := Option.some.inj h
    exact ⟨Or.inl rfl, AV.beq_eq _ _ h1⟩
  | false =>
    rw [h1] at h
    cases h2 : AV.beq e (expA e2) with
    | true =>
      rw [h2] at h
      obtain rfl := Option.some.inj h
      exact ⟨Or.inr (Or.inl rfl), AV.beq_eq _ _ h2⟩
    | false =>
      rw [h2] at h
      cases h3 : AV.beq e (expA e3) with
      | true =>
        rw [h3] at h
        obtain rfl := Option.some.inj h
        exact ⟨Or.inr (Or.inr rfl), AV.beq_eq _ _ h3⟩
      | false => rw [h3] at h; cases h
theorem expA_den {σ : Env} (n : Nat) : den σ (expA n) = some (expV n) := by
  unfold expA expV
  simp only [den]
  have : ∀ l : List Nat, denL σ (l.map fun j => AV.int .u8 (.ofNat (Nat.mod (Nat.div n (Nat.pow 256 j)) 256))) = some (l.map fun j => Value.int .u8 (.ofNat (Nat.mod (Nat.div n (Nat.pow 256 j)) 256))) := by
    intro l
    induction l with
    | nil => rfl
    | cons x l ih => simp only [List.map_cons, denL, den, ih]
  rw [this]
theorem pow_fn : fnOf Tryz.prog 355 = some (ntOf Tryz.prog 355, bodyOf Tryz.prog 355, resultsOf Tryz.prog 355) := by kernel_rfl
theorem powG_good (S : Nat → L5 → L5) (F : Nat → R5 → R5) (hSF : ∀ n a, F n a.raw = (S n a).raw) (h : ∀ (n : Nat), (n = e1 ∨ n = e2 ∨ n = e3) → ∀ (a : L5) (W : World), Calls Tryz.prog 355 #[a.val, expV n] W fun e W' => e = .returned (S n a).val ∧ OnlyB W W' (fun _ => False)) {args : List AV} {v : AV} {x e : AV} {a : Five} {n : Nat} (ha : fiveOf x = some a) (he : whichE e = some n)
    (hv : v = (match a.s with | true => AV.agg ((S n a.p).avs true) | false => AV.agg (F n a.p.raw).avs)) {σ : Env} {us : List Value} {w : World} (hd : denL σ [x, e] = some us) : ∃ u, den σ v = some u ∧ Calls Tryz.prog 355 us.toArray w fun e w' => e = .returned u ∧ OnlyB w w' (fun _ => False) := by
  obtain ⟨hn, rfl⟩ := whichE_ok he
  obtain ⟨u, l1, rfl, hx, hd⟩ := denL_cons hd
  obtain ⟨u', l2, rfl, hy, hd⟩ := denL_cons hd
  obtain rfl := denL_nil hd
  obtain rfl := five_den ha hx
  rw [expA_den] at hy
  obtain rfl := Option.some.inj hy
  refine ⟨(S n a.p).val, ?_, h n hn a.p w⟩
  subst hv
  cases a.s
  · rw [R5.avs_den, hSF]
    rfl
  · simp only [den, L5.avs_den]
    rfl
theorem pow_good : HkGood Tryz.prog (pureHook 355 gPow) := by
  obtain ⟨fn, h1, _, h3, _⟩ := fnOf_ok pow_fn
  refine fHook_good ⟨fn, _, h1, h3⟩ fun args v σ us w hg hd => ?_
  unfold gPow at hg
  split at hg
  · rename_i x e
    split at hg
    · rename_i a n ha he
      refine powG_good powS powF powF_eq pow_any (args := [x, e]) ha he ?_ hd
      split at hg
      · exact (Option.some.inj hg).symm
      · exact (Option.some.inj hg).symm
    · cases hg
  · cases hg
noncomputable def gNear : List AV → Option AV
  | [.int .i64 (.ofNat a), .int .u16 (.ofNat b)] => bif Nat.beq a 255 && Nat.beq b 21 then some (expA e1) else bif Nat.beq a 252 && Nat.beq b 2 then some (expA e2) else bif Nat.beq a 253 && Nat.beq b 5 then some (expA e3) else none
  | _ => none
theorem near1_run (E : Nat → Nat) : AV.beq (((xcall Tryz.prog okT hC1 dhC 1000 20 356 [.int .i64 (.ofNat 255), .int .u16 (.ofNat 21)] (st0 [] E)).val).getD .nilp) (expA e1) = true := by kernel_rfl
theorem near2_run (E : Nat → Nat) : AV.beq (((xcall Tryz.prog okT hC1 dhC 1000 20 356 [.int .i64 (.ofNat 252), .int .u16 (.ofNat 2)] (st0 [] E)).val).getD .nilp) (expA e2) = true := by kernel_rfl
theorem near3_run (E : Nat → Nat) : AV.beq (((xcall Tryz.prog okT hC1 dhC 1000 20 356 [.int .i64 (.ofNat 253), .int .u16 (.ofNat 5)] (st0 [] E)).val).getD .nilp) (expA e3) = true := by kernel_rfl
theorem val_of {x : Option AV} {v : AV} (h : AV.beq (x.getD .nilp) v = true) (hv : v ≠ .nilp) : x = some v := by
  have := AV.beq_eq _ _ h
  cases x with
  | none => exact absurd this.symm hv
  | some y => exact congrArg some this
theorem near_any (a b n : Nat) (h : (a = 255 ∧ b = 21 ∧ n = e1) ∨ (a = 252 ∧ b = 2 ∧ n = e2) ∨ (a = 253 ∧ b = 5 ∧ n = e3)) (W : World) : Calls Tryz.prog 356 #[.int .i64 (.ofNat a), .int .u16 (.ofNat b)] W fun e W' => e = .returned (expV n) ∧ OnlyB W W' (fun _ => False) := by
  have key : ∀ (a b n : Nat), (xcall Tryz.prog okT hC1 dhC 1000 20 356 [.int .i64 (.ofNat a), .int .u16 (.ofNat b)] (st0 [] (fun _ => 0))).val = some (expA n) → Calls Tryz.prog 356 #[.int .i64 (.ofNat a), .int .u16 (.ofNat b)] W fun e W' => e = .returned (expV n) ∧ OnlyB W W' (fun _ => False) := fun a b n h =>
    sym_calls (E := fun _ => 0) (ro := []) okt callsOK mixed hC1_good dhC_good (args := [.int .i64 (.ofNat a), .int .u16 (.ofNat b)]) (us := [.int .i64 (.ofNat a), .int .u16 (.ofNat b)]) (fun σ => rfl) (by kernel_rfl) (by kernel_rfl) (fun _ _ h => by cases h) h (fun σ => expA_den n)
  rcases h with ⟨rfl, rfl, rfl⟩ | ⟨rfl, rfl, rfl⟩ | ⟨rfl, rfl, rfl⟩
  · exact key _ _ _ (val_of (near1_run _) (by unfold expA; exact fun h => by cases h))
  · exact key _ _ _ (val_of (near2_run _) (by unfold expA; exact fun h => by cases h))
  · exact key _ _ _ (val_of (near3_run _) (by unfold expA; exact fun h => by cases h))
theorem near_fn : fnOf Tryz.prog 356 = some (ntOf Tryz.prog 356, bodyOf Tryz.prog 356, resultsOf Tryz.prog 356) := by kernel_rfl
theorem near_good : HkGood Tryz.prog (pureHook 356 gNear) := by
  obtain ⟨fn, h1, _, h3, _⟩ := fnOf_ok near_fn
  refine fHook_good ⟨fn, _, h1, h3⟩ fun args v σ us w hg hd => ?_
  unfold gNear at hg
  split at hg
  · rename_i a b
    obtain ⟨u, l1, rfl, hx, hd⟩ := denL_cons hd
    obtain ⟨u', l2, rfl, hy, hd⟩ := denL_cons hd
    obtain rfl := denL_nil hd
    obtain rfl := Option.some.inj hx
    obtain rfl := Option.some.inj hy
    have fin : ∀ n, v = expA n → ((a = 255 ∧ b = 21 ∧ n = e1) ∨ (a = 252 ∧ b = 2 ∧ n = e2) ∨ (a = 253 ∧ b = 5 ∧ n = e3)) → ∃ u, den σ v = some u ∧ Calls Tryz.prog 356 #[.int .i64 (.ofNat a), .int .u16 (.ofNat b)] w fun e w' => e = .returned u ∧ OnlyB w w' (fun _ => False) := fun n hv h => by
      subst hv
      exact ⟨_, expA_den n, near_any a b n h w⟩
    cases c1 : (Nat.beq a 255 && Nat.beq b 21) with
    | true =>
      rw [c1] at hg
      have := and3 c1
      exact fin e1 (Option.some.inj hg).symm (Or.inl ⟨nbeq this.1, nbeq this.2, rfl⟩)
    | false =>
      rw [c1] at hg
      cases c2 : (Nat.beq a 252 && Nat.beq b 2) with
      | true =>
        rw [c2] at hg
        have := and3 c2
        exact fin e2 (Option.some.inj hg).symm (Or.inr (Or.inl ⟨nbeq this.1, nbeq this.2, rfl⟩))
      | false =>
        rw [c2] at hg
        cases c3 : (Nat.beq a 253 && Nat.beq b 5) with
        | true =>
          rw [c3] at hg
          have := and3 c3
          exact fin e3 (Option.some.inj hg).symm (Or.inr (Or.inr ⟨nbeq this.1, nbeq this.2, rfl⟩))
        | false => rw [c3] at hg; cases hg
  · cases hg
noncomputable def hC2 : Hk := hor hC1 (hor (pureHook 355 gPow) (pureHook 356 gNear))
theorem hC2_good : HkGood Tryz.prog hC2 := HkGood.or hC1_good (HkGood.or pow_good near_good)
end Go.Proofs.YtfkbookaceckhaaGreatDoor
open Go Go.Sx Go.Proofs Go.RowKit
set_option linter.all false
namespace Go.Proofs.YtfkbookaceckhaaGreatDoor
set_option maxRecDepth 100000
theorem only_drewN (w : World) (n : Nat) : Pw.Only w (w.drewN n) [] := ⟨rfl, rfl, rfl, Nat.le_refl _, fun _ _ _ => rfl⟩
def ltL : List Nat → List Nat → Bool
  | a :: xs, b :: ys => if a = b then ltL xs ys else decide (a < b)
  | _, _ => false
theorem ltL_eq {a b : Nat} {xs ys : List Nat} (h : a = b) : ltL (a :: xs) (b :: ys) = ltL xs ys := by show (if a = b then ltL xs ys else decide (a < b)) = _; rw [if_pos h]
theorem ltL_ne {a b : Nat} {xs ys : List Nat} (h : ¬ a = b) : ltL (a :: xs) (b :: ys) = decide (a < b) := by show (if a = b then ltL xs ys else decide (a < b)) = _; rw [if_neg h]
set_option maxHeartbeats 3200000 in
theorem less_any (a0 a1 a2 a3 a4 a5 a6 a7 b0 b1 b2 b3 b4 b5 b6 b7 : Nat) (w : World) :
    Calls Tryz.prog 317 #[.agg #[.int .u32 a0, .int .u32 a1, .int .u32 a2, .int .u32 a3, .int .u32 a4, .int .u32 a5, .int .u32 a6, .int .u32 a7], .agg #[.int .u32 b0, .int .u32 b1, .int .u32 b2, .int .u32 b3, .int .u32 b4, .int .u32 b5, .int .u32 b6, .int .u32 b7]] w
      fun e w' => e = .returned (.bool (ltL [a7, a6, a5, a4, a3, a2, a1, a0] [b7, b6, b5, b4, b3, b2, b1, b0])) ∧ Pw.Only w w' [] := by
  obtain ⟨R, hR⟩ : ∃ R, R = ltL [a7, a6, a5, a4, a3, a2, a1, a0] [b7, b6, b5, b4, b3, b2, b1, b0] := ⟨_, rfl⟩
  rw [← hR]
  have HR := Lib.hid hR
  clear hR
  go_enter Tryz.func317, Tryz.ntmps317
  go_wp2_with fail
  obtain ⟨W1, X, hW, hX, hb0, hoW1, hX1, hX2⟩ := Pw.new_block w (.cells #[.int .u32 a0, .int .u32 a1, .int .u32 a2, .int .u32 a3, .int .u32 a4, .int .u32 a5, .int .u32 a6, .int .u32 a7] 362)
  have hs1 : W1.heap.size = X + 1 := by rw [hW, hX]; simp
  rw [← hW, ← hX]
  clear hW hX
  obtain ⟨W, Y, hW, hY, hc0, hoW2, hY1, hY2⟩ := Pw.new_block W1 (.cells #[.int .u32 b0, .int .u32 b1, .int .u32 b2, .int .u32 b3, .int .u32 b4, .int .u32 b5, .int .u32 b6, .int .u32 b7] 362)
  rw [← hW, ← hs1, ← hY]
  clear hW hY hs1
  have hb := hoW2.at hb0 (by simp)
  have hoW := hoW1.trans hoW2
  clear hb0 hoW1 hoW2 hX1 hX2 hY1 hY2
  have ca0 : ∀ w', Pw.Only W w' [] → w'.cell? ⟨X, 0, none⟩ = some (.int .u32 a0) := fun w' ho => ho.cell_in hb (by simp) 0
  have cb0 : ∀ w', Pw.Only W w' [] → w'.cell? ⟨Y, 0, none⟩ = some (.int .u32 b0) := fun w' ho => ho.cell_in hc0 (by simp) 0
  have ca1 : ∀ w', Pw.Only W w' [] → w'.cell? ⟨X, 1, none⟩ = some (.int .u32 a1) := fun w' ho => ho.cell_in hb (by simp) 1
  have cb1 : ∀ w', Pw.Only W w' [] → w'.cell? ⟨Y, 1, none⟩ = some (.int .u32 b1) := fun w' ho => ho.cell_in hc0 (by simp) 1
  have ca2 : ∀ w', Pw.Only W w' [] → w'.cell? ⟨X, 2, none⟩ = some (.int .u32 a2) := fun w' ho => ho.cell_in hb (by simp) 2
  have cb2 : ∀ w', Pw.Only W w' [] → w'.cell? ⟨Y, 2, none⟩ = some (.int .u32 b2) := fun w' ho => ho.cell_in hc0 (by simp) 2
  have ca3 : ∀ w', Pw.Only W w' [] → w'.cell? ⟨X, 3, none⟩ = some (.int .u32 a3) := fun w' ho => ho.cell_in hb (by simp) 3
  have cb3 : ∀ w', Pw.Only W w' [] → w'.cell? ⟨Y, 3, none⟩ = some (.int .u32 b3) := fun w' ho => ho.cell_in hc0 (by simp) 3
  have ca4 : ∀ w', Pw.Only W w' [] → w'.cell? ⟨X, 4, none⟩ = some (.int .u32 a4) := fun w' ho => ho.cell_in hb (by simp) 4
  have cb4 : ∀ w', Pw.Only W w' [] → w'.cell? ⟨Y, 4, none⟩ = some (.int .u32 b4) := fun w' ho => ho.cell_in hc0 (by simp) 4
  have ca5 : ∀ w', Pw.Only W w' [] → w'.cell? ⟨X, 5, none⟩ = some (.int .u32 a5) := fun w' ho => ho.cell_in hb (by simp) 5
  have cb5 : ∀ w', Pw.Only W w' [] → w'.cell? ⟨Y, 5, none⟩ = some (.int .u32 b5) := fun w' ho => ho.cell_in hc0 (by simp) 5
  have ca6 : ∀ w', Pw.Only W w' [] → w'.cell? ⟨X, 6, none⟩ = some (.int .u32 a6) := fun w' ho => ho.cell_in hb (by simp) 6
  have cb6 : ∀ w', Pw.Only W w' [] → w'.cell? ⟨Y, 6, none⟩ = some (.int .u32 b6) := fun w' ho => ho.cell_in hc0 (by simp) 6
  have ca7 : ∀ w', Pw.Only W w' [] → w'.cell? ⟨X, 7, none⟩ = some (.int .u32 a7) := fun w' ho => ho.cell_in hb (by simp) 7
  have cb7 : ∀ w', Pw.Only W w' [] → w'.cell? ⟨Y, 7, none⟩ = some (.int .u32 b7) := fun w' ho => ho.cell_in hc0 (by simp) 7
  clear hb hc0
  go_loopw [5] (fun i wr => ∃ j : Nat, i = .int .i64 ((j : Int) - 1) ∧ j ≤ 8 ∧ Pw.Only W wr [] ∧ R = ltL ([a7, a6, a5, a4, a3, a2, a1, a0].drop (8 - j)) ([b7, b6, b5, b4, b3, b2, b1, b0].drop (8 - j))) (fun i _ => (intOf i + 1).toNat)
  case atStart => exact ⟨8, rfl, by omega, Pw.Only.refl _ _, HR.out⟩
  case round =>
    obtain ⟨j, rfl, hj, ho, hr⟩ := hrel
    have hjj : j = 0 ∨ j = 1 ∨ j = 2 ∨ j = 3 ∨ j = 4 ∨ j = 5 ∨ j = 6 ∨ j = 7 ∨ j = 8 := by omega
    clear hj HR
    have hr := Lib.hid hr
    rcases hjj with rfl | rfl | rfl | rfl | rfl | rfl | rfl | rfl | rfl
    · rw [show ((0 : Nat) : Int) - 1 = -1 from rfl]
      go_wp2
      go_ret
      refine ⟨?_, hoW.trans ho⟩
      rw [hr.out]
      rfl
    · rw [show ((1 : Nat) : Int) - 1 = 0 from rfl]
      have xa := ca0 _ ho
      have xb := cb0 _ ho
      have xa2 := ca0 _ (ho.trans (Pw.Only.drew _ []))
      have xb2 := cb0 _ (ho.trans (Pw.Only.drew _ []))
      clear ca0 ca1 ca2 ca3 ca4 ca5 ca6 ca7 cb0 cb1 cb2 cb3 cb4 cb5 cb6 cb7
      by_cases hk : a0 = b0
      · have hi : ((a0 : Int) = b0) := by exact_mod_cast hk
        go_wp2_with fail
        go_quiet (fail)
        go_wp2_with fail
        go_roundw
        case rel => exact ⟨0, rfl, by omega, ho.trans (only_drewN _ _), by rw [hr.out]; exact ltL_eq hk⟩
        case measure => simp [intOf]
      · have hi : ¬ ((a0 : Int) = b0) := by exact_mod_cast hk
        go_wp2_with fail
        go_quiet (fail)
        go_wp2_with fail
        go_quiet (fail)
        go_wp2_with fail
        go_ret
        refine ⟨?_, hoW.trans ((ho.trans (only_drewN _ _)).trans (only_drewN _ _))⟩
        rw [hr.out]
        show _ = Ending.returned (.bool (ltL (a0 :: _) (b0 :: _)))
        rw [ltL_ne hk]
        simp
    · rw [show ((2 : Nat) : Int) - 1 = 1 from rfl]
      have xa := ca1 _ ho
      have xb := cb1 _ ho
      have xa2 := ca1 _ (ho.trans (Pw.Only.drew _ []))
      have xb2 := cb1 _ (ho.trans (Pw.Only.drew _ []))
      clear ca0 ca1 ca2 ca3 ca4 ca5 ca6 ca7 cb0 cb1 cb2 cb3 cb4 cb5 cb6 cb7
      by_cases hk : a1 = b1
      · have hi : ((a1 : Int) = b1) := by exact_mod_cast hk
        go_wp2_with fail
        go_quiet (fail)
        go_wp2_with fail
        go_roundw
        case rel => exact ⟨1, rfl, by omega, ho.trans (only_drewN _ _), by rw [hr.out]; exact ltL_eq hk⟩
        case measure => simp [intOf]
      · have hi : ¬ ((a1 : Int) = b1) := by exact_mod_cast hk
        go_wp2_with fail
        go_quiet (fail)
        go_wp2_with fail
        go_quiet (fail)
        go_wp2_with fail
        go_ret
        refine ⟨?_, hoW.trans ((ho.trans (only_drewN _ _)).trans (only_drewN _ _))⟩
        rw [hr.out]
        show _ = Ending.returned (.bool (ltL (a1 :: _) (b1 :: _)))
        rw [ltL_ne hk]
        simp
    · rw [show ((3 : Nat) : Int) - 1 = 2 from rfl]
      have xa := ca2 _ ho
      have xb := cb2 _ ho
      have xa2 := ca2 _ (ho.trans (Pw.Only.drew _ []))
      have xb2 := cb2 _ (ho.trans (Pw.Only.drew _ []))
      clear ca0 ca1 ca2 ca3 ca4 ca5 ca6 ca7 cb0 cb1 cb2 cb3 cb4 cb5 cb6 cb7
      by_cases hk : a2 = b2
      · have hi : ((a2 : Int) = b2) := by exact_mod_cast hk
        go_wp2_with fail
        go_quiet (fail)
        go_wp2_with fail
        go_roundw
        case rel => exact ⟨2, rfl, by omega, ho.trans (only_drewN _ _), by rw [hr.out]; exact ltL_eq hk⟩
        case measure => simp [intOf]
      · have hi : ¬ ((a2 : Int) = b2) := by exact_mod_cast hk
        go_wp2_with fail
        go_quiet (fail)
        go_wp2_with fail
        go_quiet (fail)
        go_wp2_with fail
        go_ret
        refine ⟨?_, hoW.trans ((ho.trans (only_drewN _ _)).trans (only_drewN _ _))⟩
        rw [hr.out]
        show _ = Ending.returned (.bool (ltL (a2 :: _) (b2 :: _)))
        rw [ltL_ne hk]
        simp
    · rw [show ((4 : Nat) : Int) - 1 = 3 from rfl]
      have xa := ca3 _ ho
      have xb := cb3 _ ho
      have xa2 := ca3 _ (ho.trans (Pw.Only.drew _ []))
      have xb2 := cb3 _ (ho.trans (Pw.Only.drew _ []))
      clear ca0 ca1 ca2 ca3 ca4 ca5 ca6 ca7 cb0 cb1 cb2 cb3 cb4 cb5 cb6 cb7
      by_cases hk : a3 = b3
      · have hi : ((a3 : Int) = b3) := by exact_mod_cast hk
        go_wp2_with fail
        go_quiet (fail)
        go_wp2_with fail
        go_roundw
        case rel => exact ⟨3, rfl, by omega, ho.trans (only_drewN _ _), by rw [hr.out]; exact ltL_eq hk⟩
        case measure => simp [intOf]
      · have hi : ¬ ((a3 : Int) = b3) := by exact_mod_cast hk
        go_wp2_with fail
        go_quiet (fail)
        go_wp2_with fail
        go_quiet (fail)
        go_wp2_with fail
        go_ret
        refine ⟨?_, hoW.trans ((ho.trans (only_drewN _ _)).trans (only_drewN _ _))⟩
        rw [hr.out]
        show _ = Ending.returned (.bool (ltL (a3 :: _) (b3 :: _)))
        rw [ltL_ne hk]
        simp
    · rw [show ((5 : Nat) : Int) - 1 = 4 from rfl]
      have xa := ca4 _ ho
      have xb := cb4 _ ho
      have xa2 := ca4 _ (ho.trans (Pw.Only.drew _ []))
      have xb2 := cb4 _ (ho.trans (Pw.Only.drew _ []))
      clear ca0 ca1 ca2 ca3 ca4 ca5 ca6 ca7 cb0 cb1 cb2 cb3 cb4 cb5 cb6 cb7
      by_cases hk : a4 = b4
      · have hi : ((a4 : Int) = b4) := by exact_mod_cast hk
        go_wp2_with fail
        go_quiet (fail)
        go_wp2_with fail
        go_roundw
        case rel => exact ⟨4, rfl, by omega, ho.trans (only_drewN _ _), by rw [hr.out]; exact ltL_eq hk⟩
        case measure => simp [intOf]
      · have hi : ¬ ((a4 : Int) = b4) := by exact_mod_cast hk
        go_wp2_with fail
        go_quiet (fail)
        go_wp2_with fail
        go_quiet (fail)
        go_wp2_with fail
        go_ret
        refine ⟨?_, hoW.trans ((ho.trans (only_drewN _ _)).trans (only_drewN _ _))⟩
        rw [hr.out]
        show _ = Ending.returned (.bool (ltL (a4 :: _) (b4 :: _)))
        rw [ltL_ne hk]
        simp
    · rw [show ((6 : Nat) : Int) - 1 = 5 from rfl]
      have xa := ca5 _ ho
      have xb := cb5 _ ho
      have xa2 := ca5 _ (ho.trans (Pw.Only.drew _ []))
      have xb2 := cb5 _ (ho.trans (Pw.Only.drew _ []))
      clear ca0 ca1 ca2 ca3 ca4 ca5 ca6 ca7 cb0 cb1 cb2 cb3 cb4 cb5 cb6 cb7
      by_cases hk : a5 = b5
      · have hi : ((a5 : Int) = b5) := by exact_mod_cast hk
        go_wp2_with fail
        go_quiet (fail)
        go_wp2_with fail
        go_roundw
        case rel => exact ⟨5, rfl, by omega, ho.trans (only_drewN _ _), by rw [hr.out]; exact ltL_eq hk⟩
        case measure => simp [intOf]
      · have hi : ¬ ((a5 : Int) = b5) := by exact_mod_cast hk
        go_wp2_with fail
        go_quiet (fail)
        go_wp2_with fail
        go_quiet (fail)
        go_wp2_with fail
        go_ret
        refine ⟨?_, hoW.trans ((ho.trans (only_drewN _ _)).trans (only_drewN _ _))⟩
        rw [hr.out]
        show _ = Ending.returned (.bool (ltL (a5 :: _) (b5 :: _)))
        rw [ltL_ne hk]
        simp
    · rw [show ((7 : Nat) : Int) - 1 = 6 from rfl]
      have xa := ca6 _ ho
      have xb := cb6 _ ho
      have xa2 := ca6 _ (ho.trans (Pw.Only.drew _ []))
      have xb2 := cb6 _ (ho.trans (Pw.Only.drew _ []))
      clear ca0 ca1 ca2 ca3 ca4 ca5 ca6 ca7 cb0 cb1 cb2 cb3 cb4 cb5 cb6 cb7
      by_cases hk : a6 = b6
      · have hi : ((a6 : Int) = b6) := by exact_mod_cast hk
        go_wp2_with fail
        go_quiet (fail)
        go_wp2_with fail
        go_roundw
        case rel => exact ⟨6, rfl, by omega, ho.trans (only_drewN _ _), by rw [hr.out]; exact ltL_eq hk⟩
        case measure => simp [intOf]
      · have hi : ¬ ((a6 : Int) = b6) := by exact_mod_cast hk
        go_wp2_with fail
        go_quiet (fail)
        go_wp2_with fail
        go_quiet (fail)
        go_wp2_with fail
        go_ret
        refine ⟨?_, hoW.trans ((ho.trans (only_drewN _ _)).trans (only_drewN _ _))⟩
        rw [hr.out]
        show _ = Ending.returned (.bool (ltL (a6 :: _) (b6 :: _)))
        rw [ltL_ne hk]
        simp
    · rw [show ((8 : Nat) : Int) - 1 = 7 from rfl]
      have xa := ca7 _ ho
      have xb := cb7 _ ho
      have xa2 := ca7 _ (ho.trans (Pw.Only.drew _ []))
      have xb2 := cb7 _ (ho.trans (Pw.Only.drew _ []))
      clear ca0 ca1 ca2 ca3 ca4 ca5 ca6 ca7 cb0 cb1 cb2 cb3 cb4 cb5 cb6 cb7
      by_cases hk : a7 = b7
      · have hi : ((a7 : Int) = b7) := by exact_mod_cast hk
        go_wp2_with fail
        go_quiet (fail)
        go_wp2_with fail
        go_roundw
        case rel => exact ⟨7, rfl, by omega, ho.trans (only_drewN _ _), by rw [hr.out]; exact ltL_eq hk⟩
        case measure => simp [intOf]
      · have hi : ¬ ((a7 : Int) = b7) := by exact_mod_cast hk
        go_wp2_with fail
        go_quiet (fail)
        go_wp2_with fail
        go_quiet (fail)
        go_wp2_with fail
        go_ret
        refine ⟨?_, hoW.trans ((ho.trans (only_drewN _ _)).trans (only_drewN _ _))⟩
        rw [hr.out]
        show _ = Ending.returned (.bool (ltL (a7 :: _) (b7 :: _)))
        rw [ltL_ne hk]
        simp
end Go.Proofs.YtfkbookaceckhaaGreatDoor
open Go Go.Sx Go.Proofs Go.RowKit
set_option linter.all false
namespace Go.Proofs.YtfkbookaceckhaaGreatDoor
set_option maxRecDepth 1000000
noncomputable def eight : List AV → Option (List Nat)
  | [x0, x1, x2, x3, x4, x5, x6, x7] => match symN .u32 x0, symN .u32 x1, symN .u32 x2, symN .u32 x3, symN .u32 x4, symN .u32 x5, symN .u32 x6, symN .u32 x7 with
    | some a0, some a1, some a2, some a3, some a4, some a5, some a6, some a7 => some [a0.1, a1.1, a2.1, a3.1, a4.1, a5.1, a6.1, a7.1]
    | _, _, _, _, _, _, _, _ => none
  | _ => none
theorem eight_den {σ : Env} {l : List AV} {x : List Nat} (h : eight l = some x) {us : List Value} (hd : denL σ l = some us) : us = x.map (fun (n : Nat) => Value.int .u32 n) ∧ ∃ a0 a1 a2 a3 a4 a5 a6 a7, x = [a0, a1, a2, a3, a4, a5, a6, a7] ∧ ∀ n ∈ x, n < um .u32 := by
  unfold eight at h
  split at h
  · split at h
    · rename_i a0 a1 a2 a3 a4 a5 a6 a7 q0 q1 q2 q3 q4 q5 q6 q7
      obtain rfl := Option.some.inj h
      obtain ⟨z0, l0, rfl, k0, hus⟩ := denL_cons hd
      obtain ⟨z1, l1, rfl, k1, hus⟩ := denL_cons hus
      obtain ⟨z2, l2, rfl, k2, hus⟩ := denL_cons hus
      obtain ⟨z3, l3, rfl, k3, hus⟩ := denL_cons hus
      obtain ⟨z4, l4, rfl, k4, hus⟩ := denL_cons hus
      obtain ⟨z5, l5, rfl, k5, hus⟩ := denL_cons hus
      obtain ⟨z6, l6, rfl, k6, hus⟩ := denL_cons hus
      obtain ⟨z7, l7, rfl, k7, hus⟩ := denL_cons hus
      obtain rfl := denL_nil hus
      rw [symN_ok q0 k0, symN_ok q1 k1, symN_ok q2 k2, symN_ok q3 k3, symN_ok q4 k4, symN_ok q5 k5, symN_ok q6 k6, symN_ok q7 k7]
      refine ⟨rfl, _, _, _, _, _, _, _, _, rfl, fun n hn => ?_⟩
      simp only [List.mem_cons, List.not_mem_nil, or_false] at hn
      rcases hn with rfl | rfl | rfl | rfl | rfl | rfl | rfl | rfl
      · exact a0.2
      · exact a1.2
      · exact a2.2
      · exact a3.2
      · exact a4.2
      · exact a5.2
      · exact a6.2
      · exact a7.2
    · cases h
  · cases h
def rev8 : List Nat → List Nat
  | [a0, a1, a2, a3, a4, a5, a6, a7] => [a7, a6, a5, a4, a3, a2, a1, a0]
  | l => l
noncomputable def gLess : List AV → Option AV
  | [.agg x, .agg y] => match eight x, eight y with
    | some a, some b => some (.bool (ltL (rev8 a) (rev8 b)))
    | _, _ => none
  | _ => none
theorem less_fn : fnOf Tryz.prog 317 = some (ntOf Tryz.prog 317, bodyOf Tryz.prog 317, resultsOf Tryz.prog 317) := by kernel_rfl
theorem less_good : HkGood Tryz.prog (pureHook 317 gLess) := by
  obtain ⟨fn, h1, _, h3, _⟩ := fnOf_ok less_fn
  refine fHook_good ⟨fn, _, h1, h3⟩ fun args v σ us w hg hd => ?_
  unfold gLess at hg
  split at hg
  · split at hg
    · rename_i a b ha hb
      obtain rfl := Option.some.inj hg
      obtain ⟨u, l1, rfl, hx, hd⟩ := denL_cons hd
      obtain ⟨u', l2, rfl, hy, hd⟩ := denL_cons hd
      obtain rfl := denL_nil hd
      simp only [den] at hx hy
      split at hx
      · rename_i us1 hl1
        obtain rfl := Option.some.inj hx
        split at hy
        · rename_i us2 hl2
          obtain rfl := Option.some.inj hy
          obtain ⟨rfl, a0, a1, a2, a3, a4, a5, a6, a7, rfl, _⟩ := eight_den ha hl1
          obtain ⟨rfl, b0, b1, b2, b3, b4, b5, b6, b7, rfl, _⟩ := eight_den hb hl2
          refine ⟨_, rfl, Calls.mono (less_any a0 a1 a2 a3 a4 a5 a6 a7 b0 b1 b2 b3 b4 b5 b6 b7 w) fun e w' h => ⟨h.1, h.2.os, h.2.tape, h.2.output, h.2.size, fun k hk _ => h.2.block k hk (by simp)⟩⟩
        · cases hy
      · cases hx
    · cases hg
  · cases hg
noncomputable def hL : Hk := hor hC2 (pureHook 317 gLess)
theorem hL_good : HkGood Tryz.prog hL := HkGood.or hC2_good less_good
theorem chainT {P : Program} {N : Nat} {c0 c1 c2 c3 c4 cA cR : Code} {o : Operand} {t d st} {r0 r1 r2 r3 r4 r : Rs}
    (h0 : RunsAs P N c0 t d st r0) (n0 : r0.isNorm = true) (h1 : RunsAs P N c1 r0.t r0.d r0.s r1) (n1 : r1.isNorm = true) (h2 : RunsAs P N c2 r1.t r1.d r1.s r2) (n2 : r2.isNorm = true)
    (h3 : RunsAs P N c3 r2.t r2.d r2.s r3) (n3 : r3.isNorm = true) (h4 : RunsAs P N c4 r3.t r3.d r3.s r4) (n4 : r4.isNorm = true) (hv : (cOp P o).map (fun e => ev e r4.t) = some (.bool true))
    (hA : RunsAs P N cA r4.t r4.d r4.s r) (hr : r.isRet = true) : RunsAs P N (.seq c0 (.seq c1 (.seq c2 (.seq c3 (.seq (.seq c4 (.cond o cA .skip)) cR))))) t d st r :=
  h0.seq n0 (h1.seq n1 (h2.seq n2 (h3.seq n3 ((h4.seq n4 (RunsAs.cond (b := true) hv hA)).seqR hr))))
theorem chainF {P : Program} {N : Nat} {c0 c1 c2 c3 c4 cA cR : Code} {o : Operand} {t d st} {r0 r1 r2 r3 r4 r : Rs}
    (h0 : RunsAs P N c0 t d st r0) (n0 : r0.isNorm = true) (h1 : RunsAs P N c1 r0.t r0.d r0.s r1) (n1 : r1.isNorm = true) (h2 : RunsAs P N c2 r1.t r1.d r1.s r2) (n2 : r2.isNorm = true)
    (h3 : RunsAs P N c3 r2.t r2.d r2.s r3) (n3 : r3.isNorm = true) (h4 : RunsAs P N c4 r3.t r3.d r3.s r4) (n4 : r4.isNorm = true) (hv : (cOp P o).map (fun e => ev e r4.t) = some (.bool false))
    (hR : RunsAs P N cR r4.t r4.d r4.s r) : RunsAs P N (.seq c0 (.seq c1 (.seq c2 (.seq c3 (.seq (.seq c4 (.cond o cA .skip)) cR))))) t d st r :=
  h0.seq n0 (h1.seq n1 (h2.seq n2 (h3.seq n3 ((h4.seq n4 (RunsAs.cond (b := false) hv RunsAs.skip)).seq rfl hR))))
def sumG (A : Alg) : Nat → List Nat → List Nat → List Nat
  | c, a :: xs, b :: ys =>
    let t := A.add 18446744073709551616 c (A.add 18446744073709551616 (A.md a 18446744073709551616) (A.md b 18446744073709551616))
    A.md t 4294967296 :: sumG A (A.shr t 32) xs ys
  | _, _, _ => []
def difG (A : Alg) : Nat → List Nat → List Nat → List Nat
  | c, a :: xs, b :: ys =>
    let t := A.sub 18446744073709551616 (A.sub 18446744073709551616 (A.md a 18446744073709551616) b) c
    A.md t 4294967296 :: difG A (A.shr t 63) xs ys
  | _, _, _ => []
def ordL : List Nat := [1559614445, 1477600026, 2734136534, 350157278, 0, 0, 0, 268435456]
def addS8 (A : Alg) (a b : List Nat) : List Nat := if ltL (rev8 (sumG A 0 a b)) (rev8 ordL) = true then sumG A 0 a b else difG A 0 (sumG A 0 a b) ordL
noncomputable def aC : Code := bodyOf Tryz.prog 255
noncomputable def aR0 : Code := seqA aC
noncomputable def aR1 : Code := seqA (seqB aC)
noncomputable def aL1 : Code := seqA (seqB (seqB aC))
noncomputable def aR9 : Code := seqA (seqB (seqB (seqB aC)))
noncomputable def aI : Code := seqA (seqB (seqB (seqB (seqB aC))))
noncomputable def aRest : Code := seqB (seqB (seqB (seqB (seqB aC))))
noncomputable def aR10 : Code := seqA aI
noncomputable def aO : Operand := condO (seqB aI)
noncomputable def aA : Code := condA (seqB aI)
noncomputable def aN : Nat := ntOf Tryz.prog 255
noncomputable def aRs : List ResultVar := resultsOf Tryz.prog 255
theorem add8_fn : fnOf Tryz.prog 255 = some (aN, .seq aR0 (.seq aR1 (.seq aL1 (.seq aR9 (.seq (.seq aR10 (.cond aO aA .skip)) aRest)))), aRs) := by kernel_rfl
noncomputable def cl8 : Nat → List AV → St → Ro := xcall Tryz.prog okT hL dhC 1000 20
section
variable (a0 : Nat) (ha0 : a0 < um .u32) (a1 : Nat) (ha1 : a1 < um .u32) (a2 : Nat) (ha2 : a2 < um .u32) (a3 : Nat) (ha3 : a3 < um .u32) (a4 : Nat) (ha4 : a4 < um .u32) (a5 : Nat) (ha5 : a5 < um .u32) (a6 : Nat) (ha6 : a6 < um .u32) (a7 : Nat) (ha7 : a7 < um .u32)
  (b0 : Nat) (hb0 : b0 < um .u32) (b1 : Nat) (hb1 : b1 < um .u32) (b2 : Nat) (hb2 : b2 < um .u32) (b3 : Nat) (hb3 : b3 < um .u32) (b4 : Nat) (hb4 : b4 < um .u32) (b5 : Nat) (hb5 : b5 < um .u32) (b6 : Nat) (hb6 : b6 < um .u32) (b7 : Nat) (hb7 : b7 < um .u32)
noncomputable def args8 : List AV := [.agg [.sn .u32 a0 ha0, .sn .u32 a1 ha1, .sn .u32 a2 ha2, .sn .u32 a3 ha3, .sn .u32 a4 ha4, .sn .u32 a5 ha5, .sn .u32 a6 ha6, .sn .u32 a7 ha7], .agg [.sn .u32 b0 hb0, .sn .u32 b1 hb1, .sn .u32 b2 hb2, .sn .u32 b3 hb3, .sn .u32 b4 hb4, .sn .u32 b5 hb5, .sn .u32 b6 hb6, .sn .u32 b7 hb7]]
noncomputable def y0 : Rs := xcode Tryz.prog okT cl8 aN 1000 aR0 (argsTr 0 (args8 a0 ha0 a1 ha1 a2 ha2 a3 ha3 a4 ha4 a5 ha5 a6 ha6 a7 ha7 b0 hb0 b1 hb1 b2 hb2 b3 hb3 b4 hb4 b5 hb5 b6 hb6 b7 hb7) .lf) [] (st0 [] (fun _ => 0))
noncomputable def nextR (c : Code) (r : Rs) : Rs := xcode Tryz.prog okT cl8 aN 1000 c r.t r.d r.s
noncomputable def y4 : Rs := nextR aR10 (nextR aR9 (nextR aL1 (nextR aR1 (y0 a0 ha0 a1 ha1 a2 ha2 a3 ha3 a4 ha4 a5 ha5 a6 ha6 a7 ha7 b0 hb0 b1 hb1 b2 hb2 b3 hb3 b4 hb4 b5 hb5 b6 hb6 b7 hb7))))
theorem n0 : (y0 a0 ha0 a1 ha1 a2 ha2 a3 ha3 a4 ha4 a5 ha5 a6 ha6 a7 ha7 b0 hb0 b1 hb1 b2 hb2 b3 hb3 b4 hb4 b5 hb5 b6 hb6 b7 hb7).isNorm = true := by kernel_rfl
theorem n1 : (nextR aR1 (y0 a0 ha0 a1 ha1 a2 ha2 a3 ha3 a4 ha4 a5 ha5 a6 ha6 a7 ha7 b0 hb0 b1 hb1 b2 hb2 b3 hb3 b4 hb4 b5 hb5 b6 hb6 b7 hb7)).isNorm = true := by kernel_rfl
theorem n2 : (nextR aL1 (nextR aR1 (y0 a0 ha0 a1 ha1 a2 ha2 a3 ha3 a4 ha4 a5 ha5 a6 ha6 a7 ha7 b0 hb0 b1 hb1 b2 hb2 b3 hb3 b4 hb4 b5 hb5 b6 hb6 b7 hb7))).isNorm = true := by kernel_rfl
theorem n3 : (nextR aR9 (nextR aL1 (nextR aR1 (y0 a0 ha0 a1 ha1 a2 ha2 a3 ha3 a4 ha4 a5 ha5 a6 ha6 a7 ha7 b0 hb0 b1 hb1 b2 hb2 b3 hb3 b4 hb4 b5 hb5 b6 hb6 b7 hb7)))).isNorm = true := by kernel_rfl
theorem n4 : (y4 a0 ha0 a1 ha1 a2 ha2 a3 ha3 a4 ha4 a5 ha5 a6 ha6 a7 ha7 b0 hb0 b1 hb1 b2 hb2 b3 hb3 b4 hb4 b5 hb5 b6 hb6 b7 hb7).isNorm = true := by kernel_rfl
theorem cv : (cOp Tryz.prog aO).map (fun e => ev e (y4 a0 ha0 a1 ha1 a2 ha2 a3 ha3 a4 ha4 a5 ha5 a6 ha6 a7 ha7 b0 hb0 b1 hb1 b2 hb2 b3 hb3 b4 hb4 b5 hb5 b6 hb6 b7 hb7).t) = some (.bool (ltL (rev8 (sumG oA 0 [a0, a1, a2, a3, a4, a5, a6, a7] [b0, b1, b2, b3, b4, b5, b6, b7])) (rev8 ordL))) := by kernel_rfl
theorem rT : (nextR aA (y4 a0 ha0 a1 ha1 a2 ha2 a3 ha3 a4 ha4 a5 ha5 a6 ha6 a7 ha7 b0 hb0 b1 hb1 b2 hb2 b3 hb3 b4 hb4 b5 hb5 b6 hb6 b7 hb7)).isRet = true := by kernel_rfl
theorem vT : (xleave Tryz.prog dhC aRs (nextR aA (y4 a0 ha0 a1 ha1 a2 ha2 a3 ha3 a4 ha4 a5 ha5 a6 ha6 a7 ha7 b0 hb0 b1 hb1 b2 hb2 b3 hb3 b4 hb4 b5 hb5 b6 hb6 b7 hb7))).val.bind (nats .u32) = some (sumG oA 0 [a0, a1, a2, a3, a4, a5, a6, a7] [b0, b1, b2, b3, b4, b5, b6, b7]) := by kernel_rfl
theorem vF : (xleave Tryz.prog dhC aRs (nextR aRest (y4 a0 ha0 a1 ha1 a2 ha2 a3 ha3 a4 ha4 a5 ha5 a6 ha6 a7 ha7 b0 hb0 b1 hb1 b2 hb2 b3 hb3 b4 hb4 b5 hb5 b6 hb6 b7 hb7))).val.bind (nats .u32) = some (difG oA 0 (sumG oA 0 [a0, a1, a2, a3, a4, a5, a6, a7] [b0, b1, b2, b3, b4, b5, b6, b7]) ordL) := by kernel_rfl
end
theorem add8_any (a0 : Nat) (ha0 : a0 < um .u32) (a1 : Nat) (ha1 : a1 < um .u32) (a2 : Nat) (ha2 : a2 < um .u32) (a3 : Nat) (ha3 : a3 < um .u32) (a4 : Nat) (ha4 : a4 < um .u32) (a5 : Nat) (ha5 : a5 < um .u32) (a6 : Nat) (ha6 : a6 < um .u32) (a7 : Nat) (ha7 : a7 < um .u32) (b0 : Nat) (hb0 : b0 < um .u32) (b1 : Nat) (hb1 : b1 < um .u32) (b2 : Nat) (hb2 : b2 < um .u32) (b3 : Nat) (hb3 : b3 < um .u32) (b4 : Nat) (hb4 : b4 < um .u32) (b5 : Nat) (hb5 : b5 < um .u32) (b6 : Nat) (hb6 : b6 < um .u32) (b7 : Nat) (hb7 : b7 < um .u32) (W : World) : Calls Tryz.prog 255 #[.agg ([a0, a1, a2, a3, a4, a5, a6, a7].map fun (n : Nat) => Value.int .u32 n).toArray, .agg ([b0, b1, b2, b3, b4, b5, b6, b7].map fun (n : Nat) => Value.int .u32 n).toArray] W
    fun e W' => e = .returned (.agg ((addS8 oA [a0, a1, a2, a3, a4, a5, a6, a7] [b0, b1, b2, b3, b4, b5, b6, b7]).map fun (n : Nat) => Value.int .u32 n).toArray) ∧ OnlyB W W' (fun _ => False) := by
  have hgood := call_good (okT := okT) okt callsOK mixed hL_good dhC_good 1000 20
  have hargs : ∀ σ, denL σ (args8 a0 ha0 a1 ha1 a2 ha2 a3 ha3 a4 ha4 a5 ha5 a6 ha6 a7 ha7 b0 hb0 b1 hb1 b2 hb2 b3 hb3 b4 hb4 b5 hb5 b6 hb6 b7 hb7) = some [.agg ([a0, a1, a2, a3, a4, a5, a6, a7].map fun (n : Nat) => Value.int .u32 n).toArray, .agg ([b0, b1, b2, b3, b4, b5, b6, b7].map fun (n : Nat) => Value.int .u32 n).toArray] := fun σ => rfl
  have hro : (([] : List (Nat × Cont)).all fun p => Nat.blt p.1 roN && Nat.blt p.1 Tryz.prog.globals.size) = true := rfl
  obtain ⟨hrep, small⟩ := rep_st0 (W := W) (E := fun _ => 0) hro (fun _ _ h => by cases h)
  have run : ∀ (c : Code) (t : Tr AV) (d : Ds) (st : St), RunsAs Tryz.prog aN c t d st (xcode Tryz.prog okT cl8 aN 1000 c t d st) := fun c t d st => runs_code okt callsOK mixed hgood 1000 c t d st
  have fin : ∀ (r : Rs) (l : List Nat), RunsAs Tryz.prog aN (.seq aR0 (.seq aR1 (.seq aL1 (.seq aR9 (.seq (.seq aR10 (.cond aO aA .skip)) aRest))))) (argsTr 0 (args8 a0 ha0 a1 ha1 a2 ha2 a3 ha3 a4 ha4 a5 ha5 a6 ha6 a7 ha7 b0 hb0 b1 hb1 b2 hb2 b3 hb3 b4 hb4 b5 hb5 b6 hb6 b7 hb7) .lf) [] (st0 [] (fun _ => 0)) r → (xleave Tryz.prog dhC aRs r).val.bind (nats .u32) = some l →
      Calls Tryz.prog 255 #[.agg ([a0, a1, a2, a3, a4, a5, a6, a7].map fun (n : Nat) => Value.int .u32 n).toArray, .agg ([b0, b1, b2, b3, b4, b5, b6, b7].map fun (n : Nat) => Value.int .u32 n).toArray] W fun e W' => e = .returned (.agg (l.map fun (n : Nat) => Value.int .u32 n).toArray) ∧ OnlyB W W' (fun _ => False) := by
    intro r l hr hv
    obtain ⟨v, h1, h2⟩ := Option.bind_eq_some_iff.1 hv
    cases hx : xleave Tryz.prog dhC aRs r with
    | no => rw [hx] at h1; cases h1
    | pan v' st' => rw [hx] at h1; cases h1
    | ret v' st' =>
      rw [hx] at h1
      obtain rfl : v' = v := Option.some.inj h1
      refine Calls.mono (body_of_runs callsOK dhC_good add8_fn hr hrep (glob0 _) (hargs _) (by rw [hx]; simp) (by
        rw [hx]
        intro id h1 h2
        have h1 : roN ≤ id := h1
        have := Nat.le_of_ble_eq_true (show Nat.ble Tryz.prog.globals.size roN = true by kernel_rfl)
        simp only [env0]
        rw [if_neg (by omega)])) ?_
      rintro e w' hb
      rw [hx] at hb
      obtain ⟨σ', u, rfl, hu, hs⟩ := hb
      obtain rfl := Option.some.inj (hu.symm.trans (nats_den h2))
      refine ⟨rfl, hs.only.os, hs.only.tape, hs.only.output, hs.only.size, fun k hk _ => hs.only.block k hk ?_⟩
      rintro ⟨id, b, l, h0, h1, h2, h3⟩
      have := (small id b h1).1
      omega
  unfold addS8
  cases hb : ltL (rev8 (sumG oA 0 [a0, a1, a2, a3, a4, a5, a6, a7] [b0, b1, b2, b3, b4, b5, b6, b7])) (rev8 ordL) with
  | true =>
    rw [if_pos rfl]
    have hcv : (cOp Tryz.prog aO).map (fun e => ev e (y4 a0 ha0 a1 ha1 a2 ha2 a3 ha3 a4 ha4 a5 ha5 a6 ha6 a7 ha7 b0 hb0 b1 hb1 b2 hb2 b3 hb3 b4 hb4 b5 hb5 b6 hb6 b7 hb7).t) = some (.bool true) := by rw [cv, hb]
    exact fin (nextR aA (y4 a0 ha0 a1 ha1 a2 ha2 a3 ha3 a4 ha4 a5 ha5 a6 ha6 a7 ha7 b0 hb0 b1 hb1 b2 hb2 b3 hb3 b4 hb4 b5 hb5 b6 hb6 b7 hb7)) _ (chainT (r0 := (y0 a0 ha0 a1 ha1 a2 ha2 a3 ha3 a4 ha4 a5 ha5 a6 ha6 a7 ha7 b0 hb0 b1 hb1 b2 hb2 b3 hb3 b4 hb4 b5 hb5 b6 hb6 b7 hb7)) (r1 := (nextR aR1 (y0 a0 ha0 a1 ha1 a2 ha2 a3 ha3 a4 ha4 a5 ha5 a6 ha6 a7 ha7 b0 hb0 b1 hb1 b2 hb2 b3 hb3 b4 hb4 b5 hb5 b6 hb6 b7 hb7))) (r2 := (nextR aL1 (nextR aR1 (y0 a0 ha0 a1 ha1 a2 ha2 a3 ha3 a4 ha4 a5 ha5 a6 ha6 a7 ha7 b0 hb0 b1 hb1 b2 hb2 b3 hb3 b4 hb4 b5 hb5 b6 hb6 b7 hb7)))) (r3 := (nextR aR9 (nextR aL1 (nextR aR1 (y0 a0 ha0 a1 ha1 a2 ha2 a3 ha3 a4 ha4 a5 ha5 a6 ha6 a7 ha7 b0 hb0 b1 hb1 b2 hb2 b3 hb3 b4 hb4 b5 hb5 b6 hb6 b7 hb7))))) (r4 := (y4 a0 ha0 a1 ha1 a2 ha2 a3 ha3 a4 ha4 a5 ha5 a6 ha6 a7 ha7 b0 hb0 b1 hb1 b2 hb2 b3 hb3 b4 hb4 b5 hb5 b6 hb6 b7 hb7)) (run aR0 _ _ _) (n0 a0 ha0 a1 ha1 a2 ha2 a3 ha3 a4 ha4 a5 ha5 a6 ha6 a7 ha7 b0 hb0 b1 hb1 b2 hb2 b3 hb3 b4 hb4 b5 hb5 b6 hb6 b7 hb7) (run aR1 _ _ _) (n1 a0 ha0 a1 ha1 a2 ha2 a3 ha3 a4 ha4 a5 ha5 a6 ha6 a7 ha7 b0 hb0 b1 hb1 b2 hb2 b3 hb3 b4 hb4 b5 hb5 b6 hb6 b7 hb7) (run aL1 _ _ _) (n2 a0 ha0 a1 ha1 a2 ha2 a3 ha3 a4 ha4 a5 ha5 a6 ha6 a7 ha7 b0 hb0 b1 hb1 b2 hb2 b3 hb3 b4 hb4 b5 hb5 b6 hb6 b7 hb7) (run aR9 _ _ _) (n3 a0 ha0 a1 ha1 a2 ha2 a3 ha3 a4 ha4 a5 ha5 a6 ha6 a7 ha7 b0 hb0 b1 hb1 b2 hb2 b3 hb3 b4 hb4 b5 hb5 b6 hb6 b7 hb7) (run aR10 _ _ _) (n4 a0 ha0 a1 ha1 a2 ha2 a3 ha3 a4 ha4 a5 ha5 a6 ha6 a7 ha7 b0 hb0 b1 hb1 b2 hb2 b3 hb3 b4 hb4 b5 hb5 b6 hb6 b7 hb7) hcv (run aA _ _ _) (rT a0 ha0 a1 ha1 a2 ha2 a3 ha3 a4 ha4 a5 ha5 a6 ha6 a7 ha7 b0 hb0 b1 hb1 b2 hb2 b3 hb3 b4 hb4 b5 hb5 b6 hb6 b7 hb7)) (vT a0 ha0 a1 ha1 a2 ha2 a3 ha3 a4 ha4 a5 ha5 a6 ha6 a7 ha7 b0 hb0 b1 hb1 b2 hb2 b3 hb3 b4 hb4 b5 hb5 b6 hb6 b7 hb7)
  | false =>
    rw [if_neg (by decide)]
    have hcv : (cOp Tryz.prog aO).map (fun e => ev e (y4 a0 ha0 a1 ha1 a2 ha2 a3 ha3 a4 ha4 a5 ha5 a6 ha6 a7 ha7 b0 hb0 b1 hb1 b2 hb2 b3 hb3 b4 hb4 b5 hb5 b6 hb6 b7 hb7).t) = some (.bool false) := by rw [cv, hb]
    exact fin (nextR aRest (y4 a0 ha0 a1 ha1 a2 ha2 a3 ha3 a4 ha4 a5 ha5 a6 ha6 a7 ha7 b0 hb0 b1 hb1 b2 hb2 b3 hb3 b4 hb4 b5 hb5 b6 hb6 b7 hb7)) _ (chainF (r0 := (y0 a0 ha0 a1 ha1 a2 ha2 a3 ha3 a4 ha4 a5 ha5 a6 ha6 a7 ha7 b0 hb0 b1 hb1 b2 hb2 b3 hb3 b4 hb4 b5 hb5 b6 hb6 b7 hb7)) (r1 := (nextR aR1 (y0 a0 ha0 a1 ha1 a2 ha2 a3 ha3 a4 ha4 a5 ha5 a6 ha6 a7 ha7 b0 hb0 b1 hb1 b2 hb2 b3 hb3 b4 hb4 b5 hb5 b6 hb6 b7 hb7))) (r2 := (nextR aL1 (nextR aR1 (y0 a0 ha0 a1 ha1 a2 ha2 a3 ha3 a4 ha4 a5 ha5 a6 ha6 a7 ha7 b0 hb0 b1 hb1 b2 hb2 b3 hb3 b4 hb4 b5 hb5 b6 hb6 b7 hb7)))) (r3 := (nextR aR9 (nextR aL1 (nextR aR1 (y0 a0 ha0 a1 ha1 a2 ha2 a3 ha3 a4 ha4 a5 ha5 a6 ha6 a7 ha7 b0 hb0 b1 hb1 b2 hb2 b3 hb3 b4 hb4 b5 hb5 b6 hb6 b7 hb7))))) (r4 := (y4 a0 ha0 a1 ha1 a2 ha2 a3 ha3 a4 ha4 a5 ha5 a6 ha6 a7 ha7 b0 hb0 b1 hb1 b2 hb2 b3 hb3 b4 hb4 b5 hb5 b6 hb6 b7 hb7)) (run aR0 _ _ _) (n0 a0 ha0 a1 ha1 a2 ha2 a3 ha3 a4 ha4 a5 ha5 a6 ha6 a7 ha7 b0 hb0 b1 hb1 b2 hb2 b3 hb3 b4 hb4 b5 hb5 b6 hb6 b7 hb7) (run aR1 _ _ _) (n1 a0 ha0 a1 ha1 a2 ha2 a3 ha3 a4 ha4 a5 ha5 a6 ha6 a7 ha7 b0 hb0 b1 hb1 b2 hb2 b3 hb3 b4 hb4 b5 hb5 b6 hb6 b7 hb7) (run aL1 _ _ _) (n2 a0 ha0 a1 ha1 a2 ha2 a3 ha3 a4 ha4 a5 ha5 a6 ha6 a7 ha7 b0 hb0 b1 hb1 b2 hb2 b3 hb3 b4 hb4 b5 hb5 b6 hb6 b7 hb7) (run aR9 _ _ _) (n3 a0 ha0 a1 ha1 a2 ha2 a3 ha3 a4 ha4 a5 ha5 a6 ha6 a7 ha7 b0 hb0 b1 hb1 b2 hb2 b3 hb3 b4 hb4 b5 hb5 b6 hb6 b7 hb7) (run aR10 _ _ _) (n4 a0 ha0 a1 ha1 a2 ha2 a3 ha3 a4 ha4 a5 ha5 a6 ha6 a7 ha7 b0 hb0 b1 hb1 b2 hb2 b3 hb3 b4 hb4 b5 hb5 b6 hb6 b7 hb7) hcv (run aRest _ _ _)) (vF a0 ha0 a1 ha1 a2 ha2 a3 ha3 a4 ha4 a5 ha5 a6 ha6 a7 ha7 b0 hb0 b1 hb1 b2 hb2 b3 hb3 b4 hb4 b5 hb5 b6 hb6 b7 hb7)
theorem addS8_eq (a b : List Nat) : addS8 oA a b = addS8 nA a b := by rw [oA_eq]
noncomputable def gAdd8 : List AV → Option AV
  | [.agg x, .agg y] => match eight x, eight y with
    | some a, some b => some (.agg (back32 (addS8 nA a b)))
    | _, _ => none
  | _ => none
theorem add8_hold (a b : List Nat) (ha : ∃ a0 a1 a2 a3 a4 a5 a6 a7, a = [a0, a1, a2, a3, a4, a5, a6, a7]) (hb : ∃ b0 b1 b2 b3 b4 b5 b6 b7, b = [b0, b1, b2, b3, b4, b5, b6, b7]) (la : ∀ n ∈ a, n < um .u32) (lb : ∀ n ∈ b, n < um .u32) (W : World) :
    Calls Tryz.prog 255 #[.agg (a.map fun (n : Nat) => Value.int .u32 n).toArray, .agg (b.map fun (n : Nat) => Value.int .u32 n).toArray] W
    fun e W' => e = .returned (.agg ((addS8 nA a b).map fun (n : Nat) => Value.int .u32 n).toArray) ∧ OnlyB W W' (fun _ => False) := by
  obtain ⟨a0, a1, a2, a3, a4, a5, a6, a7, rfl⟩ := ha
  obtain ⟨b0, b1, b2, b3, b4, b5, b6, b7, rfl⟩ := hb
  rw [← addS8_eq]
  exact add8_any a0 (la _ (by simp)) a1 (la _ (by simp)) a2 (la _ (by simp)) a3 (la _ (by simp)) a4 (la _ (by simp)) a5 (la _ (by simp)) a6 (la _ (by simp)) a7 (la _ (by simp)) b0 (lb _ (by simp)) b1 (lb _ (by simp)) b2 (lb _ (by simp)) b3 (lb _ (by simp)) b4 (lb _ (by simp)) b5 (lb _ (by simp)) b6 (lb _ (by simp)) b7 (lb _ (by simp)) W
theorem add8_good : HkGood Tryz.prog (pureHook 255 gAdd8) := by
  obtain ⟨fn, h1, _, h3, _⟩ := fnOf_ok add8_fn
  refine fHook_good ⟨fn, _, h1, h3⟩ fun args v σ us w hg hd => ?_
  unfold gAdd8 at hg
  split at hg
  · split at hg
    · rename_i a b ha hb
      obtain rfl := Option.some.inj hg
      obtain ⟨u, l1, rfl, hx, hd⟩ := denL_cons hd
      obtain ⟨u', l2, rfl, hy, hd⟩ := denL_cons hd
      obtain rfl := denL_nil hd
      simp only [den] at hx hy
      split at hx
      · rename_i us1 hl1
        obtain rfl := Option.some.inj hx
        split at hy
        · rename_i us2 hl2
          obtain rfl := Option.some.inj hy
          obtain ⟨rfl, a0, a1, a2, a3, a4, a5, a6, a7, rfl, la⟩ := eight_den ha hl1
          obtain ⟨rfl, b0, b1, b2, b3, b4, b5, b6, b7, rfl, lb⟩ := eight_den hb hl2
          exact ⟨_, by simp only [den, back32_den], add8_hold _ _ ⟨a0, a1, a2, a3, a4, a5, a6, a7, rfl⟩ ⟨b0, b1, b2, b3, b4, b5, b6, b7, rfl⟩ la lb w⟩
        · cases hy
      · cases hx
    · cases hg
  · cases hg
noncomputable def hC3 : Hk := hor hL (pureHook 255 gAdd8)
theorem hC3_good : HkGood Tryz.prog hC3 := HkGood.or hL_good add8_good
end Go.Proofs.YtfkbookaceckhaaGreatDoor
open Go Go.Sx Go.Proofs Go.RowKit
set_option linter.all false
namespace Go.Proofs.YtfkbookaceckhaaGreatDoor
set_option maxRecDepth 1000000
noncomputable def u64L : List Nat → List AV
  | [] => []
  | n :: l => .int .u64 (.ofNat n) :: u64L l
theorem u64L_den {σ : Env} : ∀ (l : List Nat), denL σ (u64L l) = some (l.map fun (n : Nat) => Value.int .u64 n)
  | [] => rfl
  | n :: l => by
    simp only [u64L, denL, den, u64L_den l, List.map_cons]
    rfl
def curveL : List Nat := [929955233495203, 466365720129213, 1662059464998953, 2033849074728123, 1442794654840575]
def startL : List Nat := [1738742601995546, 1146398526822698, 2070867633025821, 562264141797630, 587772402128613, 1801439850948184, 1351079888211148, 450359962737049, 900719925474099, 1801439850948198, 1, 0, 0, 0, 0, 1841354044333475, 16398895984059, 755974180946558, 900171276175154, 1821297809914039]
noncomputable def gConst (l : List Nat) : List AV → Option AV
  | [] => some (.agg (u64L l))
  | _ => none
theorem const_any {f : Nat} {l : List Nat} (h : AV.beq (((xcall Tryz.prog okT hC3 dhC 1000 20 f [] (st0 [] (fun _ => 0))).val).getD .nilp) (.agg (u64L l)) = true) (W : World) :
    Calls Tryz.prog f #[] W fun e W' => e = .returned (.agg (l.map fun (n : Nat) => Value.int .u64 n).toArray) ∧ OnlyB W W' (fun _ => False) :=
  sym_calls (E := fun _ => 0) (ro := []) okt callsOK mixed hC3_good dhC_good (args := []) (us := []) (fun σ => rfl) (by kernel_rfl) (by kernel_rfl) (fun _ _ h => by cases h) (val_of h (fun h => by cases h)) (fun σ => den_agg (u64L_den l))
theorem const_good {f : Nat} {l : List Nat} (hf : ∃ fn c, nthL Tryz.prog.funcs.toList f = some fn ∧ fn.body = some c) (h : AV.beq (((xcall Tryz.prog okT hC3 dhC 1000 20 f [] (st0 [] (fun _ => 0))).val).getD .nilp) (.agg (u64L l)) = true) : HkGood Tryz.prog (pureHook f (gConst l)) := by
  refine fHook_good hf fun args v σ us w hg hd => ?_
  unfold gConst at hg
  split at hg
  · obtain rfl := Option.some.inj hg
    obtain rfl := denL_nil hd
    exact ⟨_, den_agg (u64L_den l), const_any h w⟩
  · cases hg
theorem curve_run : AV.beq (((xcall Tryz.prog okT hC3 dhC 1000 20 313 [] (st0 [] (fun _ => 0))).val).getD .nilp) (.agg (u64L curveL)) = true := by kernel_rfl
theorem start_run : AV.beq (((xcall Tryz.prog okT hC3 dhC 1000 20 249 [] (st0 [] (fun _ => 0))).val).getD .nilp) (.agg (u64L startL)) = true := by kernel_rfl
theorem curve_fn : fnOf Tryz.prog 313 = some (ntOf Tryz.prog 313, bodyOf Tryz.prog 313, resultsOf Tryz.prog 313) := by kernel_rfl
theorem start_fn : fnOf Tryz.prog 249 = some (ntOf Tryz.prog 249, bodyOf Tryz.prog 249, resultsOf Tryz.prog 249) := by kernel_rfl
theorem curve_good : HkGood Tryz.prog (pureHook 313 (gConst curveL)) := by
  obtain ⟨fn, h1, _, h3, _⟩ := fnOf_ok curve_fn
  exact const_good ⟨fn, _, h1, h3⟩ curve_run
theorem start_good : HkGood Tryz.prog (pureHook 249 (gConst startL)) := by
  obtain ⟨fn, h1, _, h3, _⟩ := fnOf_ok start_fn
  exact const_good ⟨fn, _, h1, h3⟩ start_run
noncomputable def hC : Hk := hor hC3 (hor (pureHook 313 (gConst curveL)) (pureHook 249 (gConst startL)))
theorem hC_good : HkGood Tryz.prog hC := HkGood.or hC3_good (HkGood.or curve_good start_good)
end Go.Proofs.YtfkbookaceckhaaGreatDoor
end
