/- A slice literal of three structs; a bundle of either kind (layer 17). No condition of the program. -/
import Derived.Test.YteljkfihmbddaaaRfI
import Derived.Test.YteljkfihmbddaaaRfB
import Derived.Test.YteljkfihmbddaaaRfC
import Derived.Test.YteljkfihmbddaaaRfD
import Derived.Test.YteljkfihmbddaaaRfE
set_option linter.unusedSimpArgs false
set_option linter.unusedVariables false
namespace Go.Pw
open Go.RowKit
set_option linter.unusedVariables false

theorem foldl_setO (off : Nat) (cs : List Value) : ∀ (n : Nat) (z : Array Value), (cs.zipIdx n).foldl (fun (a : Array Value) (x : Value × Nat) => a.setIfInBounds (off + x.2) x.1) z = (setL z.toList (off + n) cs).toArray := by
  induction cs with
  | nil => intro n z; simp [setL]
  | cons c cs ih =>
    intro n z
    rw [List.zipIdx_cons, List.foldl_cons, ih]
    simp [setL, Nat.add_assoc]
theorem fill_one {off size : Nat} {place : Nat → Option (Nat × Nat)} {i : Nat} {cells : Array Value} {cs : List Value} {rest : List (Nat × Value)} (hp : place i = some (off, size)) (hc : cs.length = size) (ho : off + size ≤ cells.size) :
    Instr.fill place cells ((i, .agg cs.toArray) :: rest) = Instr.fill place (setL cells.toList off cs).toArray rest := by
  have hv : (Value.agg cs.toArray).cells = cs.toArray := rfl
  simp only [Instr.fill, hp, hv]
  rw [if_neg (by simp; omega)]
  have e : Array.foldl (fun (a : Array Value) (x : Value × Nat) => a.setIfInBounds (off + x.2) x.1) cells cs.toArray.zipIdx = (setL cells.toList off cs).toArray := by
    rw [← Array.foldl_toList]
    have e1 : cs.toArray.zipIdx.toList = cs.zipIdx 0 := by simp
    rw [e1, foldl_setO, Nat.add_zero]
  rw [e]
theorem split3 {xs : List Value} {k : Nat} (h : xs.length = 3 * k) : ∃ a b c : List Value, a.length = k ∧ b.length = k ∧ c.length = k ∧ xs = a ++ b ++ c :=
  ⟨xs.take k, (xs.drop k).take k, (xs.drop k).drop k, by simp; omega, by simp; omega, by simp; omega, by rw [List.append_assoc, List.take_append_drop, List.take_append_drop]⟩
theorem run_buildSlice_three {P : Program} (w : World) (t e : TypeId) (i : TypeInfo) (z : Value) (k : Nat) (c0 c1 c2 : List Value) (h0 : c0.length = k) (h1 : c1.length = k) (h2 : c2.length = k) (ht : P.underlying t = some (.slice e)) (hi : P.info? e = some i) (hz : i.zero = some z) (hs : i.size = k) (hzs : z.cells.size = k) (hk : 0 < k) (hb : k ≤ 1000) :
    (Instr.buildSlice t 3 #[(0, .agg c0.toArray), (1, .agg c1.toArray), (2, .agg c2.toArray)]).run P w = .ok (.slice (some ⟨w.heap.size, 0, none⟩) 3 3) (w.alloc (.cells (c0 ++ c1 ++ c2).toArray e)) := by
  have hne : ¬ (3 * k = 0) := by omega
  have hb2 : ¬ (16777216 < 3 * k) := by omega
  generalize hzc : z.cells = zc at *
  have hfill : Instr.fill (fun i => some (i * k, k)) ((Array.range (3 * k)).map (zc[· % zc.size]!)) [(0, .agg c0.toArray), (1, .agg c1.toArray), (2, .agg c2.toArray)] = some (c0 ++ c1 ++ c2).toArray := by
    obtain ⟨cells, hcells⟩ : ∃ cells, cells = (Array.range (3 * k)).map (zc[· % zc.size]!) := ⟨_, rfl⟩
    rw [← hcells]
    have hcl : cells.toList.length = 3 * k := by rw [hcells]; simp
    clear hcells
    obtain ⟨a, b, c, ha, hb', hc, he⟩ := split3 hcl
    have hsz : cells.size = 3 * k := by simpa using hcl
    rw [fill_one (off := 0 * k) rfl h0 (by omega), he]
    have e0 : setL (a ++ b ++ c) (0 * k) c0 = c0 ++ b ++ c := by
      have := setL_app a [] c0 (b ++ c) (by omega)
      simpa [List.append_assoc] using this
    rw [e0, fill_one (off := 1 * k) rfl h1 (by simp; omega)]
    have e1 : setL (c0 ++ b ++ c) (1 * k) c1 = c0 ++ c1 ++ c := by
      have := setL_app b c0 c1 c (by omega)
      rwa [h0, show k = 1 * k by omega] at this
    rw [show (c0 ++ b ++ c).toArray.toList = c0 ++ b ++ c from rfl, e1, fill_one (off := 2 * k) rfl h2 (by simp; omega)]
    have e2 : setL (c0 ++ c1 ++ c) (2 * k) c2 = c0 ++ c1 ++ c2 := by
      have := setL_app c (c0 ++ c1) c2 [] (by omega)
      rw [List.append_nil, List.append_nil, List.length_append, h0, h1, show k + k = 2 * k by omega] at this
      exact this
    rw [show (c0 ++ c1 ++ c).toArray.toList = c0 ++ c1 ++ c from rfl, e2]
    rfl
  have hnv : ∀ cells : Array Value, (newRow e cells).run P w = .ok ⟨w.heap.size, 0, none⟩ (w.alloc (.cells cells e)) := fun cells => by simp [newRow, newObj, go_sem]; rfl
  have hzv : (zeroValue e).run P w = .ok z w := by simp [zeroValue, typeInfo, hi, hz]
  have hsz : (sizeOf e).run P w = .ok k w := by simp [sizeOf, typeInfo, hi, hs]
  simp only [Instr.buildSlice, Sem.run_bind, run_underlying ht, Result.andThen_ok, hsz]
  rw [if_neg (by omega), if_neg hne]
  simp only [Sem.run_bind, hzv, Result.andThen_ok, Sem.run_pure, hzc, hfill, hnv]
theorem step_buildSlice_three {P : Program} {ops : Array Oper} {o : Oper} {a : Act} {w : World} {K : Act → World → Prop} {Q : Exit → Act → World → Prop} {E : Prop}
    (hg : o.guard = none) (t : TypeId) (x y u : Operand) (hop : o.op = .buildSlice t 3 #[(0, x), (1, y), (2, u)]) (e : TypeId) (i : TypeInfo) (z : Value) (k : Nat) (c0 c1 c2 : List Value) (hx : a.eval x = .agg c0.toArray) (hy : a.eval y = .agg c1.toArray) (hu : a.eval u = .agg c2.toArray)
    (h0 : c0.length = k) (h1 : c1.length = k) (h2 : c2.length = k)
    (ht : P.underlying t = some (.slice e)) (hi : P.info? e = some i) (hz : i.zero = some z) (hs : i.size = k) (hzs : z.cells.size = k) (hk : 0 < k) (hb : k ≤ 1000)
    (hK : ∀ X w', Only w w' [] → w.heap.size ≤ X → w'.heap[X]? = some (.cells (c0 ++ c1 ++ c2).toArray e (0, 0)) → K (a.put o.dst (.slice (some ⟨X, 0, none⟩) 3 3)) w') :
    if Region.wanted o (yielded ops a.tmps) = true then Oper.wp P o a w K Q else E := by
  have hw : Region.wanted o (yielded ops a.tmps) = true := by simp [Region.wanted, hg]
  rw [if_pos hw]
  unfold Oper.wp execOp
  have hr := run_buildSlice_three (P := P) w t e i z k c0 c1 c2 h0 h1 h2 ht hi hz hs hzs hk hb
  simp only [hop, List.map_toArray, List.map_cons, List.map_nil, hx, hy, hu, Sem.run_bind, hr, Result.andThen_ok]
  exact hK _ _ (Only.alloc _ _ _) (Nat.le_refl _) (heap_alloc_new w _)
end Go.Pw
namespace Go.Proofs.Yteljkfihmbddaaa
open Go.RowKit Go.Pw
set_option linter.unusedVariables false

theorem bundleR_any (u d n : Int) (has : Bool) (h0 : 0 ≤ n) (h1 : n < 256) (w : World) : Calls Try.prog 13 #[wv u d, .int .u8 n, .bool has] w (BundR u d n has w) := by
  cases has with
  | true => exact bundleR_yes u d n h0 h1 w
  | false => exact bundleR_no u d n h0 h1 w

/-- A device's bundle in a pool. -/
def NumB (b : Bu) : Prop := (0 ≤ b.sg ∧ b.sg < 256) ∧ (0 ≤ b.on ∧ b.on < 256)
theorem bundR_num {u d n : Int} {has : Bool} {w w' : World} {e : Ending} (h0 : 0 ≤ n) (h1 : n < 256) (h : BundR u d n has w e w') : ∃ b : Bu, e = .returned (.agg (bc b).toArray) ∧ Only w w' [] ∧ b.u = u ∧ b.d = d ∧ b.has = has ∧ NumB b ∧ (rdB b).ok w' ∧ ∀ k ∈ (rdB b).fp, w.heap.size ≤ k := by
  obtain ⟨b, a1, a2, a3, a4, a5, a6, a7, a8, a9⟩ := h
  refine ⟨b, a1, a2, a3, a4, a6, ⟨by rw [a5]; exact ⟨h0, h1⟩, ?_⟩, a8, a9⟩
  rw [a7]
  split <;> omega

/-- What one act keeps: registry and reference tell the same; the bundles lie in a pool. -/
structure Play (i : Nat) (l : List Li) (ms : List Rl) (P : List Bu) : Prop where
  inv : RInv l ms
  len : l.length ≤ i
  os : ∀ x ∈ l, x.os.length ≤ 16 ∧ (x.os.map (·.on)).Nodup
  bs : ∀ x ∈ l, x.b = b0 ∨ x.b ∈ P
  bo : ∀ x ∈ l, ∀ b ∈ x.os, b ∈ P
  num : ∀ b ∈ P, NumB b
  dev : ∀ x ∈ l, x.d ≤ cntL l x.u
theorem play_nil : Play 0 [] [] [] where
  inv := { perm := by simp, strict := strict_nil }
  len := Nat.le_refl _
  os := by simp
  bs := by simp
  bo := by simp
  num := by simp
  dev := by simp
theorem Play.pool {i : Nat} {l : List Li} {ms : List Rl} {P : List Bu} (h : Play i l ms P) {b : Bu} (hb : NumB b) : Play i l ms (b :: P) where
  inv := h.inv
  len := h.len
  os := h.os
  bs x hx := (h.bs x hx).imp id fun h => List.mem_cons_of_mem _ h
  bo x hx b hb := List.mem_cons_of_mem _ (h.bo x hx b hb)
  num c hc := (List.mem_cons.1 hc).elim (fun e => by rw [e]; exact hb) (h.num c)
  dev := h.dev
theorem Play.same {i : Nat} {l : List Li} {ms : List Rl} {P : List Bu} (h : Play i l ms P) : Play (i + 1) l ms P where
  inv := h.inv
  len := by have := h.len; omega
  os := h.os
  bs := h.bs
  bo := h.bo
  num := h.num
  dev := h.dev
/-- The foldl of Publish keeps to what there was, and to what is published. -/
theorem fold_pub : ∀ (bs : List Bu) (s : Bu × List Bu), ((bs.foldl pubS s).1 = s.1 ∨ (bs.foldl pubS s).1 ∈ bs) ∧ ∀ b ∈ (bs.foldl pubS s).2, b ∈ s.2 ∨ b ∈ bs
  | [], s => ⟨.inl rfl, fun b hb => .inl hb⟩
  | a :: bs, s => by
    obtain ⟨h1, h2⟩ := fold_pub bs (pubS s a)
    have e1 : (pubS s a).1 = s.1 ∨ (pubS s a).1 = a := by
      unfold pubS
      split
      · split
        · exact .inl rfl
        · exact .inr rfl
      · split
        · exact .inl rfl
        · split <;> exact .inl rfl
    have e2 : ∀ b ∈ (pubS s a).2, b ∈ s.2 ∨ b = a := by
      intro b hb
      unfold pubS at hb
      split at hb
      · split at hb <;> exact .inl hb
      · split at hb
        · exact (List.mem_or_eq_of_mem_set hb)
        · split at hb
          · rcases List.mem_append.1 hb with h | h
            · exact .inl h
            · exact .inr (by simpa using h)
          · exact .inl hb
    rw [List.foldl_cons]
    refine ⟨?_, fun b hb => ?_⟩
    · rcases h1 with h | h
      · rw [h]
        rcases e1 with h | h
        · exact .inl h
        · exact .inr (by rw [h]; simp)
      · exact .inr (List.mem_cons_of_mem _ h)
    · rcases h2 b hb with h | h
      · rcases e2 b h with h | h
        · exact .inl h
        · exact .inr (by rw [h]; simp)
      · exact .inr (List.mem_cons_of_mem _ h)
/-- A line is another one. -/
theorem Play.turn {i : Nat} {l : List Li} {ms : List Rl} {P : List Bu} (h : Play i l ms P) {k j : Nat} (hk : k < l.length) (hj : j < ms.length) (e : enL l[k] = enR ms[j]) {x : Li} {y : Rl} (hu : x.u = l[k].u) (hd : x.d = l[k].d)
    (e' : enL x = enR y) (ho : x.os.length ≤ 16 ∧ (x.os.map (·.on)).Nodup) (hb : x.b = l[k].b ∨ x.b ∈ P) (hbo : ∀ b ∈ x.os, b ∈ l[k].os ∨ b ∈ P) : Play (i + 1) (l.set k x) (ms.set j y) P where
  inv := h.inv.turn hk hj e e' hu hd
  len := by rw [List.length_set]; have := h.len; omega
  os z hz := (List.mem_or_eq_of_mem_set hz).elim (h.os z) fun e => by rw [e]; exact ho
  bs z hz := (List.mem_or_eq_of_mem_set hz).elim (h.bs z) fun e => by
    rw [e]
    rcases hb with hb | hb
    · rw [hb]; exact h.bs _ (List.getElem_mem hk)
    · exact .inr hb
  bo z hz := (List.mem_or_eq_of_mem_set hz).elim (h.bo z) fun e b hb => by
    rw [e] at hb
    exact (hbo b hb).elim (h.bo _ (List.getElem_mem hk) b) id
  num := h.num
  dev z hz := by
    have hc : ∀ u, cntL (l.set k x) u = cntL l u := fun u => by
      rw [cntL_eq, cntL_eq]
      have := filter_set (fun x => x.u == u) hk x
      rw [hu] at this
      split at this <;> omega
    rw [hc]
    rcases List.mem_or_eq_of_mem_set hz with hz | hz
    · exact h.dev z hz
    · rw [hz, hu, hd]; exact h.dev _ (List.getElem_mem hk)
/-- One more line. -/
theorem Play.add {i : Nat} {l : List Li} {ms : List Rl} {P : List Bu} (h : Play i l ms P) {x : Li} {y : Rl}
    (e' : enL x = enR y) (hd : x.d = cntL l x.u + 1) (ho : x.os.length ≤ 16 ∧ (x.os.map (·.on)).Nodup) (hb : x.b = b0 ∨ x.b ∈ P) (hbo : ∀ b ∈ x.os, b ∈ P) : Play (i + 1) (insL l x) (ms ++ [y]) P where
  inv := h.inv.ins e' fun z hz hk => by have := h.dev z hz; rw [hk.1, hk.2, hd] at this; omega
  len := by rw [insL_len]; have := h.len; omega
  os z hz := (mem_put.1 hz).elim (fun e => by rw [e]; exact ho) (h.os z)
  bs z hz := (mem_put.1 hz).elim (fun e => by rw [e]; exact hb) (h.bs z)
  bo z hz := (mem_put.1 hz).elim (fun e b hb => by rw [e] at hb; exact hbo b hb) (h.bo z)
  num := h.num
  dev z hz := by
    have hc : ∀ u, cntL (insL l x) u = cntL l u + (if (x.u == u) = true then 1 else 0) := fun u => by
      rw [cntL_eq, cntL_eq]
      exact filter_put (fun x => x.u == u) l _ x
    rw [hc]
    rcases mem_put.1 hz with hz | hz
    · rw [hz, hd]; simp
    · have := h.dev z hz
      split <;> omega
theorem Play.fresh {i : Nat} {l : List Li} {ms : List Rl} {P : List Bu} (h : Play i l ms P) {u d : Int} (hn : nextD l u = ((u, d), 0)) : d = cntL l u + 1 ∧ foundL l u d = false ∧ ∀ x ∈ ms, ¬ (x.u = u ∧ x.d = d) := by
  have hd : d = cntL l u + 1 := by
    unfold nextD at hn
    split at hn
    · simp at hn
    · split at hn
      · simp at hn
      · simp at hn; exact hn.symm
  have hno : ∀ x ∈ l, ¬ (x.u = u ∧ x.d = d) := fun z hz hk => by have := h.dev z hz; rw [hk.1, hk.2, hd] at this; omega
  refine ⟨hd, not_found hno, fun y hy hk => ?_⟩
  obtain ⟨j, hj, rfl⟩ := List.mem_iff_getElem.1 hy
  obtain ⟨k, hk', e⟩ := h.inv.back hj
  have e1 : l[k].u = ms[j].u := congrArg En.u e
  have e2 : l[k].d = ms[j].d := congrArg En.d e
  exact hno _ (List.getElem_mem hk') ⟨e1.trans hk.1, e2.trans hk.2⟩
end Go.Proofs.Yteljkfihmbddaaa
