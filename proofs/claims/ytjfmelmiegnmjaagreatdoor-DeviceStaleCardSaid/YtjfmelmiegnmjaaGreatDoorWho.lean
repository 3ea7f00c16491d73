/- Whole structs: alloc, box, load, store as steps of a walk, the block and the world behind them named. No program. -/
import Derived.Test.YtjfmelmiegnmjaaGreatDoorRec
import Derived.Deep.MidRow
namespace Go.Pw
open Go.RowKit
set_option linter.all false

theorem setCells_block {b : Nat} {t : TypeId} {fr : Nat × Nat} : ∀ (vs : List Value) (o : Nat) (w : World) (cur : Array Value), w.heap[b]? = some (.cells cur t fr) → (w.setCells b o vs).heap[b]? = some (.cells (setL cur.toList o vs).toArray t fr)
  | [], _, _, cur, h => by simpa [setL, World.setCells] using h
  | v :: r, o, w, cur, h => by
    have := setCells_block r (o + 1) _ _ (set_at (i := o) h v)
    simpa [setL, World.setCells] using this
theorem setL_all (xs vs : List Value) (h : vs.length = xs.length) : setL xs 0 vs = vs := by
  have := setL_app xs [] vs [] h
  simpa using this
theorem block_there {w : World} {b : Nat} {cs : Array Value} {t : TypeId} (h : w.heap[b]? = some (.cells cs t (0, 0))) (o m : Nat) (hm : o + m ≤ cs.size) : w.there b o m := fun j hj => ⟨by
  rw [Pw.cell_in h, Array.getElem?_eq_getElem (by omega)]; rfl, free_in h _⟩
theorem block_range {w : World} {b : Nat} {cs : List Value} {t : TypeId} {fr : Nat × Nat} (h : w.heap[b]? = some (.cells cs.toArray t fr)) : w.rangeAt b 0 cs := fun j v hj => by
  rw [Pw.cell_in h, Nat.zero_add]; simpa using hj

theorem wpList_alloc_new {P : Program} {ops : Array Oper} {rest : List Oper} {op : Oper} {a : Act} {w : World} {Q : Exit → Act → World → Prop} (hgd : op.guard = none) (T : TypeId) (ho : op.op = .alloc T) (z : Value)
    (hz : ∀ w, (zeroValue T).run P w = .ok z w)
    (h : ∀ X w', Only w w' [] → w.heap.size ≤ X → w'.heap[X]? = some (.cells z.cells T (0, 0)) → wpList P ops Q rest (a.put op.dst (.pointer (some ⟨X, 0, none⟩))) w') : wpList P ops Q (op :: rest) a w :=
  wpList_plain hgd fun _ hK => by
    unfold Oper.wp execOp
    simp only [ho, Instr.alloc, Sem.run_bind, hz, Result.andThen_ok]
    exact hK _ _ (h w.heap.size _ (Only.alloc w (.cells z.cells T) []) (Nat.le_refl _) (heap_alloc_new w _))

theorem wpList_box_new {P : Program} {ops : Array Oper} {rest : List Oper} {op : Oper} {a : Act} {w : World} {Q : Exit → Act → World → Prop} (hgd : op.guard = none) (T : TypeId) (x : Operand) (ho : op.op = .box T x) (z : Value) (hx : a.eval x = z)
    (h : ∀ X w', Only w w' [] → w.heap.size ≤ X → w'.heap[X]? = some (.cells z.cells T (0, 0)) → wpList P ops Q rest (a.put op.dst (.pointer (some ⟨X, 0, none⟩))) w') : wpList P ops Q (op :: rest) a w :=
  wpList_plain hgd fun _ hK => by
    unfold Oper.wp execOp
    simp only [ho, hx, Instr.box, Sem.run_bind, Result.andThen_ok]
    exact hK _ _ (h w.heap.size _ (Only.alloc w (.cells z.cells T) []) (Nat.le_refl _) (heap_alloc_new w _))

/-- A whole struct is loaded from a block of its own. -/
theorem wpList_load_blk {P : Program} {ops : Array Oper} {rest : List Oper} {op : Oper} {a : Act} {w : World} {Q : Exit → Act → World → Prop} (hgd : op.guard = none) (ty : TypeId) (x : Operand) (ho : op.op = .load ty x)
    (b : Nat) (hx : a.eval x = .pointer (some ⟨b, 0, none⟩)) (cs : List Value) (d : TypeDesc) {t : TypeId} {fr : Nat × Nat} (hc : w.heap[b]? = some (.cells cs.toArray t fr))
    (hu : P.underlying ty = some d) (hd : d.isRow = true) (hi : (P.info? ty).map (·.size) = some cs.length)
    (h : wpList P ops Q rest (a.put op.dst (.agg cs.toArray)) w) : wpList P ops Q (op :: rest) a w :=
  wpList_load_mid hgd ty x ho b 0 hx cs d (block_range hc) hu hd hi h

/-- A whole struct is stored into a block of its own. -/
theorem wpList_store_blk {P : Program} {ops : Array Oper} {rest : List Oper} {op : Oper} {a : Act} {w : World} {Q : Exit → Act → World → Prop} (hgd : op.guard = none) (ty : TypeId) (x y : Operand) (ho : op.op = .store ty x y)
    (b : Nat) (cells : List Value) (hx : a.eval x = .pointer (some ⟨b, 0, none⟩)) (hy : a.eval y = .agg cells.toArray) {old : Array Value} {t : TypeId} (hc : w.heap[b]? = some (.cells old t (0, 0)))
    (hs : old.size = cells.length) (hi : (P.info? ty).map (·.size) = some cells.length) (h1 : cells.toArray.all (·.oneCell') = true)
    (h : ∀ w', Only w w' [b] → w'.heap[b]? = some (.cells cells.toArray t (0, 0)) → wpList P ops Q rest (a.put op.dst undef) w') : wpList P ops Q (op :: rest) a w := by
  refine wpList_store_mid hgd ty x y ho b 0 cells.toArray hx hy (block_there hc 0 _ (by simp [hs])) (by simpa using hi) h1 ?_
  refine h _ (only_setCells _ _ _) ?_
  rw [setCells_block _ _ _ _ hc, setL_all _ _ (by simp [hs])]

/-- A whole struct is stored into a row of records: by its resource. -/
theorem wpList_store_rec {P : Program} {ops : Array Oper} {rest : List Oper} {op : Oper} {a : Act} {w w0 : World} {rs : List Res} {Q : Exit → Act → World → Prop} (hgd : op.guard = none) (ty : TypeId) (x y : Operand) (ho : op.op = .store ty x y)
    (g o e size n cap : Nat) (cells xs : List Value) (hx : a.eval x = .pointer (some ⟨g, o, none⟩)) (hy : a.eval y = .agg cells.toArray) (hs : Sep w0 w (row e size (.slice (some ⟨g, 0, none⟩) n cap) n xs :: rs))
    (ho' : o + cells.length ≤ n * size) (hi : (P.info? ty).map (·.size) = some cells.length) (h1 : cells.toArray.all (·.oneCell') = true)
    (h : ∀ w', Sep w0 w' (row e size (.slice (some ⟨g, 0, none⟩) n cap) n (setL xs o cells) :: rs) → wpList P ops Q rest (a.put op.dst undef) w') : wpList P ops Q (op :: rest) a w :=
  wpList_store_mid hgd ty x y ho g o cells.toArray hx hy (by simpa using row_there (hs.head : w.ownsRow 0 e size _ n xs) o cells.length ho') (by simpa using hi) h1 (h _ (hs.puts o cells))

theorem Sep.two_at {w0 w : World} {rs : List Res} (h : Sep w0 w rs) {i j : Nat} {r s : Res} (hi : rs[i]? = some r) (hj : rs[j]? = some s) (hne : i ≠ j) : ∀ k ∈ r.fp, k ∉ s.fp := by
  have hp := List.pairwise_iff_getElem.1 h.apart
  obtain ⟨hi', rfl⟩ := List.getElem?_eq_some_iff.1 hi
  obtain ⟨hj', rfl⟩ := List.getElem?_eq_some_iff.1 hj
  intro k hk hk'
  by_cases hlt : i < j
  · exact hp i j hi' hj' hlt k hk hk'
  · exact hp j i hj' hi' (by omega) k hk' hk
/-- Some of the first n, in any order, and the rest. -/
theorem Sep.sel {w0 w : World} {rs : List Res} (h : Sep w0 w rs) (n : Nat) (idx : List Nat) (hn : idx.Nodup ∧ ∀ i ∈ idx, i < n := by decide) : Sep w0 w (idx.filterMap (fun i => rs[i]?) ++ rs.drop n) := by
  have hm : ∀ r ∈ idx.filterMap (fun i => rs[i]?) ++ rs.drop n, r ∈ rs := fun r hr => by
    rcases List.mem_append.1 hr with hr | hr
    · obtain ⟨i, _, hi⟩ := List.mem_filterMap.1 hr
      exact List.mem_of_getElem? hi
    · exact List.mem_of_mem_drop hr
  refine ⟨h.only, fun r hr => h.ok r (hm r hr), fun r hr => h.new r (hm r hr), ?_⟩
  rw [List.pairwise_append]
  refine ⟨?_, h.apart.drop, fun a ha b hb => ?_⟩
  · rw [List.pairwise_filterMap]
    exact hn.1.imp (fun hne r hr s hs => h.two_at hr hs hne)
  · obtain ⟨i, hi, hr⟩ := List.mem_filterMap.1 ha
    obtain ⟨j, hj, rfl⟩ := List.mem_iff_getElem.1 hb
    have := hn.2 i hi
    refine h.two_at hr (List.getElem?_eq_getElem (by rw [List.length_drop] at hj; omega : n + j < rs.length)) (by omega) |> fun q => ?_
    rw [List.getElem_drop]
    exact q

/-- A store of known cells, as one step of a region that draws. -/
theorem step_store_cells {P : Program} {ops : Array Oper} {o : Oper} {a : Act} {w : World} {K : Act → World → Prop} {Q : Exit → Act → World → Prop} {E : Prop}
    (hg : o.guard = none) (ty : TypeId) (x y : Operand) (hop : o.op = .store ty x y) (b off : Nat) (v : Value) (cells : List Value) (hv : v.cells = cells.toArray)
    (hx : a.eval x = .pointer (some ⟨b, off, none⟩)) (hy : a.eval y = v) (ht : w.there b off cells.length) (hi : (P.info? ty).map (·.size) = some cells.length) (h1 : ∀ u ∈ cells, u.oneCell' = true)
    (hK : K (a.put o.dst undef) (w.setCells b off cells)) : if Region.wanted o (yielded ops a.tmps) = true then Oper.wp P o a w K Q else E := by
  have hw : Region.wanted o (yielded ops a.tmps) = true := by simp [Region.wanted, hg]
  rw [if_pos hw]
  have hst := run_storeCells_cells (P := P) b off cells 0 w (fun j hj => (ht j hj).1) (fun j hj => (ht j hj).2) h1
  have hsv : (storeVar ty ⟨b, off, none⟩ v).run P w = .ok () (w.setCells b off cells) := by
    cases hq : P.info? ty with
    | none => simp [hq] at hi
    | some i =>
      have hs : cells.length = i.size := by simp [hq] at hi; omega
      simp only [Nat.add_zero] at hst
      simp [storeVar, sizeOf, typeInfo, hq, hv, hs, hst]
  unfold Oper.wp execOp
  simp only [hop, hx, hy, Instr.storeAt, Instr.sureAddr, Sem.run_bind, Sem.run_pure, Result.andThen_ok, hsv]
  exact hK
/-- .. into a row of records, by its resource. -/
theorem step_store_rec {P : Program} {ops : Array Oper} {o : Oper} {a : Act} {w w0 : World} {rs : List Res} {K : Act → World → Prop} {Q : Exit → Act → World → Prop} {E : Prop}
    (hg : o.guard = none) (ty : TypeId) (x y : Operand) (hop : o.op = .store ty x y) (g off : Nat) (v : Value) (cells : List Value) (hv : v.cells = cells.toArray) (e size n cap : Nat) (xs : List Value)
    (hx : a.eval x = .pointer (some ⟨g, off, none⟩)) (hy : a.eval y = v) (hs : Sep w0 w (row e size (.slice (some ⟨g, 0, none⟩) n cap) n xs :: rs)) (ho' : off + cells.length ≤ n * size) (hi : (P.info? ty).map (·.size) = some cells.length) (h1 : ∀ u ∈ cells, u.oneCell' = true)
    (hK : ∀ w', Only w w' [g] → Sep w0 w' (row e size (.slice (some ⟨g, 0, none⟩) n cap) n (setL xs off cells) :: rs) → K (a.put o.dst undef) w') : if Region.wanted o (yielded ops a.tmps) = true then Oper.wp P o a w K Q else E :=
  step_store_cells hg ty x y hop g off v cells hv hx hy (row_there (hs.head : w.ownsRow 0 e size _ n xs) off cells.length ho') hi h1 (hK _ (only_setCells _ _ _) (hs.puts off cells))
/-- .. into a block of its own, by its resource. -/
theorem step_store_blk {P : Program} {ops : Array Oper} {o : Oper} {a : Act} {w w0 : World} {rs : List Res} {K : Act → World → Prop} {Q : Exit → Act → World → Prop} {E : Prop}
    (hg : o.guard = none) (ty : TypeId) (x y : Operand) (hop : o.op = .store ty x y) (B off : Nat) (v : Value) (cells old : List Value) (T : TypeId) (hv : v.cells = cells.toArray)
    (hx : a.eval x = .pointer (some ⟨B, off, none⟩)) (hy : a.eval y = v) (hs : Sep w0 w (blk B old T :: rs)) (ho' : off + cells.length ≤ old.length) (hi : (P.info? ty).map (·.size) = some cells.length) (h1 : ∀ u ∈ cells, u.oneCell' = true)
    (hK : ∀ w', Only w w' [B] → Sep w0 w' (blk B (setL old off cells) T :: rs) → K (a.put o.dst undef) w') : if Region.wanted o (yielded ops a.tmps) = true then Oper.wp P o a w K Q else E :=
  step_store_cells hg ty x y hop B off v cells hv hx hy (block_there (show w.heap[B]? = _ from hs.head) off cells.length (by simpa using ho')) hi h1
    (hK _ (only_setCells _ _ _) (hs.step (L := [B]) (only_setCells _ _ _) (fun k hk => .inl (by simpa [blk] using hk)) (setCells_block _ _ _ _ (show w.heap[B]? = _ from hs.head)) (fun k hk => .inl (by simpa [blk] using hk))))
end Go.Pw
