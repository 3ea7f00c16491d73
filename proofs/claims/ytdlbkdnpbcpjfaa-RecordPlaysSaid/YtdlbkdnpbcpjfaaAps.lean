/- append onto a row that is a resource. No program. -/
import Derived.Test.YtdlbkdnpbcpjfaaMany
namespace Go.Pw
open Go.RowKit
set_option linter.unusedVariables false

theorem wpList_append_sep {P : Program} {w w0 : World} {rs : List Res} {ops : Array Oper} {rest : List Oper} {o : Oper} {a : Act} {Q : Exit → Act → World → Prop} (hgd : o.guard = none) (s x : Operand) (t : TypeId)
    (ho : o.op = .call { callee := .builtin .append, args := #[s, x], argTypes := #[t, t] })
    (e : TypeId) (i : TypeInfo) (z : Value) (size bytes : Nat) (ht : P.underlying t = some (.slice e)) (hi : P.info? e = some i) (hz : i.zero = some z)
    (hsize : i.size = size) (hby : i.bytes = bytes) (hzs : z.cells.size = size) (hsz : 0 < size)
    (v : Value) (n : Nat) (xs : List Value) (hs : a.eval s = v) (hsep : Sep w0 w (row e size v n xs :: rs))
    (xv : Value) (m : Nat) (news : List Value) (hx : a.eval x = xv) (hsrc : Src w xv size m news) (h1 : ∀ u ∈ news, u.oneCell' = true)
    (h63 : n + m ≤ maxLen) (hbytes : (n + m) * bytes ≤ 140737488355328)
    (h : ∀ ao c w', Only w w' v.ownBlock.toList → Sep w0 w' (row e size (.slice ao (n + m) c) (n + m) (xs ++ news) :: rs) → wpList P ops Q rest (a.put o.dst (.slice ao (n + m) c)) w') : wpList P ops Q (o :: rest) a w :=
  wpList_append_src hgd s x t ho e i z size bytes ht hi hz hsize hby hzs hsz v n xs hs hsep.head xv m news hx hsrc h1 h63 hbytes fun v' w' g1 g2 g3 => by
    obtain ⟨ao, c, rfl⟩ := own_slice g1
    exact h ao c w' (Only.grown g2 (fun k hk => by simp [hk])) (hsep.app g1 g2 g3)

theorem step_append_sep {P : Program} {ops : Array Oper} {o : Oper} {a : Act} {w w0 : World} {rs : List Res} {K : Act → World → Prop} {Q : Exit → Act → World → Prop} {E : Prop}
    (hg : o.guard = none) (s x : Operand) (t : TypeId) (hop : o.op = Op.call { callee := Callee.builtin Builtin.append, args := #[s, x], argTypes := #[t, t] })
    (e : TypeId) (i : TypeInfo) (z : Value) (size bytes : Nat) (ht : P.underlying t = some (.slice e)) (hi : P.info? e = some i) (hz : i.zero = some z)
    (hsize : i.size = size) (hby : i.bytes = bytes) (hzs : z.cells.size = size) (hsz : 0 < size)
    (v : Value) (n : Nat) (xs : List Value) (hs : a.eval s = v) (hsep : Sep w0 w (row e size v n xs :: rs))
    (xv : Value) (m : Nat) (news : List Value) (hx : a.eval x = xv) (hsrc : Src w xv size m news) (h1 : ∀ u ∈ news, u.oneCell' = true)
    (h63 : n + m ≤ maxLen) (hbytes : (n + m) * bytes ≤ 140737488355328)
    (hK : ∀ ao c w', Only w w' v.ownBlock.toList → Sep w0 w' (row e size (.slice ao (n + m) c) (n + m) (xs ++ news) :: rs) → K (a.put o.dst (.slice ao (n + m) c)) w') :
    if Region.wanted o (yielded ops a.tmps) = true then Oper.wp P o a w K Q else E :=
  step_append_src hg s x t hop e i z size bytes ht hi hz hsize hby hzs hsz v n xs hs hsep.head xv m news hx hsrc h1 h63 hbytes fun v' w' g1 g2 g3 => by
    obtain ⟨ao, c, rfl⟩ := own_slice g1
    exact hK ao c w' (Only.grown g2 (fun k hk => by simp [hk])) (hsep.app g1 g2 g3)
/-- .. that is the k-th of many; behind it the others' places. -/
theorem fl_set_same {α : Type} {enc : α → List Value} {l : List α} {k : Nat} {x y : α} (h : enc x = enc y) : fl enc (l.set k x) = fl enc (l.set k y) := by
  induction l generalizing k with
  | nil => rfl
  | cons a l ih =>
    cases k with
    | zero => simp only [List.set_cons_zero, fl_cons, h]
    | succ k => simp only [List.set_cons_succ, fl_cons, ih]

/-- A device's two cells. -/
def wc (p : Int × Int) : List Value := [.int .i64 p.1, .int .i64 p.2]
theorem wc_len (p : Int × Int) : (wc p).length = 2 := rfl
theorem wc_one (p : Int × Int) : ∀ u ∈ wc p, u.oneCell' = true := by simp [wc, Value.oneCell']

theorem foldl_setL (cs : List Value) : ∀ (n : Nat) (z : Array Value), (cs.zipIdx n).foldl (fun (a : Array Value) (x : Value × Nat) => a.setIfInBounds (0 + x.2) x.1) z = (setL z.toList n cs).toArray := by
  induction cs with
  | nil => intro n z; simp [setL]
  | cons c cs ih =>
    intro n z
    rw [List.zipIdx_cons, List.foldl_cons, ih]
    simp [setL]
theorem run_buildSlice_one {P : Program} (w : World) (t e : TypeId) (i : TypeInfo) (z : Value) (cs : List Value) (ht : P.underlying t = some (.slice e)) (hi : P.info? e = some i) (hz : i.zero = some z) (hs : i.size = cs.length) (hzs : z.cells.size = cs.length) (h0 : 0 < cs.length) (hb : cs.length ≤ 1000) :
    (Instr.buildSlice t 1 #[(0, .agg cs.toArray)]).run P w = .ok (.slice (some ⟨w.heap.size, 0, none⟩) 1 1) (w.alloc (.cells cs.toArray e)) := by
  have hne : ¬ (cs.length = 0) := by omega
  have hb2 : ¬ (16777216 < cs.length) := by omega
  have hfold : Array.foldl (fun (a : Array Value) (x : Value × Nat) => a.setIfInBounds (0 + x.2) x.1) ((Array.range cs.length).map (z.cells[· % z.cells.size]!)) cs.toArray.zipIdx = cs.toArray := by
    rw [← Array.foldl_toList]
    have e1 : cs.toArray.zipIdx.toList = cs.zipIdx 0 := by simp
    rw [e1, foldl_setL, setL_all _ _ (by simp)]
  have hv : (Value.agg cs.toArray).cells = cs.toArray := rfl
  generalize hzc : z.cells = zc at *
  have hfill : Instr.fill (fun i => some (i * cs.length, cs.length)) ((Array.range cs.length).map (zc[· % zc.size]!)) [(0, .agg cs.toArray)] = some cs.toArray := by
    simp only [Instr.fill, hv, Nat.zero_mul]
    rw [if_neg (by simp)]
    rw [hfold]
  have hnv : ∀ cells : Array Value, (newRow e cells).run P w = .ok ⟨w.heap.size, 0, none⟩ (w.alloc (.cells cells e)) := fun cells => by simp [newRow, newObj, go_sem]; rfl
  have hzv : (zeroValue e).run P w = .ok z w := by simp [zeroValue, typeInfo, hi, hz]
  have hsz : (sizeOf e).run P w = .ok cs.length w := by simp [sizeOf, typeInfo, hi, hs]
  simp only [Instr.buildSlice, Sem.run_bind, run_underlying ht, Result.andThen_ok, hsz, Nat.one_mul]
  rw [if_neg (by omega), if_neg hne]
  simp only [Sem.run_bind, hzv, Result.andThen_ok, Sem.run_pure, hzc, hfill, hnv]
theorem step_buildSlice_one {P : Program} {ops : Array Oper} {o : Oper} {a : Act} {w : World} {K : Act → World → Prop} {Q : Exit → Act → World → Prop} {E : Prop}
    (hg : o.guard = none) (t : TypeId) (x : Operand) (hop : o.op = .buildSlice t 1 #[(0, x)]) (e : TypeId) (i : TypeInfo) (z : Value) (cs : List Value) (hx : a.eval x = .agg cs.toArray)
    (ht : P.underlying t = some (.slice e)) (hi : P.info? e = some i) (hz : i.zero = some z) (hs : i.size = cs.length) (hzs : z.cells.size = cs.length) (h0 : 0 < cs.length) (hb : cs.length ≤ 1000)
    (hK : ∀ X w', Only w w' [] → w.heap.size ≤ X → w'.heap[X]? = some (.cells cs.toArray e (0, 0)) → K (a.put o.dst (.slice (some ⟨X, 0, none⟩) 1 1)) w') :
    if Region.wanted o (yielded ops a.tmps) = true then Oper.wp P o a w K Q else E := by
  have hw : Region.wanted o (yielded ops a.tmps) = true := by simp [Region.wanted, hg]
  rw [if_pos hw]
  unfold Oper.wp execOp
  have hr := run_buildSlice_one (P := P) w t e i z cs ht hi hz hs hzs h0 hb
  simp only [hop, List.map_toArray, List.map_cons, List.map_nil, hx, Sem.run_bind, hr, Result.andThen_ok]
  exact hK _ _ (Only.alloc _ _ _) (Nat.le_refl _) (heap_alloc_new w _)
theorem step_buildSlice_got {P : Program} {ops : Array Oper} {o : Oper} {a : Act} {w : World} {K : Act → World → Prop} {Q : Exit → Act → World → Prop} {E : Prop}
    (hw : Region.wanted o (yielded ops a.tmps) = true) (t : TypeId) (x : Operand) (hop : o.op = .buildSlice t 1 #[(0, x)]) (e : TypeId) (i : TypeInfo) (z : Value) (cs : List Value) (hx : a.eval x = .agg cs.toArray)
    (ht : P.underlying t = some (.slice e)) (hi : P.info? e = some i) (hz : i.zero = some z) (hs : i.size = cs.length) (hzs : z.cells.size = cs.length) (h0 : 0 < cs.length) (hb : cs.length ≤ 1000)
    (hK : ∀ X w', Only w w' [] → w.heap.size ≤ X → w'.heap[X]? = some (.cells cs.toArray e (0, 0)) → K (a.put o.dst (.slice (some ⟨X, 0, none⟩) 1 1)) w') :
    if Region.wanted o (yielded ops a.tmps) = true then Oper.wp P o a w K Q else E := by
  rw [if_pos hw]
  unfold Oper.wp execOp
  have hr := run_buildSlice_one (P := P) w t e i z cs ht hi hz hs hzs h0 hb
  simp only [hop, List.map_toArray, List.map_cons, List.map_nil, hx, Sem.run_bind, hr, Result.andThen_ok]
  exact hK _ _ (Only.alloc _ _ _) (Nat.le_refl _) (heap_alloc_new w _)
theorem wpList_buildSlice_one {P : Program} {ops : Array Oper} {rest : List Oper} {o : Oper} {a : Act} {w : World} {Q : Exit → Act → World → Prop}
    (hg : o.guard = none) (t : TypeId) (x : Operand) (hop : o.op = .buildSlice t 1 #[(0, x)]) (e : TypeId) (i : TypeInfo) (z : Value) (cs : List Value) (hx : a.eval x = .agg cs.toArray)
    (ht : P.underlying t = some (.slice e)) (hi : P.info? e = some i) (hz : i.zero = some z) (hs : i.size = cs.length) (hzs : z.cells.size = cs.length) (h0 : 0 < cs.length) (hb : cs.length ≤ 1000)
    (h : ∀ X w', Only w w' [] → w.heap.size ≤ X → w'.heap[X]? = some (.cells cs.toArray e (0, 0)) → wpList P ops Q rest (a.put o.dst (.slice (some ⟨X, 0, none⟩) 1 1)) w') : wpList P ops Q (o :: rest) a w :=
  wpList_plain hg fun _ hK => by
    unfold Oper.wp execOp
    have hr := run_buildSlice_one (P := P) w t e i z cs ht hi hz hs hzs h0 hb
    simp only [hop, List.map_toArray, List.map_cons, List.map_nil, hx, Sem.run_bind, hr, Result.andThen_ok]
    exact hK _ _ (h _ _ (Only.alloc _ _ _) (Nat.le_refl _) (heap_alloc_new w _))
/-- The slice of one element in a block. -/
theorem src_blk {w : World} {X k : Nat} {cs : List Value} {t : TypeId} {fr : Nat × Nat} (h : w.heap[X]? = some (.cells cs.toArray t fr)) (hk : cs.length = 1 * k) : Src w (.slice (some ⟨X, 0, none⟩) 1 1) k 1 cs :=
  ⟨_, _, rfl, Nat.le_refl _, by decide, hk, by simp, fun b hb j u hj => by
    obtain rfl : b = ⟨X, 0, none⟩ := by simpa using hb.symm
    rw [Addr.add_lit, Pw.cell_in h, Nat.zero_add]
    simpa using hj⟩
/-- A block of n elements is a row. -/
theorem blk_row {w : World} {X n k : Nat} {cs : List Value} {t : TypeId} (h : w.heap[X]? = some (.cells cs.toArray t (0, 0))) (hk : cs.length = n * k) (hn : n ≤ maxLen) : w.ownsRow 0 t k (.slice (some ⟨X, 0, none⟩) n n) n cs :=
  ⟨hk, .inr ⟨X, n, cs.toArray, rfl, Nat.zero_le _, h, Nat.le_refl _, hn, by simpa using hk, by simp [List.take_of_length_le (Nat.le_of_eq hk)]⟩⟩
end Go.Pw
