/- Several texts in one: Cpy, Many, Aps. -/
import Derived.Test.YtdlbkdnpbcpjfaaPa
import Derived.Laws.IdiomCopy
import Derived.Lib.Overlaps
import Derived.Lib.AppendZerosOnto
set_option linter.unusedSimpArgs false
set_option linter.unusedVariables false
/- copy() between rows of elements of k cells; a row's spare room; what an insertion leaves. No program. -/
namespace Go.Pw
open Go.RowKit
set_option linter.unusedVariables false

theorem run_copy_k {P : Program} (w : World) (dT sT ty elem : TypeId) (k : Nat) (b o dLen dCap : Nat) (a : Addr) (sLen sCap : Nat) (cs : List Value) (m : Nat)
    (hu : P.underlying dT = some (.slice elem)) (hs : (P.info? elem).map (·.size) = some k) (hm : Nat.min sLen dLen = m) (hn : cs.length = m * k)
    (hsrc : ∀ j v, cs[j]? = some v → w.cell? (a.add j) = some v) (hc : ∀ j, j < cs.length → (w.cell? ⟨b, o + j, none⟩).isSome = true) (hf : ∀ j, j < cs.length → w.frozen? ⟨b, o + j, none⟩ = false) (h1 : ∀ v ∈ cs, v.oneCell' = true) :
    (Builtin.copy_ #[dT, sT] ty #[.slice (some ⟨b, o, none⟩) dLen dCap, .slice (some a) sLen sCap]).run P w = .ok (goInt m) (w.setCells b o cs) := by
  have hl := run_loadCells_list (P := P) w a cs hsrc
  have hst := run_storeCells_cells (P := P) b o cs 0 w (by simpa using hc) (by simpa using hf) h1
  cases hq : P.info? elem with
  | none => simp [hq] at hs
  | some i =>
    have hi : i.size = k := by simpa [hq] using hs
    simp [Builtin.copy_, run_underlying hu, Builtin.lenOf, Builtin.firstCells, sizeOf, typeInfo, hq, hi, hm, ← hn, hl, hst]

theorem wp_copy_k {P : Program} (w : World) {o : Oper} {a : Act} {K : Act → World → Prop} {Q : Exit → Act → World → Prop} (d s : Operand) (t t' : TypeId)
    (ho : o.op = .call { callee := .builtin .copy, args := #[d, s], argTypes := #[t, t'] }) (v u : Value) (hd : a.eval d = v) (hs : a.eval s = u) {v' : Value} {w' : World}
    (hr : (Builtin.copy_ #[t, t'] o.type #[v, u]).run P w = .ok v' w') (h : K (a.put o.dst v') w') : o.wp P a w K Q := by
  unfold Oper.wp execOp
  simp only [ho, resolve, invoke, builtin, Sem.run_bind, Sem.run_pure, Result.andThen_ok, List.map_toArray, List.map_cons, List.map_nil, hd, hs, hr]
  exact h
theorem wpList_copy_k {P : Program} (w : World) {ops : Array Oper} {rest : List Oper} {o : Oper} {a : Act} {Q : Exit → Act → World → Prop} (hgd : o.guard = none) (d s : Operand) (t t' : TypeId)
    (ho : o.op = .call { callee := .builtin .copy, args := #[d, s], argTypes := #[t, t'] }) (v u : Value) (hd : a.eval d = v) (hs : a.eval s = u) {v' : Value} {w' : World}
    (hr : (Builtin.copy_ #[t, t'] o.type #[v, u]).run P w = .ok v' w') (h : wpList P ops Q rest (a.put o.dst v') w') : wpList P ops Q (o :: rest) a w :=
  wpList_plain hgd fun _ hK => wp_copy_k w d s t t' ho v u hd hs hr (hK _ _ h)
theorem step_copy_k {P : Program} {ops : Array Oper} {o : Oper} {a : Act} {w : World} {K : Act → World → Prop} {Q : Exit → Act → World → Prop} {E : Prop}
    (hg : o.guard = none) (d x : Operand) (dT sT : TypeId) (hop : o.op = Op.call { callee := Callee.builtin Builtin.copy, args := #[d, x], argTypes := #[dT, sT] })
    (v u : Value) (hd : a.eval d = v) (hx : a.eval x = u) {v' : Value} {w' : World} (hr : (Builtin.copy_ #[dT, sT] o.type #[v, u]).run P w = .ok v' w') (hK : K (a.put o.dst v') w') :
    if Region.wanted o (yielded ops a.tmps) = true then Oper.wp P o a w K Q else E := by
  have hw : Region.wanted o (yielded ops a.tmps) = true := by simp [Region.wanted, hg]
  rw [if_pos hw]
  unfold Oper.wp
  simp [execOp, hop, resolve, invoke, builtin, hd, hx, hr, Result.andThen]
  exact hK

theorem wpList_append_run2 {P : Program} {w : World} {ops : Array Oper} {rest : List Oper} {o : Oper} {a : Act} {Q : Exit → Act → World → Prop} (hgd : o.guard = none) (s x : Operand) (t t' : TypeId)
    (ho : o.op = .call { callee := .builtin .append, args := #[s, x], argTypes := #[t, t'] }) (v xv : Value) (hs : a.eval s = v) (hx : a.eval x = xv) {v' : Value} {w' : World}
    (hrun : (Builtin.append_ #[t, t'] o.type #[v, xv]).run P w = .ok v' w') (h : wpList P ops Q rest (a.put o.dst v') w') : wpList P ops Q (o :: rest) a w :=
  wpList_plain hgd fun _ hK => by
    unfold Oper.wp
    simp [execOp, ho, resolve, invoke, builtin, hs, hx, hrun, Result.andThen]
    exact hK _ _ h

/-- A row with its spare room. -/
theorem row_more {w : World} {e size n cap g : Nat} {xs : List Value} (h : w.ownsRow 0 e size (.slice (some ⟨g, 0, none⟩) n cap) n xs) (m : Nat) (hm : n + m ≤ cap) : ∃ junk, junk.length = m * size ∧ w.ownsRow 0 e size (.slice (some ⟨g, 0, none⟩) (n + m) cap) (n + m) (xs ++ junk) := by
  rcases h.2 with ⟨h', _⟩ | ⟨g', cap', cur, h', hb, hg, hnc, hcm, hcs, htake⟩
  · simp at h'
  · simp only [Value.slice.injEq, Option.some.injEq, Addr.mk.injEq, and_true, true_and] at h'
    obtain ⟨rfl, rfl⟩ := h'
    have hle : n * size + m * size ≤ cap * size := by rw [← Nat.add_mul]; exact Nat.mul_le_mul_right _ hm
    have hjl : ((cur.toList.drop (n * size)).take (m * size)).length = m * size := by
      rw [List.length_take, List.length_drop, Array.length_toList, hcs]; omega
    refine ⟨(cur.toList.drop (n * size)).take (m * size), hjl, by rw [List.length_append, h.1, hjl, Nat.add_mul], .inr ⟨g, cap, cur, rfl, hb, hg, hm, hcm, hcs, ?_⟩⟩
    rw [Nat.add_mul, List.take_add, htake]
theorem row_cap {w : World} {e size n cap g : Nat} {xs : List Value} (h : w.ownsRow 0 e size (.slice (some ⟨g, 0, none⟩) n cap) n xs) : n ≤ cap ∧ cap ≤ maxLen := by
  rcases h.2 with ⟨h', _⟩ | ⟨g', cap', cur, h', hb, hg, hnc, hcm, hcs, htake⟩
  · simp at h'
  · simp only [Value.slice.injEq, Option.some.injEq, Addr.mk.injEq, and_true, true_and] at h'
    obtain ⟨rfl, rfl⟩ := h'
    exact ⟨hnc, hcm⟩
theorem row_shape {w : World} {e size n cap g : Nat} {xs : List Value} (h : w.ownsRow 0 e size (.slice (some ⟨g, 0, none⟩) n cap) n xs) (hc : 0 < cap) (hs : 0 < size) : ∃ t k, w.shape? g = some (t, k) ∧ k ≠ 0 := by
  rcases h.2 with ⟨h', _⟩ | ⟨g', cap', cur, h', hb, hg, hnc, hcm, hcs, htake⟩
  · simp at h'
  · simp only [Value.slice.injEq, Option.some.injEq, Addr.mk.injEq, and_true, true_and] at h'
    obtain ⟨rfl, rfl⟩ := h'
    refine ⟨e, cur.size, by simp [World.shape?, hg], ?_⟩
    rw [hcs]
    exact Nat.mul_ne_zero (by omega) (by omega)
theorem cells_shape {w : World} {b : Nat} {cs : Array Value} {t : TypeId} {fr : Nat × Nat} (h : w.heap[b]? = some (.cells cs t fr)) : w.shape? b = some (t, cs.size) := by simp [World.shape?, h]

/-- What an insertion leaves. -/
theorem setL_ins (L A B vs : List Value) (i k : Nat) (hk : vs.length = k) (hi : A.length = i * k) (hL : L.length = i * k + k + B.length) (hA : L.take (i * k) = A) :
    setL (setL L (i * k) vs) ((i + 1) * k) B = A ++ vs ++ B ∧ setL (setL L ((i + 1) * k) B) (i * k) vs = A ++ vs ++ B := by
  obtain ⟨H, T, hH, hT, rfl⟩ : ∃ H T, H.length = k ∧ T.length = B.length ∧ L = A ++ H ++ T := by
    refine ⟨(L.drop (i * k)).take k, (L.drop (i * k)).drop k, ?_, ?_, ?_⟩
    · rw [List.length_take, List.length_drop]; omega
    · rw [List.length_drop, List.length_drop]; omega
    · rw [List.append_assoc, List.take_append_drop, ← hA, List.take_append_drop]
  have e1 := setL_app H A vs T (by rw [hH, hk])
  have e2 := setL_app T (A ++ vs) B [] (by rw [hT])
  have e3 := setL_app T (A ++ H) B [] (by rw [hT])
  have e4 := setL_app H A vs B (by rw [hH, hk])
  rw [hi] at e1 e4
  rw [List.length_append, hi, hk, show i * k + k = (i + 1) * k by rw [Nat.add_mul]; omega] at e2
  rw [List.length_append, hi, hH, show i * k + k = (i + 1) * k by rw [Nat.add_mul]; omega] at e3
  simp only [List.append_nil] at e2 e3
  exact ⟨by rw [e1, e2], by rw [e3, e4]⟩
theorem only_setCells2 {w : World} {g o o' : Nat} {vs vs' : List Value} : Only w ((w.drew.setCells g o vs).setCells g o' vs') [g] :=
  ((Only.drew _ _).trans (only_setCells _ _ _)).trans (only_setCells _ _ _)
end Go.Pw

/- Many resources in a list: spliced, picked, put back, one more. No program. -/
namespace Go.Pw
open Go.RowKit
set_option linter.unusedVariables false

theorem Sep.splice {w0 w : World} {L rs : List Res} (h : Sep w0 w (many L :: rs)) : Sep w0 w (L ++ rs) := by
  have hp := List.pairwise_cons.1 h.apart
  have hm : (many L).ok w := h.head
  refine ⟨h.only, fun r hr => ?_, fun r hr k hk => ?_, List.pairwise_append.2 ⟨hm.2, hp.2, fun a ha b hb k hk => ?_⟩⟩
  · rcases List.mem_append.1 hr with hr | hr
    · exact hm.1 r hr
    · exact h.ok r (by simp [hr])
  · rcases List.mem_append.1 hr with hr | hr
    · exact h.new (many L) (by simp) k (List.mem_flatMap.2 ⟨r, hr, hk⟩)
    · exact h.new r (by simp [hr]) k hk
  · exact hp.1 b hb k (List.mem_flatMap.2 ⟨a, ha, hk⟩)
theorem Sep.gather {w0 w : World} {L rs : List Res} (h : Sep w0 w (L ++ rs)) : Sep w0 w (many L :: rs) := by
  have hp := List.pairwise_append.1 h.apart
  refine ⟨h.only, fun r hr => ?_, fun r hr k hk => ?_, List.pairwise_cons.2 ⟨fun r hr k hk => ?_, hp.2.1⟩⟩
  · rcases List.mem_cons.1 hr with rfl | hr
    · exact ⟨fun r hr => h.ok r (by simp [hr]), hp.1⟩
    · exact h.ok r (by simp [hr])
  · rcases List.mem_cons.1 hr with rfl | hr
    · obtain ⟨a, ha, hk⟩ := List.mem_flatMap.1 hk
      exact h.new a (by simp [ha]) k hk
    · exact h.new r (by simp [hr]) k hk
  · obtain ⟨a, ha, hk⟩ := List.mem_flatMap.1 hk
    exact hp.2.2 a ha r hr k hk
theorem Sep.many_perm {w0 w : World} {L L' rs : List Res} (h : Sep w0 w (many L :: rs)) (hp : L.Perm L') : Sep w0 w (many L' :: rs) :=
  (h.splice.perm (hp.append_right rs)).gather
/-- The k-th is taken out. -/
theorem Sep.pick {w0 w : World} {L rs : List Res} (h : Sep w0 w (many L :: rs)) (k : Nat) {r : Res} (hk : L[k]? = some r) : Sep w0 w (r :: many (L.eraseIdx k) :: rs) := by
  obtain ⟨hk', rfl⟩ := List.getElem?_eq_some_iff.1 hk
  have := h.splice.perm ((up_perm L k hk').append_right rs)
  have h2 : Sep w0 w (L.eraseIdx k ++ (L[k] :: rs)) := this.perm (by
    rw [List.cons_append]
    exact List.perm_middle.symm)
  exact h2.gather.perm (List.Perm.swap _ _ _)
theorem set_perm {α : Type} : ∀ (L : List α) (k : Nat) (r : α), k < L.length → (r :: L.eraseIdx k).Perm (L.set k r)
  | [], _, _, h => by simp at h
  | a :: L, 0, r, _ => List.Perm.refl _
  | a :: L, k + 1, r, h => (List.Perm.swap _ _ _).trans ((set_perm L k r (by simpa using h)).cons a)
/-- .. and put back, another one. -/
theorem Sep.putk {w0 w : World} {L rs : List Res} {r : Res} (k : Nat) (hk : k < L.length) (h : Sep w0 w (r :: many (L.eraseIdx k) :: rs)) : Sep w0 w (many (L.set k r) :: rs) := by
  have h2 := (h.perm (List.Perm.swap _ _ _)).splice
  have h3 : Sep w0 w ((r :: L.eraseIdx k) ++ rs) := h2.perm List.perm_middle
  exact (h3.perm ((set_perm L k r hk).append_right rs)).gather
/-- One more, at a place. -/
theorem Sep.many_ins {w0 w : World} {L rs : List Res} {r : Res} (k : Nat) (h : Sep w0 w (r :: many L :: rs)) : Sep w0 w (many (L.take k ++ r :: L.drop k) :: rs) := by
  have h2 := (h.perm (List.Perm.swap _ _ _)).splice
  have h3 : Sep w0 w ((r :: L) ++ rs) := h2.perm List.perm_middle
  refine (h3.perm (List.Perm.append_right rs ?_)).gather
  refine (List.Perm.trans ?_ List.perm_middle.symm)
  rw [List.take_append_drop]
end Go.Pw

/- append onto a row that is a resource. No program. -/
namespace Go.Pw
open Go.RowKit
set_option linter.unusedVariables false

theorem wpList_append_sep {P : Program} {w w0 : World} {rs : List Res} {ops : Array Oper} {rest : List Oper} {o : Oper} {a : Act} {Q : Exit → Act → World → Prop} (hgd : o.guard = none) (s x : Operand) (t : TypeId)
    (ho : o.op = .call { callee := .builtin .append, args := #[s, x], argTypes := #[t, t] })
    (e : TypeId) (i : TypeInfo) (z : Value) (size bytes : Nat) (ht : P.underlying t = some (.slice e)) (hi : P.info? e = some i) (hz : i.zero = some z)
    (hsize : i.size = size) (hby : i.bytes = bytes) (hzs : z.cells.size = size) (hsz : 0 < size)
    (v : Value) (n : Nat) (xs : List Value) (hs : a.eval s = v) (hsep : Sep w0 w (row e size v n xs :: rs))
    (xv : Value) (m : Nat) (news : List Value) (hx : a.eval x = xv) (hsrc : Src w xv size m news) (h1 : ∀ u ∈ news, u.oneCell' = true)
    (h63 : n + m ≤ maxLen) (hbytes : (n + m) * bytes ≤ 140737488355328)
    (h : ∀ ao c w', Only w w' v.ownBlock.toList → Sep w0 w' (row e size (.slice ao (n + m) c) (n + m) (xs ++ news) :: rs) → wpList P ops Q rest (a.put o.dst (.slice ao (n + m) c)) w') : wpList P ops Q (o :: rest) a w :=
  wpList_append_src hgd s x t ho e i z size bytes ht hi hz hsize hby hzs hsz v n xs hs hsep.head xv m news hx hsrc h1 h63 hbytes fun v' w' g1 g2 g3 => by
    obtain ⟨ao, c, rfl⟩ := own_slice g1
    exact h ao c w' (Only.grown g2 (fun k hk => by simp [hk])) (hsep.app g1 g2 g3)

theorem step_append_sep {P : Program} {ops : Array Oper} {o : Oper} {a : Act} {w w0 : World} {rs : List Res} {K : Act → World → Prop} {Q : Exit → Act → World → Prop} {E : Prop}
    (hg : o.guard = none) (s x : Operand) (t : TypeId) (hop : o.op = Op.call { callee := Callee.builtin Builtin.append, args := #[s, x], argTypes := #[t, t] })
    (e : TypeId) (i : TypeInfo) (z : Value) (size bytes : Nat) (ht : P.underlying t = some (.slice e)) (hi : P.info? e = some i) (hz : i.zero = some z)
    (hsize : i.size = size) (hby : i.bytes = bytes) (hzs : z.cells.size = size) (hsz : 0 < size)
    (v : Value) (n : Nat) (xs : List Value) (hs : a.eval s = v) (hsep : Sep w0 w (row e size v n xs :: rs))
    (xv : Value) (m : Nat) (news : List Value) (hx : a.eval x = xv) (hsrc : Src w xv size m news) (h1 : ∀ u ∈ news, u.oneCell' = true)
    (h63 : n + m ≤ maxLen) (hbytes : (n + m) * bytes ≤ 140737488355328)
    (hK : ∀ ao c w', Only w w' v.ownBlock.toList → Sep w0 w' (row e size (.slice ao (n + m) c) (n + m) (xs ++ news) :: rs) → K (a.put o.dst (.slice ao (n + m) c)) w') :
    if Region.wanted o (yielded ops a.tmps) = true then Oper.wp P o a w K Q else E :=
  step_append_src hg s x t hop e i z size bytes ht hi hz hsize hby hzs hsz v n xs hs hsep.head xv m news hx hsrc h1 h63 hbytes fun v' w' g1 g2 g3 => by
    obtain ⟨ao, c, rfl⟩ := own_slice g1
    exact hK ao c w' (Only.grown g2 (fun k hk => by simp [hk])) (hsep.app g1 g2 g3)
/-- .. that is the k-th of many; behind it the others' places. -/
theorem fl_set_same {α : Type} {enc : α → List Value} {l : List α} {k : Nat} {x y : α} (h : enc x = enc y) : fl enc (l.set k x) = fl enc (l.set k y) := by
  induction l generalizing k with
  | nil => rfl
  | cons a l ih =>
    cases k with
    | zero => simp only [List.set_cons_zero, fl_cons, h]
    | succ k => simp only [List.set_cons_succ, fl_cons, ih]

/-- A device's two cells. -/
def wc (p : Int × Int) : List Value := [.int .i64 p.1, .int .i64 p.2]
theorem wc_len (p : Int × Int) : (wc p).length = 2 := rfl
theorem wc_one (p : Int × Int) : ∀ u ∈ wc p, u.oneCell' = true := by simp [wc, Value.oneCell']

theorem foldl_setL (cs : List Value) : ∀ (n : Nat) (z : Array Value), (cs.zipIdx n).foldl (fun (a : Array Value) (x : Value × Nat) => a.setIfInBounds (0 + x.2) x.1) z = (setL z.toList n cs).toArray := by
  induction cs with
  | nil => intro n z; simp [setL]
  | cons c cs ih =>
    intro n z
    rw [List.zipIdx_cons, List.foldl_cons, ih]
    simp [setL]
theorem run_buildSlice_one {P : Program} (w : World) (t e : TypeId) (i : TypeInfo) (z : Value) (cs : List Value) (ht : P.underlying t = some (.slice e)) (hi : P.info? e = some i) (hz : i.zero = some z) (hs : i.size = cs.length) (hzs : z.cells.size = cs.length) (h0 : 0 < cs.length) (hb : cs.length ≤ 1000) :
    (Instr.buildSlice t 1 #[(0, .agg cs.toArray)]).run P w = .ok (.slice (some ⟨w.heap.size, 0, none⟩) 1 1) (w.alloc (.cells cs.toArray e)) := by
  have hne : ¬ (cs.length = 0) := by omega
  have hb2 : ¬ (16777216 < cs.length) := by omega
  have hfold : Array.foldl (fun (a : Array Value) (x : Value × Nat) => a.setIfInBounds (0 + x.2) x.1) ((Array.range cs.length).map (z.cells[· % z.cells.size]!)) cs.toArray.zipIdx = cs.toArray := by
    rw [← Array.foldl_toList]
    have e1 : cs.toArray.zipIdx.toList = cs.zipIdx 0 := by simp
    rw [e1, foldl_setL, setL_all _ _ (by simp)]
  have hv : (Value.agg cs.toArray).cells = cs.toArray := rfl
  generalize hzc : z.cells = zc at *
  have hfill : Instr.fill (fun i => some (i * cs.length, cs.length)) ((Array.range cs.length).map (zc[· % zc.size]!)) [(0, .agg cs.toArray)] = some cs.toArray := by
    simp only [Instr.fill, hv, Nat.zero_mul]
    rw [if_neg (by simp)]
    rw [hfold]
  have hnv : ∀ cells : Array Value, (newRow e cells).run P w = .ok ⟨w.heap.size, 0, none⟩ (w.alloc (.cells cells e)) := fun cells => by simp [newRow, newObj, go_sem]; rfl
  have hzv : (zeroValue e).run P w = .ok z w := by simp [zeroValue, typeInfo, hi, hz]
  have hsz : (sizeOf e).run P w = .ok cs.length w := by simp [sizeOf, typeInfo, hi, hs]
  simp only [Instr.buildSlice, Sem.run_bind, run_underlying ht, Result.andThen_ok, hsz, Nat.one_mul]
  rw [if_neg (by omega), if_neg hne]
  simp only [Sem.run_bind, hzv, Result.andThen_ok, Sem.run_pure, hzc, hfill, hnv]
theorem step_buildSlice_one {P : Program} {ops : Array Oper} {o : Oper} {a : Act} {w : World} {K : Act → World → Prop} {Q : Exit → Act → World → Prop} {E : Prop}
    (hg : o.guard = none) (t : TypeId) (x : Operand) (hop : o.op = .buildSlice t 1 #[(0, x)]) (e : TypeId) (i : TypeInfo) (z : Value) (cs : List Value) (hx : a.eval x = .agg cs.toArray)
    (ht : P.underlying t = some (.slice e)) (hi : P.info? e = some i) (hz : i.zero = some z) (hs : i.size = cs.length) (hzs : z.cells.size = cs.length) (h0 : 0 < cs.length) (hb : cs.length ≤ 1000)
    (hK : ∀ X w', Only w w' [] → w.heap.size ≤ X → w'.heap[X]? = some (.cells cs.toArray e (0, 0)) → K (a.put o.dst (.slice (some ⟨X, 0, none⟩) 1 1)) w') :
    if Region.wanted o (yielded ops a.tmps) = true then Oper.wp P o a w K Q else E := by
  have hw : Region.wanted o (yielded ops a.tmps) = true := by simp [Region.wanted, hg]
  rw [if_pos hw]
  unfold Oper.wp execOp
  have hr := run_buildSlice_one (P := P) w t e i z cs ht hi hz hs hzs h0 hb
  simp only [hop, List.map_toArray, List.map_cons, List.map_nil, hx, Sem.run_bind, hr, Result.andThen_ok]
  exact hK _ _ (Only.alloc _ _ _) (Nat.le_refl _) (heap_alloc_new w _)
theorem step_buildSlice_got {P : Program} {ops : Array Oper} {o : Oper} {a : Act} {w : World} {K : Act → World → Prop} {Q : Exit → Act → World → Prop} {E : Prop}
    (hw : Region.wanted o (yielded ops a.tmps) = true) (t : TypeId) (x : Operand) (hop : o.op = .buildSlice t 1 #[(0, x)]) (e : TypeId) (i : TypeInfo) (z : Value) (cs : List Value) (hx : a.eval x = .agg cs.toArray)
    (ht : P.underlying t = some (.slice e)) (hi : P.info? e = some i) (hz : i.zero = some z) (hs : i.size = cs.length) (hzs : z.cells.size = cs.length) (h0 : 0 < cs.length) (hb : cs.length ≤ 1000)
    (hK : ∀ X w', Only w w' [] → w.heap.size ≤ X → w'.heap[X]? = some (.cells cs.toArray e (0, 0)) → K (a.put o.dst (.slice (some ⟨X, 0, none⟩) 1 1)) w') :
    if Region.wanted o (yielded ops a.tmps) = true then Oper.wp P o a w K Q else E := by
  rw [if_pos hw]
  unfold Oper.wp execOp
  have hr := run_buildSlice_one (P := P) w t e i z cs ht hi hz hs hzs h0 hb
  simp only [hop, List.map_toArray, List.map_cons, List.map_nil, hx, Sem.run_bind, hr, Result.andThen_ok]
  exact hK _ _ (Only.alloc _ _ _) (Nat.le_refl _) (heap_alloc_new w _)
theorem wpList_buildSlice_one {P : Program} {ops : Array Oper} {rest : List Oper} {o : Oper} {a : Act} {w : World} {Q : Exit → Act → World → Prop}
    (hg : o.guard = none) (t : TypeId) (x : Operand) (hop : o.op = .buildSlice t 1 #[(0, x)]) (e : TypeId) (i : TypeInfo) (z : Value) (cs : List Value) (hx : a.eval x = .agg cs.toArray)
    (ht : P.underlying t = some (.slice e)) (hi : P.info? e = some i) (hz : i.zero = some z) (hs : i.size = cs.length) (hzs : z.cells.size = cs.length) (h0 : 0 < cs.length) (hb : cs.length ≤ 1000)
    (h : ∀ X w', Only w w' [] → w.heap.size ≤ X → w'.heap[X]? = some (.cells cs.toArray e (0, 0)) → wpList P ops Q rest (a.put o.dst (.slice (some ⟨X, 0, none⟩) 1 1)) w') : wpList P ops Q (o :: rest) a w :=
  wpList_plain hg fun _ hK => by
    unfold Oper.wp execOp
    have hr := run_buildSlice_one (P := P) w t e i z cs ht hi hz hs hzs h0 hb
    simp only [hop, List.map_toArray, List.map_cons, List.map_nil, hx, Sem.run_bind, hr, Result.andThen_ok]
    exact hK _ _ (h _ _ (Only.alloc _ _ _) (Nat.le_refl _) (heap_alloc_new w _))
/-- The slice of one element in a block. -/
theorem src_blk {w : World} {X k : Nat} {cs : List Value} {t : TypeId} {fr : Nat × Nat} (h : w.heap[X]? = some (.cells cs.toArray t fr)) (hk : cs.length = 1 * k) : Src w (.slice (some ⟨X, 0, none⟩) 1 1) k 1 cs :=
  ⟨_, _, rfl, Nat.le_refl _, by decide, hk, by simp, fun b hb j u hj => by
    obtain rfl : b = ⟨X, 0, none⟩ := by simpa using hb.symm
    rw [Addr.add_lit, Pw.cell_in h, Nat.zero_add]
    simpa using hj⟩
/-- A block of n elements is a row. -/
theorem blk_row {w : World} {X n k : Nat} {cs : List Value} {t : TypeId} (h : w.heap[X]? = some (.cells cs.toArray t (0, 0))) (hk : cs.length = n * k) (hn : n ≤ maxLen) : w.ownsRow 0 t k (.slice (some ⟨X, 0, none⟩) n n) n cs :=
  ⟨hk, .inr ⟨X, n, cs.toArray, rfl, Nat.zero_le _, h, Nat.le_refl _, hn, by simpa using hk, by simp [List.take_of_length_le (Nat.le_of_eq hk)]⟩⟩
end Go.Pw

