/- The symbolic machine and what stands on it, part Me. -/
import Derived.Deep.MidRow
import Derived.Laws.OwnMore
import Derived.Laws.BitsAllLaws
import Derived.Test.YtjfmelmiegnmjaaGreatDoorRows
import Derived.Test.YtjfmelmiegnmjaaGreatDoorXMd
set_option linter.all false
section
namespace Go.Pw
open Go.RowKit
set_option linter.all false
theorem Only.drewN (w : World) (n : Nat) (L : List Nat) : Only w (w.drewN n) L := ⟨rfl, rfl, rfl, Nat.le_refl _, fun _ _ _ => rfl⟩
structure Res where
  fp : List Nat
  ok : World → Prop
  loc : ∀ w w', (∀ k ∈ fp, w'.heap[k]? = w.heap[k]?) → ok w → ok w'
  lt : ∀ w, ok w → ∀ k ∈ fp, k < w.heap.size
structure Sep (w0 w : World) (rs : List Res) : Prop where
  only : Only w0 w []
  ok : ∀ r ∈ rs, r.ok w
  new : ∀ r ∈ rs, ∀ k ∈ r.fp, w0.heap.size ≤ k
  apart : rs.Pairwise fun a b => ∀ k ∈ a.fp, k ∉ b.fp
theorem Res.only {r : Res} {w w' : World} {L : List Nat} (h : r.ok w) (ho : Only w w' L) (hd : ∀ k ∈ r.fp, k ∉ L) : r.ok w' :=
  r.loc w w' (fun k hk => ho.block k (r.lt w h k hk) (hd k hk)) h
theorem Sep.nil (w : World) : Sep w w [] := ⟨Only.refl _ _, by simp, by simp, List.Pairwise.nil⟩
theorem Sep.perm {w0 w : World} {rs rs' : List Res} (h : Sep w0 w rs) (hp : rs.Perm rs') : Sep w0 w rs' :=
  ⟨h.only, fun r hr => h.ok r (hp.mem_iff.2 hr), fun r hr => h.new r (hp.mem_iff.2 hr), h.apart.perm hp (fun hab k hb ha => hab k ha hb)⟩
theorem Sep.head {w0 w : World} {r : Res} {rs : List Res} (h : Sep w0 w (r :: rs)) : r.ok w := h.ok r (by simp)
theorem Sep.tail {w0 w : World} {r : Res} {rs : List Res} (h : Sep w0 w (r :: rs)) : Sep w0 w rs :=
  ⟨h.only, fun x hx => h.ok x (by simp [hx]), fun x hx => h.new x (by simp [hx]), (List.pairwise_cons.1 h.apart).2⟩
theorem Sep.get {w0 w : World} {rs : List Res} (h : Sep w0 w rs) (i : Nat) {r : Res} (hr : rs[i]? = some r) : r.ok w := h.ok r (List.mem_of_getElem? hr)
theorem up_perm {α : Type} : ∀ (l : List α) (i : Nat) (h : i < l.length), l.Perm (l[i] :: l.eraseIdx i)
  | a :: l, 0, _ => List.Perm.refl _
  | a :: l, i + 1, h => by
    have := up_perm l i (by simpa using h)
    exact (this.cons a).trans (List.Perm.swap _ _ _)
theorem Sep.up {w0 w : World} {rs : List Res} (h : Sep w0 w rs) (i : Nat) (hi : i < rs.length) : Sep w0 w (rs[i] :: rs.eraseIdx i) :=
  h.perm (up_perm rs i hi)
theorem Sep.step {w0 w w' : World} {a b : Res} {rs : List Res} {L : List Nat} (h : Sep w0 w (a :: rs)) (ho : Only w w' L) (hL : ∀ k ∈ L, k ∈ a.fp ∨ w.heap.size ≤ k) (hb : b.ok w') (hf : ∀ k ∈ b.fp, k ∈ a.fp ∨ w.heap.size ≤ k) : Sep w0 w' (b :: rs) := by
  have ha : ∀ k ∈ a.fp, w0.heap.size ≤ k := h.new a (by simp)
  have hp := List.pairwise_cons.1 h.apart
  refine ⟨h.only.new ho fun k hk => ?_, fun r hr => ?_, fun r hr => ?_, List.pairwise_cons.2 ⟨fun r hr k hk hkr => ?_, hp.2⟩⟩
  · rcases hL k hk with h1 | h1
    · exact ha k h1
    · have := h.only.size; omega
  · rcases List.mem_cons.1 hr with rfl | hr
    · exact hb
    · have hk := h.ok r (by simp [hr])
      refine Res.only hk ho fun k h1 h2 => ?_
      rcases hL k h2 with h3 | h3
      · exact hp.1 r hr k h3 h1
      · have := r.lt w hk k h1; omega
  · rcases List.mem_cons.1 hr with rfl | hr
    · intro k hk
      rcases hf k hk with h1 | h1
      · exact ha k h1
      · have := h.only.size; omega
    · exact h.new r (by simp [hr])
  · rcases hf k hk with h1 | h1
    · exact hp.1 r hr k h1 hkr
    · have := r.lt w (h.ok r (by simp [hr])) k hkr; omega
theorem Sep.quiet {w0 w w' : World} {rs : List Res} (h : Sep w0 w rs) (ho : Only w w' []) : Sep w0 w' rs :=
  ⟨h.only.trans ho, fun r hr => Res.only (h.ok r hr) ho (by simp), h.new, h.apart⟩
theorem Sep.add {w0 w w' : World} {b : Res} {rs : List Res} (h : Sep w0 w rs) (ho : Only w w' []) (hb : b.ok w') (hf : ∀ k ∈ b.fp, w.heap.size ≤ k) : Sep w0 w' (b :: rs) :=
  ⟨h.only.trans ho, fun r hr => by rcases List.mem_cons.1 hr with rfl | hr; exact hb; exact Res.only (h.ok r hr) ho (by simp),
   fun r hr => by rcases List.mem_cons.1 hr with rfl | hr; exact fun k hk => Nat.le_trans h.only.size (hf k hk); exact h.new r hr,
   List.pairwise_cons.2 ⟨fun r hr k hk hkr => by have := r.lt w (h.ok r hr) k hkr; have := hf k hk; omega, h.apart⟩⟩
theorem Sep.src {w0 w : World} {rs : List Res} (h : Sep w0 w rs) {x : Value} {size m : Nat} {news : List Value} (hs : Src w0 x size m news) : Src w x size m news := hs.off h.only (fun _ _ _ => by simp)
def blk (B : Nat) (cs : List Value) (T : TypeId) : Res where
  fp := [B]
  ok w := w.heap[B]? = some (.cells cs.toArray T (0, 0))
  loc w w' h k := (h B (by simp)).trans k
  lt w h k hk := by obtain rfl : k = B := by simpa using hk
                    exact (Array.getElem?_eq_some_iff.1 h).1
def row (e size : Nat) (v : Value) (n : Nat) (xs : List Value) : Res where
  fp := v.ownBlock.toList
  ok w := w.ownsRow 0 e size v n xs
  loc w w' h k := ⟨k.1, by
    rcases k.2 with hn | ⟨g, cap, cur, rfl, hb, hg, rest⟩
    · exact .inl hn
    · exact .inr ⟨g, cap, cur, rfl, hb, (h g (by simp [Value.ownBlock])).trans hg, rest⟩⟩
  lt w h k hk := (h.lt k (by simpa using hk)).2
def two (a b : Res) : Res where
  fp := a.fp ++ b.fp
  ok w := a.ok w ∧ b.ok w ∧ ∀ k ∈ a.fp, k ∉ b.fp
  loc w w' h k := ⟨a.loc w w' (fun i hi => h i (by simp [hi])) k.1, b.loc w w' (fun i hi => h i (by simp [hi])) k.2.1, k.2.2⟩
  lt w h k hk := by
    rcases List.mem_append.1 hk with hk | hk
    · exact a.lt w h.1 k hk
    · exact b.lt w h.2.1 k hk
theorem Sep.split {w0 w : World} {a b : Res} {rs : List Res} (h : Sep w0 w (two a b :: rs)) : Sep w0 w (a :: b :: rs) := by
  have hp := List.pairwise_cons.1 h.apart
  have ht : (two a b).ok w := h.head
  refine ⟨h.only, fun r hr => ?_, fun r hr k hk => ?_, List.pairwise_cons.2 ⟨fun r hr k hk => ?_, List.pairwise_cons.2 ⟨fun r hr k hk => ?_, hp.2⟩⟩⟩
  · rcases List.mem_cons.1 hr with rfl | hr
    · exact ht.1
    · rcases List.mem_cons.1 hr with rfl | hr
      · exact ht.2.1
      · exact h.ok r (by simp [hr])
  · rcases List.mem_cons.1 hr with rfl | hr
    · exact h.new (two r b) (by simp) k (List.mem_append.2 (.inl hk))
    · rcases List.mem_cons.1 hr with rfl | hr
      · exact h.new (two a r) (by simp) k (List.mem_append.2 (.inr hk))
      · exact h.new r (by simp [hr]) k hk
  · rcases List.mem_cons.1 hr with rfl | hr
    · exact ht.2.2 k hk
    · exact hp.1 r hr k (List.mem_append.2 (.inl hk))
  · exact hp.1 r hr k (List.mem_append.2 (.inr hk))
theorem cell_two0 {w : World} {b : Nat} {u v : Value} {t : TypeId} (h : w.heap[b]? = some (.cells #[u, v] t (0, 0))) : w.cell? ⟨b, 0, none⟩ = some u := by simp [World.cell?, h]
theorem cell_two1 {w : World} {b : Nat} {u v : Value} {t : TypeId} (h : w.heap[b]? = some (.cells #[u, v] t (0, 0))) : w.cell? ⟨b, 1, none⟩ = some v := by simp [World.cell?, h]
theorem free_two {w : World} {b : Nat} {u v : Value} {t : TypeId} (h : w.heap[b]? = some (.cells #[u, v] t (0, 0))) (i : Nat) : w.frozen? ⟨b, i, none⟩ = false := by simp [World.frozen?, h]
theorem Sep.box {w0 w : World} {rs : List Res} (h : Sep w0 w rs) (cs : List Value) (T : TypeId) : Sep w0 (w.alloc (.cells cs.toArray T)) (blk w.heap.size cs T :: rs) :=
  h.add (Only.alloc _ _ _) (heap_alloc_new w _) (fun k hk => by simp [blk] at hk; omega)
theorem Sep.put {w0 w : World} {rs : List Res} {B : Nat} {cs : List Value} {T : TypeId} (h : Sep w0 w (blk B cs T :: rs)) (i : Nat) (u : Value) : Sep w0 (w.setCell ⟨B, i, none⟩ u) (blk B (cs.set i u) T :: rs) :=
  h.step (L := [B]) (Only.setCell _ _ _ _ (by simp)) (fun k hk => .inl hk) (by
    have := set_at (i := i) (show w.heap[B]? = _ from h.head) u
    simpa [blk] using this) (fun k hk => .inl hk)
theorem Sep.app {w0 w w' : World} {rs : List Res} {e size n m : Nat} {v v' : Value} {xs news : List Value} (h : Sep w0 w (row e size v n xs :: rs)) (h1 : w'.ownsRow 0 e size v' (n + m) (xs ++ news)) (h2 : w.grownBy w' v.ownBlock) (h3 : SoN w v v') : Sep w0 w' (row e size v' (n + m) (xs ++ news) :: rs) :=
  h.step (L := v.ownBlock.toList) (Only.grown h2 (fun k hk => by simp [hk])) (fun k hk => .inl hk) h1 (fun k hk => h3.toList k hk)
end Go.Pw
end

section
namespace Go.Pw
open Go.RowKit
set_option linter.all false
section
variable {α : Type} {enc : α → List Value} {k : Nat}
def setL (xs : List Value) : Nat → List Value → List Value
  | _, [] => xs
  | o, v :: r => setL (xs.set o v) (o + 1) r
theorem setL_app (xs pre : List Value) : ∀ vs suf, vs.length = xs.length → setL (pre ++ xs ++ suf) pre.length vs = pre ++ vs ++ suf := by
  induction xs generalizing pre with
  | nil => intro vs suf h; obtain rfl : vs = [] := List.eq_nil_of_length_eq_zero (by simpa using h); simp [setL]
  | cons x xs ih =>
    intro vs suf h
    cases vs with
    | nil => simp at h
    | cons v r =>
      have := ih (pre ++ [v]) r suf (by simpa using h)
      simp only [setL]
      rw [show (pre ++ x :: xs ++ suf).set pre.length v = pre ++ [v] ++ xs ++ suf by simp [List.set_append]]
      rw [List.length_append, List.length_singleton] at this
      rw [this]
      simp
end
theorem only_setCells {g : Nat} : ∀ (vs : List Value) (o : Nat) (w : World), Only w (w.setCells g o vs) [g]
  | [], _, w => Only.refl _ _
  | v :: r, o, w => (Only.setCell w ⟨g, o, none⟩ v [g] (by simp)).trans (only_setCells r (o + 1) _)
end Go.Pw
end

section
namespace Go.Pw
open Go.RowKit
set_option linter.all false
theorem setCells_block {b : Nat} {t : TypeId} {fr : Nat × Nat} : ∀ (vs : List Value) (o : Nat) (w : World) (cur : Array Value), w.heap[b]? = some (.cells cur t fr) → (w.setCells b o vs).heap[b]? = some (.cells (setL cur.toList o vs).toArray t fr)
  | [], _, _, cur, h => by simpa [setL, World.setCells] using h
  | v :: r, o, w, cur, h => by
    have := setCells_block r (o + 1) _ _ (set_at (i := o) h v)
    simpa [setL, World.setCells] using this
theorem setL_all (xs vs : List Value) (h : vs.length = xs.length) : setL xs 0 vs = vs := by
  have := setL_app xs [] vs [] h
  simpa using this
theorem block_there {w : World} {b : Nat} {cs : Array Value} {t : TypeId} (h : w.heap[b]? = some (.cells cs t (0, 0))) (o m : Nat) (hm : o + m ≤ cs.size) : w.there b o m := fun j hj => ⟨by
  rw [Pw.cell_in h, Array.getElem?_eq_getElem (by omega)]; rfl, free_in h _⟩
theorem block_range {w : World} {b : Nat} {cs : List Value} {t : TypeId} {fr : Nat × Nat} (h : w.heap[b]? = some (.cells cs.toArray t fr)) : w.rangeAt b 0 cs := fun j v hj => by
  rw [Pw.cell_in h, Nat.zero_add]; simpa using hj
theorem wpList_alloc_new {P : Program} {ops : Array Oper} {rest : List Oper} {op : Oper} {a : Act} {w : World} {Q : Exit → Act → World → Prop} (hgd : op.guard = none) (T : TypeId) (ho : op.op = .alloc T) (z : Value)
    (hz : ∀ w, (zeroValue T).run P w = .ok z w)
    (h : ∀ X w', Only w w' [] → w.heap.size ≤ X → w'.heap[X]? = some (.cells z.cells T (0, 0)) → wpList P ops Q rest (a.put op.dst (.pointer (some ⟨X, 0, none⟩))) w') : wpList P ops Q (op :: rest) a w :=
  wpList_plain hgd fun _ hK => by
    unfold Oper.wp execOp
    simp only [ho, Instr.alloc, Sem.run_bind, hz, Result.andThen_ok]
    exact hK _ _ (h w.heap.size _ (Only.alloc w (.cells z.cells T) []) (Nat.le_refl _) (heap_alloc_new w _))
theorem wpList_box_new {P : Program} {ops : Array Oper} {rest : List Oper} {op : Oper} {a : Act} {w : World} {Q : Exit → Act → World → Prop} (hgd : op.guard = none) (T : TypeId) (x : Operand) (ho : op.op = .box T x) (z : Value) (hx : a.eval x = z)
    (h : ∀ X w', Only w w' [] → w.heap.size ≤ X → w'.heap[X]? = some (.cells z.cells T (0, 0)) → wpList P ops Q rest (a.put op.dst (.pointer (some ⟨X, 0, none⟩))) w') : wpList P ops Q (op :: rest) a w :=
  wpList_plain hgd fun _ hK => by
    unfold Oper.wp execOp
    simp only [ho, hx, Instr.box, Sem.run_bind, Result.andThen_ok]
    exact hK _ _ (h w.heap.size _ (Only.alloc w (.cells z.cells T) []) (Nat.le_refl _) (heap_alloc_new w _))
theorem wpList_load_blk {P : Program} {ops : Array Oper} {rest : List Oper} {op : Oper} {a : Act} {w : World} {Q : Exit → Act → World → Prop} (hgd : op.guard = none) (ty : TypeId) (x : Operand) (ho : op.op = .load ty x)
    (b : Nat) (hx : a.eval x = .pointer (some ⟨b, 0, none⟩)) (cs : List Value) (d : TypeDesc) {t : TypeId} {fr : Nat × Nat} (hc : w.heap[b]? = some (.cells cs.toArray t fr))
    (hu : P.underlying ty = some d) (hd : d.isRow = true) (hi : (P.info? ty).map (·.size) = some cs.length)
    (h : wpList P ops Q rest (a.put op.dst (.agg cs.toArray)) w) : wpList P ops Q (op :: rest) a w :=
  wpList_load_mid hgd ty x ho b 0 hx cs d (block_range hc) hu hd hi h
theorem wpList_store_blk {P : Program} {ops : Array Oper} {rest : List Oper} {op : Oper} {a : Act} {w : World} {Q : Exit → Act → World → Prop} (hgd : op.guard = none) (ty : TypeId) (x y : Operand) (ho : op.op = .store ty x y)
    (b : Nat) (cells : List Value) (hx : a.eval x = .pointer (some ⟨b, 0, none⟩)) (hy : a.eval y = .agg cells.toArray) {old : Array Value} {t : TypeId} (hc : w.heap[b]? = some (.cells old t (0, 0)))
    (hs : old.size = cells.length) (hi : (P.info? ty).map (·.size) = some cells.length) (h1 : cells.toArray.all (·.oneCell') = true)
    (h : ∀ w', Only w w' [b] → w'.heap[b]? = some (.cells cells.toArray t (0, 0)) → wpList P ops Q rest (a.put op.dst undef) w') : wpList P ops Q (op :: rest) a w := by
  refine wpList_store_mid hgd ty x y ho b 0 cells.toArray hx hy (block_there hc 0 _ (by simp [hs])) (by simpa using hi) h1 ?_
  refine h _ (only_setCells _ _ _) ?_
  rw [setCells_block _ _ _ _ hc, setL_all _ _ (by simp [hs])]
theorem Sep.two_at {w0 w : World} {rs : List Res} (h : Sep w0 w rs) {i j : Nat} {r s : Res} (hi : rs[i]? = some r) (hj : rs[j]? = some s) (hne : i ≠ j) : ∀ k ∈ r.fp, k ∉ s.fp := by
  have hp := List.pairwise_iff_getElem.1 h.apart
  obtain ⟨hi', rfl⟩ := List.getElem?_eq_some_iff.1 hi
  obtain ⟨hj', rfl⟩ := List.getElem?_eq_some_iff.1 hj
  intro k hk hk'
  by_cases hlt : i < j
  · exact hp i j hi' hj' hlt k hk hk'
  · exact hp j i hj' hi' (by omega) k hk' hk
theorem Sep.sel {w0 w : World} {rs : List Res} (h : Sep w0 w rs) (n : Nat) (idx : List Nat) (hn : idx.Nodup ∧ ∀ i ∈ idx, i < n := by decide) : Sep w0 w (idx.filterMap (fun i => rs[i]?) ++ rs.drop n) := by
  have hm : ∀ r ∈ idx.filterMap (fun i => rs[i]?) ++ rs.drop n, r ∈ rs := fun r hr => by
    rcases List.mem_append.1 hr with hr | hr
    · obtain ⟨i, _, hi⟩ := List.mem_filterMap.1 hr
      exact List.mem_of_getElem? hi
    · exact List.mem_of_mem_drop hr
  refine ⟨h.only, fun r hr => h.ok r (hm r hr), fun r hr => h.new r (hm r hr), ?_⟩
  rw [List.pairwise_append]
  refine ⟨?_, h.apart.drop, fun a ha b hb => ?_⟩
  · rw [List.pairwise_filterMap]
    exact hn.1.imp (fun hne r hr s hs => h.two_at hr hs hne)
  · obtain ⟨i, hi, hr⟩ := List.mem_filterMap.1 ha
    obtain ⟨j, hj, rfl⟩ := List.mem_iff_getElem.1 hb
    have := hn.2 i hi
    refine h.two_at hr (List.getElem?_eq_getElem (by rw [List.length_drop] at hj; omega : n + j < rs.length)) (by omega) |> fun q => ?_
    rw [List.getElem_drop]
    exact q
end Go.Pw
end

section
set_option linter.all false
open Go Go.Sx Go.Proofs Go.RowKit
set_option linter.all false
namespace Go.Proofs.YtjfmelmiegnmjaaGreatDoor
set_option maxRecDepth 100000
def settleR (a0 a1 a2 a3 a4 : Nat) : R5 := (settleS a0 a1 a2 a3 a4).raw
def addR (a b : R5) : R5 := settleR (plusW a.a0 b.a0) (plusW a.a1 b.a1) (plusW a.a2 b.a2) (plusW a.a3 b.a3) (plusW a.a4 b.a4)
def lessR (a b : R5) : R5 := settleR (lessW a.a0 9007199254740916 b.a0) (lessW a.a1 9007199254740988 b.a1) (lessW a.a2 9007199254740988 b.a2) (lessW a.a3 9007199254740988 b.a3) (lessW a.a4 9007199254740988 b.a4)
def settleQ (x : R5) : R5 := settleR x.a0 x.a1 x.a2 x.a3 x.a4
section
variable {α : Type}
noncomputable def addK (a b : R5) (k : R5 → α) : α := woR (addR a b) k
noncomputable def subK (a b : R5) (k : R5 → α) : α := woR (settleQ b) fun c => woR (lessR a c) fun e => woR (settleQ e) k
noncomputable def mulK (a b : R5) (k : R5 → α) : α := woR (mulR a b) k
theorem addK_eq (a b : L5) (k : R5 → α) : addK a.raw b.raw k = k (addS a b).raw := by unfold addK; rw [woR_eq]; rfl
theorem subK_eq (a b : L5) (k : R5 → α) : subK a.raw b.raw k = k (subS a b).raw := by unfold subK; rw [woR_eq, woR_eq, woR_eq]; rfl
theorem mulK_eq (a b : L5) (k : R5 → α) : mulK a.raw b.raw k = k (mulS a b).raw := by unfold mulK; rw [woR_eq]; rfl
end
structure R4 where
  x : R5
  y : R5
  z : R5
  t : R5
def P4.raw (p : P4) : R4 := ⟨p.x.raw, p.y.raw, p.z.raw, p.t.raw⟩
noncomputable def sumK {α : Type} (p q : R4) (d : R5) (k : R4 → α) : α :=
  subK p.y p.x fun a1 => subK q.y q.x fun a2 => mulK a1 a2 fun a =>
  addK p.y p.x fun b1 => addK q.y q.x fun b2 => mulK b1 b2 fun b =>
  mulK p.t d fun c1 => mulK c1 q.t fun c =>
  mulK p.z q.z fun z1 => addK z1 z1 fun z =>
  subK b a fun e => subK z c fun f => addK z c fun g => addK b a fun h =>
  mulK e f fun x => mulK g h fun y => mulK f g fun w => mulK e h fun t => k ⟨x, y, w, t⟩
theorem sumK_eq {α : Type} (p q : P4) (d : L5) (k : R4 → α) : sumK p.raw q.raw d.raw k = k (sumS p q d).raw := by
  unfold sumK
  simp only [P4.raw, subK_eq, addK_eq, mulK_eq]
  rfl
noncomputable def bitL (w : Nat) (bs : List Nat) (j : Nat) : Bool := Nat.beq (Nat.mod (Nat.div (nthN bs (Nat.div j w)) (Nat.pow 2 (Nat.mod j w))) 2) 1
noncomputable def bitsR (w : Nat) (bs : List Nat) : Nat → List Bool
  | 0 => []
  | j + 1 => bitL w bs j :: bitsR w bs j
def timesGo (p : P4) (d : L5) : List Bool → P4 → P4
  | [], o => o
  | b :: l, o => timesGo p d l (match b with | true => sumS (sumS o o d) p d | false => sumS o o d)
noncomputable def timesK (p : R4) (d : R5) : List Bool → R4 → R4
  | [], o => o
  | b :: l, o => sumK o o d fun q => match b with
    | true => sumK q p d fun r => timesK p d l r
    | false => timesK p d l q
theorem timesK_eq (p : P4) (d : L5) : ∀ (l : List Bool) (o : P4), timesK p.raw d.raw l o.raw = (timesGo p d l o).raw
  | [], o => rfl
  | b :: l, o => by
    have ih := timesK_eq p d l
    unfold timesK timesGo
    rw [sumK_eq]
    cases b
    · exact ih _
    · refine (sumK_eq (sumS o o d) p d _).trans (ih _)
def origin : P4 := ⟨num5 0 (by decide), num5 1 (by decide), num5 1 (by decide), num5 0 (by decide)⟩
def curve5 : L5 := ⟨⟨929955233495203, by decide⟩, ⟨466365720129213, by decide⟩, ⟨1662059464998953, by decide⟩, ⟨2033849074728123, by decide⟩, ⟨1442794654840575, by decide⟩⟩
def zero4 : P4 := ⟨num5 0 (by decide), num5 0 (by decide), num5 0 (by decide), num5 0 (by decide)⟩
def twice5 : L5 := mulS (num5 2 (by decide)) curve5
noncomputable def timesS (p : P4) (bs : List Nat) : P4 := timesGo p twice5 (bitsR 8 bs 256) origin
theorem only_of {w w' : World} (h : OnlyB w w' (fun _ => False)) : Pw.Only w w' [] := ⟨h.os, h.tape, h.output, h.size, fun k hk _ => h.block k hk (fun x => x)⟩
theorem onlyB_of {w w' : World} (h : Pw.Only w w' []) : OnlyB w w' (fun _ => False) := ⟨h.os, h.tape, h.output, h.size, fun k hk _ => h.block k hk (by simp)⟩
theorem mul5_any (a b : L5) (W : World) : Calls Tryz.prog 294 #[a.val, b.val] W fun e W' => e = .returned (mulS a b).val ∧ Pw.Only W W' [] := by
  rw [L5.val_eq (mulS a b), mul_list]
  exact (mul_any _ a.a0.2 _ a.a1.2 _ a.a2.2 _ a.a3.2 _ a.a4.2 _ b.a0.2 _ b.a1.2 _ b.a2.2 _ b.a3.2 _ b.a4.2 W).mono fun e w' h => ⟨h.1, only_of h.2⟩
theorem origin_any (W : World) : Calls Tryz.prog 312 #[] W fun e W' => e = .returned origin.val ∧ Pw.Only W W' [] :=
  (sym_calls (E := fun _ => 0) (ro := []) okt callsOK mixed hC_good dhC_good (args := []) (us := []) (fun σ => rfl) (by kernel_rfl) (by kernel_rfl) (fun _ _ h => by cases h) (val_of (x := (xcall Tryz.prog okT hC dhC 1000 20 312 [] (st0 [] (fun _ => 0))).val) (v := .agg (u64L [0, 0, 0, 0, 0, 1, 0, 0, 0, 0, 1, 0, 0, 0, 0, 0, 0, 0, 0, 0])) (by kernel_rfl) (fun h => by cases h)) (fun σ => den_agg (u64L_den _))).mono fun e w' h => ⟨h.1, only_of h.2⟩
theorem num2_any (W : World) : Calls Tryz.prog 291 #[.int .u32 2] W fun e W' => e = .returned (num5 2 (by decide)).val ∧ Pw.Only W W' [] :=
  (sym_calls (E := fun _ => 0) (ro := []) okt callsOK mixed hC_good dhC_good (args := [.int .u32 2]) (us := [.int .u32 2]) (fun σ => rfl) (by kernel_rfl) (by kernel_rfl) (fun _ _ h => by cases h) (val_of (x := (xcall Tryz.prog okT hC dhC 1000 20 291 [.int .u32 2] (st0 [] (fun _ => 0))).val) (v := .agg (u64L [2, 0, 0, 0, 0])) (by kernel_rfl) (fun h => by cases h)) (fun σ => den_agg (u64L_den _))).mono fun e w' h => ⟨h.1, only_of h.2⟩
theorem curve_any (W : World) : Calls Tryz.prog 313 #[] W fun e W' => e = .returned curve5.val ∧ Pw.Only W W' [] := (const_any curve_run W).mono fun e w' h => ⟨h.1, only_of h.2⟩
theorem sum5_any (p q : P4) (d : L5) (W : World) : Calls Tryz.prog 314 #[p.val, q.val, d.val] W fun e W' => e = .returned (sumS p q d).val ∧ Pw.Only W W' [] := (sum_any p q d W).mono fun e w' h => ⟨h.1, only_of h.2⟩
def P4.cs (p : P4) : List Value := p.x.val.cells.toList ++ (p.y.val.cells.toList ++ (p.z.val.cells.toList ++ p.t.val.cells.toList))
theorem P4.cs_one (p : P4) : p.cs.toArray.all (·.oneCell') = true := by rw [← Array.all_toList]; rfl
def L5.cs (x : L5) : List Value := x.val.cells.toList
theorem L5.cs_one (x : L5) : x.cs.toArray.all (·.oneCell') = true := by rw [← Array.all_toList]; rfl
def ns (bs : List Nat) : List Value := bs.map fun (n : Nat) => Value.int .u8 n
theorem bit_and8 : ∀ c : Fin 256, (bits BinOp.and IntKind.u8 ((c.1 : Nat) : Int) 1 == 1) = Nat.beq (Nat.mod c.1 2) 1 := by decide +kernel
theorem nthN_of {l : List Nat} {i b : Nat} (h : l[i]? = some b) : nthN l i = b := by
  unfold nthN
  rw [nthL_eq, h]
  rfl
theorem bit8 {bs : List Nat} {j b : Nat} (h : bs[j / 8]? = some b) (hb : b < 256) : (bits BinOp.and IntKind.u8 ((b : Int) / 2 ^ (j % 8)) 1 == 1) = bitL 8 bs j := by
  have h1 := bit_and8 ⟨b / 2 ^ (j % 8), Nat.lt_of_le_of_lt (Nat.div_le_self _ _) hb⟩
  have e : (((b / 2 ^ (j % 8) : Nat)) : Int) = (b : Int) / 2 ^ (j % 8) := by
    rw [Int.natCast_ediv, Int.natCast_pow]
    rfl
  rw [← e]
  refine h1.trans ?_
  unfold bitL
  rw [show Nat.div j 8 = j / 8 from rfl, nthN_of h]
  rfl
theorem results_cell {P : Program} {fn : Func} {a t : Nat} (h : fn.results = #[.cell a t]) (tmps : Array Value) {b : Nat} (ha : tmps.getD a undef = .pointer (some ⟨b, 0, none⟩)) (cs : List Value) (d : TypeDesc) {w : World} {T : TypeId} {fr : Nat × Nat} (hc : w.heap[b]? = some (.cells cs.toArray T fr))
    (hu : P.underlying t = some d) (hd : d.isRow = true) (hi : (P.info? t).map (·.size) = some cs.length) : (results fn tmps).run P w = .ok (.agg cs.toArray) w := by
  have hl := run_loadVar_mid (P := P) w b 0 t cs d (Pw.block_range hc) hu hd hi
  have ha2 : tmps[a]?.getD undef = .pointer (some ⟨b, 0, none⟩) := by simpa using ha
  simp [results, h, ha2, asAddr, Sem.run_bind, hl]
open Go.Pw in
set_option maxHeartbeats 1600000 in
theorem times_gen (p o z : P4) (n2 c5 d2 z5 : L5) (R : P4) (bs : List Nat) (hl : bs.length = 32) (hb : ∀ x ∈ bs, x < 256)
    (hOr : ∀ W, Calls Tryz.prog 312 #[] W fun e W' => e = .returned o.val ∧ Pw.Only W W' [])
    (hNm : ∀ W, Calls Tryz.prog 291 #[.int .u32 2] W fun e W' => e = .returned n2.val ∧ Pw.Only W W' [])
    (hCv : ∀ W, Calls Tryz.prog 313 #[] W fun e W' => e = .returned c5.val ∧ Pw.Only W W' [])
    (hMl : ∀ W, Calls Tryz.prog 294 #[n2.val, c5.val] W fun e W' => e = .returned d2.val ∧ Pw.Only W W' [])
    (hz : ∀ w, (zeroValue 401).run Tryz.prog w = .ok z.val w) (hz5 : ∀ w, (zeroValue 399).run Tryz.prog w = .ok z5.val w)
    (HR : Hid (R = timesGo p d2 (bitsR 8 bs 256) o)) (w : World) :
    Calls Tryz.prog 275 #[p.val, .agg (bs.map fun (n : Nat) => Value.int .u8 n).toArray] w fun e w' => e = .returned R.val ∧ Pw.Only w w' [] := by
  go_enter Tryz.func275, Tryz.ntmps275
  go_wp2_with (first
    | (refine wpList_box_new rfl 401 _ rfl p.val rfl ?_; intro Pb w1 o1 g1 h1)
    | (refine wpList_box_new rfl 404 _ rfl (.agg (bs.map fun (n : Nat) => Value.int .u8 n).toArray) rfl ?_; intro Nb w2 o2 g2 h2)
    | (refine wpList_alloc_new rfl 401 rfl z.val hz ?_; intro Rb w3 o3 g3 h3))
  refine (hOr _).mono ?_
  rintro e w4 ⟨rfl, o4⟩
  go_wp2_with fail
  refine (hNm _).mono ?_
  rintro e w5 ⟨rfl, o5⟩
  go_wp2_with fail
  refine (hCv _).mono ?_
  rintro e w6 ⟨rfl, o6⟩
  go_wp2_with fail
  refine (hMl _).mono ?_
  rintro e w7 ⟨rfl, o7⟩
  have s1 : Sep w w1 [blk Pb p.cs 401] := (Sep.nil w).add o1 h1 (fun k hk => by simp [blk] at hk; omega)
  have s2 : Sep w w2 [blk Nb (ns bs) 404, blk Pb p.cs 401] := s1.add o2 h2 (fun k hk => by simp [blk] at hk; omega)
  have s3 : Sep w w3 [blk Rb z.cs 401, blk Nb (ns bs) 404, blk Pb p.cs 401] := s2.add o3 h3 (fun k hk => by simp [blk] at hk; omega)
  have s7 := (((s3.quiet o4).quiet o5).quiet o6).quiet o7
  clear s1 s2 s3 o1 o2 o3 o4 o5 o6 o7 h1 h2 h3 g1 g2 g3
  go_wp2_with (first
    | (refine wpList_alloc_new rfl 401 rfl z.val hz ?_; intro Ob w8 o8 g8 h8
       have s8 : Sep w w8 [blk Ob z.cs 401, blk Rb z.cs 401, blk Nb (ns bs) 404, blk Pb p.cs 401] := s7.add o8 h8 (fun k hk => by simp [blk] at hk; omega))
    | (refine wpList_alloc_new rfl 399 rfl z5.val hz5 ?_; intro Db w9 o9 g9 h9
       have s9 : Sep w w9 [blk Db z5.cs 399, blk Ob z.cs 401, blk Rb z.cs 401, blk Nb (ns bs) 404, blk Pb p.cs 401] := s8.add o9 h9 (fun k hk => by simp [blk] at hk; omega)
       have hO := (s9.sel 2 [1, 0]).head
       clear s7 s8 o8 o9 g8 g9 h8 h9)
    | (refine wpList_store_blk rfl 401 _ _ rfl Ob o.cs rfl rfl hO rfl (by kernel_rfl) o.cs_one ?_; intro wA oA hA
       have sA : Sep w wA [blk Ob o.cs 401, blk Db z5.cs 399, blk Rb z.cs 401, blk Nb (ns bs) 404, blk Pb p.cs 401] := (s9.sel 2 [1, 0]).step (L := [Ob]) oA (fun k hk => .inl (by simpa [blk] using hk)) hA (fun k hk => .inl (by simpa [blk] using hk))
       have hD := (sA.sel 2 [1, 0]).head
       clear s9 hO oA hA)
    | (refine wpList_store_blk rfl 399 _ _ rfl Db d2.cs rfl rfl hD rfl (by kernel_rfl) d2.cs_one ?_; intro wB oB hB
       have sB : Sep w wB [blk Db d2.cs 399, blk Ob o.cs 401, blk Rb z.cs 401, blk Nb (ns bs) 404, blk Pb p.cs 401] := (sA.sel 2 [1, 0]).step (L := [Db]) oB (fun k hk => .inl (by simpa [blk] using hk)) hB (fun k hk => .inl (by simpa [blk] using hk))
       clear sA hD oB hB))
  go_loopw [7] (fun i wr => ∃ (j : Nat) (acc : P4), i = .int .i64 ((j : Int) - 1) ∧ j ≤ 256 ∧ Sep w wr [blk Ob acc.cs 401, blk Db d2.cs 399, blk Rb z.cs 401, blk Nb (ns bs) 404, blk Pb p.cs 401] ∧ Hid (R = timesGo p d2 (bitsR 8 bs j) acc)) (fun i _ => (intOf i + 1).toNat)
  case atStart => exact ⟨256, o, rfl, by omega, sB.sel 2 [1, 0], HR⟩
  case round =>
    clear sB HR
    obtain ⟨j, acc, rfl, hj, hs, hr⟩ := hrel
    have hO := hs.head
    rcases j with _ | j
    · rw [show ((0 : Nat) : Int) - 1 = -1 from rfl]
      have hRb := (hs.sel 3 [2, 0, 1]).head
      go_wp2_with (first
        | (refine wpList_load_blk rfl 401 _ rfl Ob rfl acc.cs _ hO Tryz.underlying401 (by rfl) (by kernel_rfl) ?_)
        | (refine wpList_store_blk rfl 401 _ _ rfl Rb acc.cs rfl rfl hRb rfl (by kernel_rfl) acc.cs_one ?_; intro wE oE hE
           have sE : Sep w wE [blk Rb acc.cs 401, blk Ob acc.cs 401, blk Db d2.cs 399, blk Nb (ns bs) 404, blk Pb p.cs 401] := (hs.sel 3 [2, 0, 1]).step (L := [Rb]) oE (fun k hk => .inl (by simpa [blk] using hk)) hE (fun k hk => .inl (by simpa [blk] using hk))))
      have hr0 := hr.out
      clear hr hs hO hRb hz hz5
      refine bodyPost_ret (results_cell Tryz.results275 _ (b := Rb) rfl acc.cs _ hE Tryz.underlying401 (by rfl) (by kernel_rfl)) rfl ?_
      exact ⟨by rw [hr0]; rfl, sE.only⟩
    · rw [show ((j + 1 : Nat) : Int) - 1 = (j : Int) by omega]
      have hDh := (hs.sel 2 [1, 0]).head
      have hNh := (hs.sel 4 [3, 0, 1, 2]).head
      have hPh := (hs.sel 5 [4, 0, 1, 2, 3]).head
      have hlt : j / 8 < bs.length := by omega
      obtain ⟨b, hbj⟩ : ∃ b, bs[j / 8]? = some b := ⟨_, List.getElem?_eq_getElem hlt⟩
      have hb2 : b < 256 := hb b (List.mem_of_getElem? hbj)
      go_wp2_with (first
        | (refine wpList_load_blk rfl 401 _ rfl Ob rfl acc.cs _ hO Tryz.underlying401 (by rfl) (by kernel_rfl) ?_)
        | (refine wpList_load_blk rfl 399 _ rfl Db rfl d2.cs _ hDh Tryz.underlying399 (by rfl) (by kernel_rfl) ?_))
      refine (sum5_any acc acc d2 _).mono ?_
      rintro e wF ⟨rfl, oF⟩
      have sF := hs.quiet oF
      have hOF := sF.head
      have hcd := bit8 hbj hb2
      generalize hQ : sumS acc acc d2 = q at *
      cases hbit : bitL 8 bs j with
      | false =>
        rw [hbit] at hcd
        go_wp2_with (first
          | (refine wpList_store_blk rfl 401 _ _ rfl Ob q.cs rfl rfl hOF rfl (by kernel_rfl) q.cs_one ?_; intro wE oE hE
             have sE : Sep w wE [blk Ob q.cs 401, blk Db d2.cs 399, blk Rb z.cs 401, blk Nb (ns bs) 404, blk Pb p.cs 401] := sF.step (L := [Ob]) oE (fun k hk => .inl (by simpa [blk] using hk)) hE (fun k hk => .inl (by simpa [blk] using hk))
             have hx := (sE.sel 4 [3, 0, 1, 2]).head
             have hcb : wE.cell? ⟨Nb, j / 8, none⟩ = some (.int .u8 (b : Int)) := by rw [Pw.cell_in hx]; simp [ns, hbj]
             clear hx))
        go_roundw
        case rel => exact ⟨j, q, rfl, by omega, sE, by
          show R = _
          rw [hr.out]
          show timesGo p d2 (bitL 8 bs j :: bitsR 8 bs j) acc = _
          rw [hbit, ← hQ]
          rfl⟩
        case measure => simp [intOf]
      | true =>
        rw [hbit] at hcd
        go_wp2_with (first
          | (refine wpList_store_blk rfl 401 _ _ rfl Ob q.cs rfl rfl hOF rfl (by kernel_rfl) q.cs_one ?_; intro wE oE hE
             have sE : Sep w wE [blk Ob q.cs 401, blk Db d2.cs 399, blk Rb z.cs 401, blk Nb (ns bs) 404, blk Pb p.cs 401] := sF.step (L := [Ob]) oE (fun k hk => .inl (by simpa [blk] using hk)) hE (fun k hk => .inl (by simpa [blk] using hk))
             have hx := (sE.sel 4 [3, 0, 1, 2]).head
             have hcb : wE.cell? ⟨Nb, j / 8, none⟩ = some (.int .u8 (b : Int)) := by rw [Pw.cell_in hx]; simp [ns, hbj]
             have hD2 := (sE.sel 2 [1, 0]).head
             have hP2 := (sE.sel 5 [4, 0, 1, 2, 3]).head
             clear hx)
          | (refine wpList_load_blk rfl 401 _ rfl Ob rfl q.cs _ hE Tryz.underlying401 (by rfl) (by kernel_rfl) ?_)
          | (refine wpList_load_blk rfl 401 _ rfl Pb rfl p.cs _ hP2 Tryz.underlying401 (by rfl) (by kernel_rfl) ?_)
          | (refine wpList_load_blk rfl 399 _ rfl Db rfl d2.cs _ hD2 Tryz.underlying399 (by rfl) (by kernel_rfl) ?_))
        refine (sum5_any q p d2 _).mono ?_
        rintro e wG ⟨rfl, oG⟩
        have sG := sE.quiet oG
        have hOG := sG.head
        generalize hQ2 : sumS q p d2 = q2 at *
        clear hcb hcd hE hD2 hP2 hOF
        go_wp2_with (first
          | (refine wpList_store_blk rfl 401 _ _ rfl Ob q2.cs rfl rfl hOG rfl (by kernel_rfl) q2.cs_one ?_; intro wH oH hH
             have sH : Sep w wH [blk Ob q2.cs 401, blk Db d2.cs 399, blk Rb z.cs 401, blk Nb (ns bs) 404, blk Pb p.cs 401] := sG.step (L := [Ob]) oH (fun k hk => .inl (by simpa [blk] using hk)) hH (fun k hk => .inl (by simpa [blk] using hk))))
        go_roundw
        case rel => exact ⟨j, q2, rfl, by omega, sH, by
          show R = _
          rw [hr.out]
          show timesGo p d2 (bitL 8 bs j :: bitsR 8 bs j) acc = _
          rw [hbit, ← hQ2, ← hQ]
          rfl⟩
        case measure => simp [intOf]
theorem times_any (p : P4) (bs : List Nat) (hl : bs.length = 32) (hb : ∀ x ∈ bs, x < 256) (w : World) :
    Calls Tryz.prog 275 #[p.val, .agg (bs.map fun (n : Nat) => Value.int .u8 n).toArray] w fun e w' => e = .returned (timesS p bs).val ∧ Pw.Only w w' [] :=
  times_gen p origin zero4 (num5 2 (by decide)) curve5 twice5 (num5 0 (by decide)) (timesS p bs) bs hl hb origin_any num2_any curve_any (mul5_any _ _) (fun w => by kernel_rfl) (fun w => by kernel_rfl) (Lib.hid rfl) w
noncomputable def R4.avs (p : R4) : List AV := p.x.avs ++ (p.y.avs ++ (p.z.avs ++ p.t.avs))
theorem R5.avs_denL {σ : Env} (x : L5) : denL σ x.raw.avs = some x.val.cells.toList := by
  have h := R5.avs_den (σ := σ) x.raw
  simp only [den] at h
  split at h
  · rename_i l hl
    rw [hl]
    have h2 := Option.some.inj h
    injection h2 with h2
    have : l = x.val.cells.toList := by
      rw [show l = l.toArray.toList from (by simp), h2]
      rfl
    rw [this]
  · cases h
theorem R4.avs_den {σ : Env} (p : P4) : den σ (.agg p.raw.avs) = some p.val := by
  simp only [den, R4.avs, P4.raw]
  rw [denL_append (R5.avs_denL p.x) (denL_append (R5.avs_denL p.y) (denL_append (R5.avs_denL p.z) (R5.avs_denL p.t)))]
  rfl
noncomputable def gTimes : List AV → Option AV
  | [x, .agg l] => match pt4 x, byteL l with
    | some p, some bs => bif Nat.beq (lenL bs) 32 && Bool.not p.1 then some (.agg (timesK p.2.raw twice5.raw (bitsR 8 bs 256) origin.raw).avs) else none
    | _, _ => none
  | _ => none
theorem times_fn : fnOf Tryz.prog 275 = some (ntOf Tryz.prog 275, bodyOf Tryz.prog 275, resultsOf Tryz.prog 275) := by kernel_rfl
theorem times_good : HkGood Tryz.prog (pureHook 275 gTimes) := by
  obtain ⟨fn, h1, _, h3, _⟩ := fnOf_ok times_fn
  refine fHook_good ⟨fn, _, h1, h3⟩ fun args v σ us w hg hd => ?_
  unfold gTimes at hg
  split at hg
  · rename_i x l
    split at hg
    · rename_i p bs hp hbs
      cases hc : (Nat.beq (lenL bs) 32 && Bool.not p.1) with
      | false => rw [hc] at hg; cases hg
      | true =>
        rw [hc] at hg
        obtain rfl := Option.some.inj hg
        have hl := nbeq (and3 hc).1
        rw [lenL_eq2] at hl
        obtain ⟨u1, l1, rfl, k1, hd⟩ := denL_cons hd
        obtain ⟨u2, l2, rfl, k2, hd⟩ := denL_cons hd
        obtain rfl := denL_nil hd
        obtain rfl := pt4_den hp k1
        simp only [den] at k2
        split at k2
        · rename_i us hus
          obtain rfl := Option.some.inj k2
          obtain ⟨rfl, hb, _⟩ := byteL_den hbs hus
          refine ⟨(timesS p.2 bs).val, ?_, (times_any p.2 bs hl hb w).mono fun e w' h => ⟨h.1, onlyB_of h.2⟩⟩
          rw [timesK_eq]
          exact R4.avs_den _
        · cases k2
    · cases hg
  · cases hg
end Go.Proofs.YtjfmelmiegnmjaaGreatDoor
open Go Go.Sx Go.Proofs Go.RowKit
set_option linter.all false
namespace Go.Proofs.YtjfmelmiegnmjaaGreatDoor
set_option maxRecDepth 100000
def numGo (b : List Nat) : List Bool → List Nat → List Nat
  | [], o => o
  | t :: l, o => numGo b l (match t with | true => addS8 nA (addS8 nA o o) b | false => addS8 nA o o)
noncomputable def wo8 {α : Type} (l : List Nat) (k : List Nat → α) : α := match l with
  | [a0, a1, a2, a3, a4, a5, a6, a7] => wo a0 fun a0 => wo a1 fun a1 => wo a2 fun a2 => wo a3 fun a3 => wo a4 fun a4 => wo a5 fun a5 => wo a6 fun a6 => wo a7 fun a7 => k [a0, a1, a2, a3, a4, a5, a6, a7]
  | l => k l
theorem wo8_eq {α : Type} (l : List Nat) (k : List Nat → α) : wo8 l k = k l := by
  unfold wo8
  split
  · simp only [wo_eq]
  · rfl
noncomputable def addF8 {α : Type} (a b : List Nat) (k : List Nat → α) : α := wo8 (sumG nA 0 a b) fun s => match ltL (rev8 s) (rev8 ordL) with
  | true => k s
  | false => wo8 (difG nA 0 s ordL) k
theorem addF8_eq {α : Type} (a b : List Nat) (k : List Nat → α) : addF8 a b k = k (addS8 nA a b) := by
  unfold addF8 addS8
  rw [wo8_eq]
  cases h : ltL (rev8 (sumG nA 0 a b)) (rev8 ordL)
  · rw [if_neg (by simp)]
    exact wo8_eq _ _
  · rw [if_pos rfl]
noncomputable def numK (b : List Nat) : List Bool → List Nat → List Nat
  | [], o => o
  | t :: l, o => addF8 o o fun q => match t with
    | true => addF8 q b fun r => numK b l r
    | false => numK b l q
theorem numK_eq (b : List Nat) : ∀ (l : List Bool) (o : List Nat), numK b l o = numGo b l o
  | [], o => rfl
  | t :: l, o => by
    show (addF8 o o fun q => match t with
      | true => addF8 q b fun r => numK b l r
      | false => numK b l q) = _
    rw [addF8_eq]
    cases t
    · exact numK_eq b l _
    · show (addF8 (addS8 nA o o) b fun r => numK b l r) = _
      rw [addF8_eq]
      exact numK_eq b l _
def Eight (l : List Nat) : Prop := l.length = 8 ∧ ∀ n ∈ l, n < um .u32
theorem Eight.ex {l : List Nat} (h : Eight l) : ∃ a0 a1 a2 a3 a4 a5 a6 a7, l = [a0, a1, a2, a3, a4, a5, a6, a7] := by
  obtain ⟨h, _⟩ := h
  match l, h with
  | [a0, a1, a2, a3, a4, a5, a6, a7], _ => exact ⟨a0, a1, a2, a3, a4, a5, a6, a7, rfl⟩
theorem sumG_ok : ∀ (c : Nat) (a b : List Nat), a.length = b.length → (sumG nA c a b).length = a.length ∧ ∀ n ∈ sumG nA c a b, n < um .u32
  | c, [], [], _ => ⟨rfl, fun n h => by cases h⟩
  | c, a :: xs, b :: ys, h => by
    have h : xs.length = ys.length := by simpa using h
    refine ⟨congrArg Nat.succ (sumG_ok _ xs ys h).1, fun n hn => ?_⟩
    rcases List.mem_cons.1 hn with rfl | hn
    · exact Nat.mod_lt _ (by decide)
    · exact (sumG_ok _ xs ys h).2 n hn
theorem difG_ok : ∀ (c : Nat) (a b : List Nat), a.length = b.length → (difG nA c a b).length = a.length ∧ ∀ n ∈ difG nA c a b, n < um .u32
  | c, [], [], _ => ⟨rfl, fun n h => by cases h⟩
  | c, a :: xs, b :: ys, h => by
    have h : xs.length = ys.length := by simpa using h
    refine ⟨congrArg Nat.succ (difG_ok _ xs ys h).1, fun n hn => ?_⟩
    rcases List.mem_cons.1 hn with rfl | hn
    · exact Nat.mod_lt _ (by decide)
    · exact (difG_ok _ xs ys h).2 n hn
theorem Eight.add {a b : List Nat} (ha : Eight a) (hb : Eight b) : Eight (addS8 nA a b) := by
  have h1 := sumG_ok 0 a b (ha.1.trans hb.1.symm)
  have e1 : Eight (sumG nA 0 a b) := ⟨h1.1.trans ha.1, h1.2⟩
  unfold addS8
  split
  · exact e1
  · have h2 := difG_ok 0 (sumG nA 0 a b) ordL (e1.1.trans rfl)
    exact ⟨h2.1.trans e1.1, h2.2⟩
def zeroL : List Nat := [0, 0, 0, 0, 0, 0, 0, 0]
def oneL : List Nat := [1, 0, 0, 0, 0, 0, 0, 0]
theorem zero_8 : Eight zeroL := ⟨rfl, by decide⟩
theorem one_8 : Eight oneL := ⟨rfl, by decide⟩
def v8 (l : List Nat) : Value := .agg (l.map fun (n : Nat) => Value.int .u32 n).toArray
theorem add8_v {a b : List Nat} (ha : Eight a) (hb : Eight b) (W : World) : Calls Tryz.prog 281 #[v8 a, v8 b] W fun e W' => e = .returned (v8 (addS8 nA a b)) ∧ Pw.Only W W' [] :=
  (add8_hold a b ha.ex hb.ex ha.2 hb.2 W).mono fun e w' h => ⟨h.1, only_of h.2⟩
def c8 (l : List Nat) : List Value := l.map fun (n : Nat) => Value.int .u32 n
theorem c8_len {l : List Nat} (h : Eight l) : (c8 l).length = 8 := by simp [c8, h.1]
theorem c8_one (l : List Nat) : (c8 l).toArray.all (·.oneCell') = true := by
  rw [← Array.all_toList, List.all_eq_true]
  intro v hv
  obtain ⟨n, _, rfl⟩ := List.mem_map.1 hv
  rfl
theorem wpList_build_eq {P : Program} {ops : Array Oper} {rest : List Oper} {o : Oper} {a : Act} {w : World} {Q : Exit → Act → World → Prop} (hg : o.guard = none) (t : TypeId) (parts : Array (Nat × Operand)) (ho : o.op = .build t parts) (cells : Array Value)
    (hf : P.built t (parts.map fun (i, x) => (i, a.eval x)).toList = some cells) (h : wpList P ops Q rest (a.put o.dst (.agg cells)) w) : wpList P ops Q (o :: rest) a w :=
  wpList_build hg t parts ho (by rw [hf]; rfl) (by rw [hf]; exact h)
theorem and_1 (c : Nat) (h : c < 4294967296) : (bits BinOp.and IntKind.u32 (c : Int) 1 == 1) = Nat.beq (Nat.mod c 2) 1 := by
  have e : bits BinOp.and IntKind.u32 (c : Int) 1 = ((c % 2 : Nat) : Int) := by
    have h2 := u32_and_nat c 1 h (by decide)
    have h3 := Nat.and_two_pow_sub_one_eq_mod c 1
    rw [show (2 ^ 1 - 1 : Nat) = 1 from rfl] at h3
    rw [h3] at h2
    exact h2
  rw [e]
  show (((c % 2 : Nat) : Int) == 1) = Nat.beq (c % 2) 1
  rcases Nat.mod_two_eq_zero_or_one c with h | h <;> rw [h] <;> rfl
theorem bit32 {bs : List Nat} {j b : Nat} (h : bs[j / 32]? = some b) (hb : b < um .u32) : (bits BinOp.and IntKind.u32 ((b : Int) / 2 ^ (j % 32)) 1 == 1) = bitL 32 bs j := by
  have h1 := and_1 (b / 2 ^ (j % 32)) (Nat.lt_of_le_of_lt (Nat.div_le_self _ _) hb)
  have e : (((b / 2 ^ (j % 32) : Nat)) : Int) = (b : Int) / 2 ^ (j % 32) := by
    rw [Int.natCast_ediv, Int.natCast_pow]
    rfl
  rw [← e]
  refine h1.trans ?_
  unfold bitL
  rw [show Nat.div j 32 = j / 32 from rfl, nthN_of h]
  rfl
open Go.Pw in
set_option maxHeartbeats 1600000 in
theorem prod_gen (a b z : List Nat) (ha : Eight a) (hb8 : Eight b) (hz8 : Eight z) (hz : ∀ w, (zeroValue 395).run Tryz.prog w = .ok (v8 z) w) (R : List Nat) (HR : Hid (R = numGo b (bitsR 32 a 256) z)) (w : World) :
    Calls Tryz.prog 279 #[v8 a, v8 b] w fun e w' => e = .returned (v8 R) ∧ Pw.Only w w' [] := by
  go_enter Tryz.func279, Tryz.ntmps279
  go_wp2_with (first
    | (have hq := s3; refine wpList_alloc_new rfl 395 rfl (v8 z) hz ?_; intro Ob w4 o4 g4 h4
       have s4 : Sep w w4 [blk Ob (c8 z) 395, blk Rb (c8 z) 395, blk Bb (c8 b) 395, blk Ab (c8 a) 395] := s3.add o4 h4 (fun k hk => by simp [blk] at hk; omega))
    | (have hq := s2; refine wpList_alloc_new rfl 395 rfl (v8 z) hz ?_; intro Rb w3 o3 g3 h3
       have s3 : Sep w w3 [blk Rb (c8 z) 395, blk Bb (c8 b) 395, blk Ab (c8 a) 395] := s2.add o3 h3 (fun k hk => by simp [blk] at hk; omega))
    | (have hq := s1; refine wpList_box_new rfl 395 _ rfl (v8 b) rfl ?_; intro Bb w2 o2 g2 h2
       have s2 : Sep w w2 [blk Bb (c8 b) 395, blk Ab (c8 a) 395] := s1.add o2 h2 (fun k hk => by simp [blk] at hk; omega))
    | (refine wpList_box_new rfl 395 _ rfl (v8 a) rfl ?_; intro Ab w1 o1 g1 h1
       have s1 : Sep w w1 [blk Ab (c8 a) 395] := (Sep.nil w).add o1 h1 (fun k hk => by simp [blk] at hk; omega)))
  go_loopw [6] (fun i wr => ∃ (j : Nat) (acc : List Nat), i = .int .i64 ((j : Int) - 1) ∧ j ≤ 256 ∧ Eight acc ∧ Sep w wr [blk Ob (c8 acc) 395, blk Rb (c8 z) 395, blk Bb (c8 b) 395, blk Ab (c8 a) 395] ∧ Hid (R = numGo b (bitsR 32 a j) acc)) (fun i _ => (intOf i + 1).toNat)
  case atStart => exact ⟨256, z, rfl, by omega, hz8, s4, HR⟩
  case round =>
    clear s4 s3 HR s2 s1
    obtain ⟨j, acc, rfl, hj, ha8, hs, hr⟩ := hrel
    have hO := hs.head
    rcases j with _ | j
    · rw [show ((0 : Nat) : Int) - 1 = -1 from rfl]
      have hRb := (hs.sel 2 [1, 0]).head
      go_wp2_with (first
        | (refine wpList_load_blk rfl 395 _ rfl Ob rfl (c8 acc) _ hO Tryz.underlying395 (by rfl) (by rw [c8_len ha8]; kernel_rfl) ?_)
        | (refine wpList_store_blk rfl 395 _ _ rfl Rb (c8 acc) rfl rfl hRb (by simp [c8_len hz8, c8_len ha8]) (by rw [c8_len ha8]; kernel_rfl) (c8_one _) ?_; intro wE oE hE
           have sE : Sep w wE [blk Rb (c8 acc) 395, blk Ob (c8 acc) 395, blk Bb (c8 b) 395, blk Ab (c8 a) 395] := (hs.sel 2 [1, 0]).step (L := [Rb]) oE (fun k hk => .inl (by simpa [blk] using hk)) hE (fun k hk => .inl (by simpa [blk] using hk))))
      have hr0 := hr.out
      clear hr hs hO hRb hz
      refine bodyPost_ret (results_cell Tryz.results279 _ (b := Rb) rfl (c8 acc) _ hE Tryz.underlying395 (by rfl) (by rw [c8_len ha8]; kernel_rfl)) rfl ?_
      exact ⟨by rw [hr0]; rfl, sE.only⟩
    · rw [show ((j + 1 : Nat) : Int) - 1 = (j : Int) by omega]
      have hlt : j / 32 < a.length := by rw [ha.1]; omega
      obtain ⟨x, hx⟩ : ∃ x, a[j / 32]? = some x := ⟨_, List.getElem?_eq_getElem hlt⟩
      have hcd := bit32 hx (ha.2 x (List.mem_of_getElem? hx))
      go_wp2_with (refine wpList_load_blk rfl 395 _ rfl Ob rfl (c8 acc) _ hO Tryz.underlying395 (by rfl) (by rw [c8_len ha8]; kernel_rfl) ?_)
      refine (add8_v ha8 ha8 _).mono ?_
      rintro e wF ⟨rfl, oF⟩
      have sF := hs.quiet oF
      have hOF := sF.head
      have hq8 := ha8.add ha8
      generalize hQ : addS8 nA acc acc = q at *
      cases hbit : bitL 32 a j with
      | false =>
        rw [hbit] at hcd
        go_wp2_with (first
          | (refine wpList_store_blk rfl 395 _ _ rfl Ob (c8 q) rfl rfl hOF (by simp [c8_len ha8, c8_len hq8]) (by rw [c8_len hq8]; kernel_rfl) (c8_one _) ?_; intro wE oE hE
             have sE : Sep w wE [blk Ob (c8 q) 395, blk Rb (c8 z) 395, blk Bb (c8 b) 395, blk Ab (c8 a) 395] := sF.step (L := [Ob]) oE (fun k hk => .inl (by simpa [blk] using hk)) hE (fun k hk => .inl (by simpa [blk] using hk))
             have hA := (sE.sel 4 [3, 0, 1, 2]).head
             have hcb : wE.cell? ⟨Ab, j / 32, none⟩ = some (.int .u32 (x : Int)) := by rw [Pw.cell_in hA]; simp [c8, hx]
             clear hA))
        go_roundw
        case rel => exact ⟨j, q, rfl, by omega, hq8, sE, by
          show R = _
          rw [hr.out]
          show numGo b (bitL 32 a j :: bitsR 32 a j) acc = _
          rw [hbit, ← hQ]
          rfl⟩
        case measure => simp [intOf]
      | true =>
        rw [hbit] at hcd
        go_wp2_with (first
          | (refine wpList_store_blk rfl 395 _ _ rfl Ob (c8 q) rfl rfl hOF (by simp [c8_len ha8, c8_len hq8]) (by rw [c8_len hq8]; kernel_rfl) (c8_one _) ?_; intro wE oE hE
             have sE : Sep w wE [blk Ob (c8 q) 395, blk Rb (c8 z) 395, blk Bb (c8 b) 395, blk Ab (c8 a) 395] := sF.step (L := [Ob]) oE (fun k hk => .inl (by simpa [blk] using hk)) hE (fun k hk => .inl (by simpa [blk] using hk))
             have hA := (sE.sel 4 [3, 0, 1, 2]).head
             have hcb : wE.cell? ⟨Ab, j / 32, none⟩ = some (.int .u32 (x : Int)) := by rw [Pw.cell_in hA]; simp [c8, hx]
             clear hA
             have hB2 := (sE.sel 3 [2, 0, 1]).head)
          | (refine wpList_load_blk rfl 395 _ rfl Ob rfl (c8 q) _ hE Tryz.underlying395 (by rfl) (by rw [c8_len hq8]; kernel_rfl) ?_)
          | (refine wpList_load_blk rfl 395 _ rfl Bb rfl (c8 b) _ hB2 Tryz.underlying395 (by rfl) (by rw [c8_len hb8]; kernel_rfl) ?_))
        refine (add8_v hq8 hb8 _).mono ?_
        rintro e wG ⟨rfl, oG⟩
        have sG := sE.quiet oG
        have hOG := sG.head
        have hq9 := hq8.add hb8
        generalize hQ2 : addS8 nA q b = q2 at *
        clear hcb hcd hE hOF hB2
        go_wp2_with (first
          | (refine wpList_store_blk rfl 395 _ _ rfl Ob (c8 q2) rfl rfl hOG (by simp [c8_len hq8, c8_len hq9]) (by rw [c8_len hq9]; kernel_rfl) (c8_one _) ?_; intro wH oH hH
             have sH : Sep w wH [blk Ob (c8 q2) 395, blk Rb (c8 z) 395, blk Bb (c8 b) 395, blk Ab (c8 a) 395] := sG.step (L := [Ob]) oH (fun k hk => .inl (by simpa [blk] using hk)) hH (fun k hk => .inl (by simpa [blk] using hk))))
        go_roundw
        case rel => exact ⟨j, q2, rfl, by omega, hq9, sH, by
          show R = _
          rw [hr.out]
          show numGo b (bitL 32 a j :: bitsR 32 a j) acc = _
          rw [hbit, ← hQ2, ← hQ]
          rfl⟩
        case measure => simp [intOf]
theorem prod_any (a b : List Nat) (ha : Eight a) (hb : Eight b) (w : World) : Calls Tryz.prog 279 #[v8 a, v8 b] w fun e w' => e = .returned (v8 (numGo b (bitsR 32 a 256) zeroL)) ∧ Pw.Only w w' [] :=
  prod_gen a b zeroL ha hb zero_8 (fun w => by kernel_rfl) _ (Lib.hid rfl) w
open Go.Pw in
set_option maxHeartbeats 1600000 in
theorem number_gen (z u : List Nat) (hz8 : Eight z) (hu : Eight u) (bs : List Nat) (hlen : bs.length ≤ 64) (hb : ∀ x ∈ bs, x < 256) (B of T c : Nat) (w : World) (hrow : RowAt w B of T bs) (hz : ∀ w, (zeroValue 395).run Tryz.prog w = .ok (v8 z) w) (hbd : Tryz.prog.built 395 [(0, .int .u32 1)] = some (c8 u).toArray) (R : List Nat) (HR : Hid (R = numGo u (bitsR 8 bs (8 * bs.length)) z)) :
    Calls Tryz.prog 272 #[.slice (some ⟨B, of, none⟩) bs.length c] w fun e w' => e = .returned (v8 R) ∧ Pw.Only w w' [] := by
  obtain ⟨rcs, rfr, hr1, hr2, hr3, hr4⟩ := hrow.at_
  obtain ⟨n, hn⟩ : ∃ n, n = bs.length := ⟨_, rfl⟩
  rw [← hn] at HR hlen hr3 ⊢
  have j1 : IntKind.i64.wrap (8 * (n : Int)) = 8 * (n : Int) := IntWalk.i64_in _ (by omega)
  have j2 : IntKind.i64.wrap (8 * (n : Int) - 1) = 8 * (n : Int) - 1 := IntWalk.i64_in _ (by omega)
  go_enter Tryz.func272, Tryz.ntmps272
  go_wp2_with (first
    | (have hq := s3; refine wpList_alloc_new rfl 395 rfl (v8 z) hz ?_; intro Ob w4 o4 g4 h4
       have s4 : Sep w w4 [blk Ob (c8 z) 395, blk Rb (c8 z) 395] := s3.add o4 h4 (fun k hk => by simp [blk] at hk; omega))
    | (refine wpList_alloc_new rfl 395 rfl (v8 z) hz ?_; intro Rb w3 o3 g3 h3
       have s3 : Sep w w3 [blk Rb (c8 z) 395] := (Sep.nil w).add o3 h3 (fun k hk => by simp [blk] at hk; omega)))
  go_loopw [4] (fun i wr => ∃ (j : Nat) (acc : List Nat), i = .int .i64 ((j : Int) - 1) ∧ j ≤ (8 * n) ∧ Eight acc ∧ Sep w wr [blk Ob (c8 acc) 395, blk Rb (c8 z) 395] ∧ Hid (R = numGo u (bitsR 8 bs j) acc)) (fun i _ => (intOf i + 1).toNat)
  case atStart => exact ⟨8 * n, z, by simp [hn], by omega, hz8, s4, HR⟩
  case round =>
    clear s4 s3 HR
    obtain ⟨j, acc, rfl, hj, ha8, hs, hr⟩ := hrel
    have hO := hs.head
    rcases j with _ | j
    · rw [show ((0 : Nat) : Int) - 1 = -1 from rfl]
      have hRb := (hs.sel 2 [1, 0]).head
      go_wp2_with (first
        | (refine wpList_load_blk rfl 395 _ rfl Ob rfl (c8 acc) _ hO Tryz.underlying395 (by rfl) (by rw [c8_len ha8]; kernel_rfl) ?_)
        | (refine wpList_store_blk rfl 395 _ _ rfl Rb (c8 acc) rfl rfl hRb (by simp [c8_len hz8, c8_len ha8]) (by rw [c8_len ha8]; kernel_rfl) (c8_one _) ?_; intro wE oE hE
           have sE : Sep w wE [blk Rb (c8 acc) 395, blk Ob (c8 acc) 395] := (hs.sel 2 [1, 0]).step (L := [Rb]) oE (fun k hk => .inl (by simpa [blk] using hk)) hE (fun k hk => .inl (by simpa [blk] using hk))))
      have hr0 := hr.out
      clear hr hs hO hRb hz
      refine bodyPost_ret (results_cell Tryz.results272 _ (b := Rb) rfl (c8 acc) _ hE Tryz.underlying395 (by rfl) (by rw [c8_len ha8]; kernel_rfl)) rfl ?_
      exact ⟨by rw [hr0]; rfl, sE.only⟩
    · rw [show ((j + 1 : Nat) : Int) - 1 = (j : Int) by omega]
      have hlt : j / 8 < bs.length := by omega
      obtain ⟨x, hx⟩ : ∃ x, bs[j / 8]? = some x := ⟨_, List.getElem?_eq_getElem hlt⟩
      have hcd := bit8 hx (hb x (List.mem_of_getElem? hx))
      have hcl : ∀ w', Only w w' [] → w'.cell? ⟨B, of + j / 8, none⟩ = some (.int .u8 (x : Int)) := fun w' ho => (ho.cell_in hr1 (by simp) _).trans (hr4 _ _ hx)
      have i0 : (0 : Int) ≤ (j : Int) / 8 := by omega
      have i1 : (j : Int) / 8 < (n : Int) := by omega
      have i2 : ((j : Int) / 8).toNat = j / 8 := by omega
      go_wp2_with (refine wpList_load_blk rfl 395 _ rfl Ob rfl (c8 acc) _ hO Tryz.underlying395 (by rfl) (by rw [c8_len ha8]; kernel_rfl) ?_)
      refine (add8_v ha8 ha8 _).mono ?_
      rintro e wF ⟨rfl, oF⟩
      have sF := hs.quiet oF
      have hOF := sF.head
      have hq8 := ha8.add ha8
      generalize hQ : addS8 nA acc acc = q at *
      cases hbit : bitL 8 bs j with
      | false =>
        rw [hbit] at hcd
        go_wp2_with (first
          | (refine wpList_store_blk rfl 395 _ _ rfl Ob (c8 q) rfl rfl hOF (by simp [c8_len ha8, c8_len hq8]) (by rw [c8_len hq8]; kernel_rfl) (c8_one _) ?_; intro wE oE hE
             have sE : Sep w wE [blk Ob (c8 q) 395, blk Rb (c8 z) 395] := sF.step (L := [Ob]) oE (fun k hk => .inl (by simpa [blk] using hk)) hE (fun k hk => .inl (by simpa [blk] using hk))
             have hcb := hcl wE sE.only))
        go_roundw
        case rel => exact ⟨j, q, rfl, by omega, hq8, sE, by
          show R = _
          rw [hr.out]
          show numGo u (bitL 8 bs j :: bitsR 8 bs j) acc = _
          rw [hbit, ← hQ]
          rfl⟩
        case measure => simp [intOf]
      | true =>
        rw [hbit] at hcd
        go_wp2_with (first
          | (refine wpList_store_blk rfl 395 _ _ rfl Ob (c8 q) rfl rfl hOF (by simp [c8_len ha8, c8_len hq8]) (by rw [c8_len hq8]; kernel_rfl) (c8_one _) ?_; intro wE oE hE
             have sE : Sep w wE [blk Ob (c8 q) 395, blk Rb (c8 z) 395] := sF.step (L := [Ob]) oE (fun k hk => .inl (by simpa [blk] using hk)) hE (fun k hk => .inl (by simpa [blk] using hk))
             have hcb := hcl wE sE.only)
          | (refine wpList_load_blk rfl 395 _ rfl Ob rfl (c8 q) _ hE Tryz.underlying395 (by rfl) (by rw [c8_len hq8]; kernel_rfl) ?_)
          | (refine wpList_build_eq rfl 395 #[(0, .const (.int .u32 1))] rfl (c8 u).toArray (by simp only [List.map_toArray, List.map_cons, List.map_nil]; exact hbd) ?_))
        refine (add8_v hq8 hu _).mono ?_
        rintro e wG ⟨rfl, oG⟩
        have sG := sE.quiet oG
        have hOG := sG.head
        have hq9 := hq8.add hu
        generalize hQ2 : addS8 nA q u = q2 at *
        clear hcb hcd hE hOF
        go_wp2_with (first
          | (refine wpList_store_blk rfl 395 _ _ rfl Ob (c8 q2) rfl rfl hOG (by simp [c8_len hq8, c8_len hq9]) (by rw [c8_len hq9]; kernel_rfl) (c8_one _) ?_; intro wH oH hH
             have sH : Sep w wH [blk Ob (c8 q2) 395, blk Rb (c8 z) 395] := sG.step (L := [Ob]) oH (fun k hk => .inl (by simpa [blk] using hk)) hH (fun k hk => .inl (by simpa [blk] using hk))))
        go_roundw
        case rel => exact ⟨j, q2, rfl, by omega, hq9, sH, by
          show R = _
          rw [hr.out]
          show numGo u (bitL 8 bs j :: bitsR 8 bs j) acc = _
          rw [hbit, ← hQ2, ← hQ]
          rfl⟩
        case measure => simp [intOf]
theorem number_any (bs : List Nat) (hlen : bs.length ≤ 64) (hb : ∀ x ∈ bs, x < 256) (B of T c : Nat) (w : World) (hrow : RowAt w B of T bs) : Calls Tryz.prog 272 #[.slice (some ⟨B, of, none⟩) bs.length c] w fun e w' => e = .returned (v8 (numGo oneL (bitsR 8 bs (8 * bs.length)) zeroL)) ∧ Pw.Only w w' [] :=
  number_gen zeroL oneL zero_8 one_8 bs hlen hb B of T c w hrow (fun w => by kernel_rfl) (by kernel_rfl) _ (Lib.hid rfl)
noncomputable def gNum (args : List AV) (bs : List Nat) : Option AV := match args with
  | [_] => bif Nat.ble (lenL bs) 64 then some (.agg (back32 (numK oneL (bitsR 8 bs (Nat.mul 8 (lenL bs))) zeroL))) else none
  | _ => none
theorem number_fn : fnOf Tryz.prog 272 = some (ntOf Tryz.prog 272, bodyOf Tryz.prog 272, resultsOf Tryz.prog 272) := by kernel_rfl
theorem number_good : HkGood Tryz.prog (rdHook 272 0 [] gNum) := by
  obtain ⟨fn, h1, _, h3, _⟩ := fnOf_ok number_fn
  refine rdHook_good rfl rfl ⟨fn, _, h1, h3⟩ fun args v bs σ us w id off len cp l T E hj hg hd hl hlen hb hr ht => ?_
  unfold gNum at hg
  split at hg
  · cases h64 : Nat.ble (lenL bs) 64 with
    | false => rw [h64] at hg; cases hg
    | true =>
      rw [h64] at hg
      obtain rfl := Option.some.inj hg
      have h64 := Nat.le_of_ble_eq_true h64
      rw [lenL_eq2] at h64 ⊢
      obtain ⟨u, l1, rfl, hx, hd⟩ := denL_cons hd
      obtain rfl := denL_nil hd
      obtain rfl := Option.some.inj hj
      simp only [den, hl, Option.map_some, Option.some.injEq] at hx
      subst hx
      subst hlen
      refine ⟨v8 (numGo oneL (bitsR 8 bs (8 * bs.length)) zeroL), ?_, (number_any bs h64 hb l.blk (l.base + off) T _ w hr).mono fun e w' h => ⟨h.1, onlyB_of h.2⟩⟩
      rw [numK_eq]
      simp only [den, back32_den]
      rfl
  · cases hg
noncomputable def gProd : List AV → Option AV
  | [.agg x, .agg y] => match eight x, eight y with
    | some a, some b => some (.agg (back32 (numK b (bitsR 32 a 256) zeroL)))
    | _, _ => none
  | _ => none
theorem prod_fn : fnOf Tryz.prog 279 = some (ntOf Tryz.prog 279, bodyOf Tryz.prog 279, resultsOf Tryz.prog 279) := by kernel_rfl
theorem prod_good : HkGood Tryz.prog (pureHook 279 gProd) := by
  obtain ⟨fn, h1, _, h3, _⟩ := fnOf_ok prod_fn
  refine fHook_good ⟨fn, _, h1, h3⟩ fun args v σ us w hg hd => ?_
  unfold gProd at hg
  split at hg
  · split at hg
    · rename_i a b ha hb
      obtain rfl := Option.some.inj hg
      obtain ⟨u, l1, rfl, hx, hd⟩ := denL_cons hd
      obtain ⟨u', l2, rfl, hy, hd⟩ := denL_cons hd
      obtain rfl := denL_nil hd
      simp only [den] at hx hy
      split at hx
      · rename_i us1 hl1
        obtain rfl := Option.some.inj hx
        split at hy
        · rename_i us2 hl2
          obtain rfl := Option.some.inj hy
          obtain ⟨rfl, a0, a1, a2, a3, a4, a5, a6, a7, rfl, la⟩ := eight_den ha hl1
          obtain ⟨rfl, b0, b1, b2, b3, b4, b5, b6, b7, rfl, lb⟩ := eight_den hb hl2
          refine ⟨v8 (numGo [b0, b1, b2, b3, b4, b5, b6, b7] (bitsR 32 [a0, a1, a2, a3, a4, a5, a6, a7] 256) zeroL), ?_, (prod_any _ _ ⟨rfl, la⟩ ⟨rfl, lb⟩ w).mono fun e w' h => ⟨h.1, onlyB_of h.2⟩⟩
          rw [numK_eq]
          simp only [den, back32_den]
          rfl
        · cases hy
      · cases hx
    · cases hg
  · cases hg
noncomputable def hCN : Hk := hor hC (hor (pureHook 275 gTimes) (hor (rdHook 272 0 [] gNum) (pureHook 279 gProd)))
theorem hCN_good : HkGood Tryz.prog hCN := HkGood.or hC_good (HkGood.or times_good (HkGood.or number_good prod_good))
end Go.Proofs.YtjfmelmiegnmjaaGreatDoor
end

section
set_option linter.all false
open Go Go.Sx Go.Proofs Go.RowKit
set_option linter.all false
namespace Go.Proofs.YtjfmelmiegnmjaaGreatDoor
set_option maxRecDepth 1000000
def eqLs : List Nat → List Nat → Bool
  | [], [] => true
  | a :: l, b :: m => match Nat.beq a b with
    | true => eqLs l m
    | false => false
  | _, _ => false
theorem eqLs_eq : ∀ {l m : List Nat}, eqLs l m = true → l = m
  | [], [], _ => rfl
  | a :: l, b :: m, h => by
    unfold eqLs at h
    split at h
    · rename_i hb
      rw [nbeq hb, eqLs_eq h]
    · cases h
structure ME where
  s : List Nat
  p : List Nat
  o : List Nat
def ME.ok (e : ME) : Prop := e.s.length = 32 ∧ e.p.length = 32 ∧ ∀ (c1 c2 T U : Nat), rowRes2 5 (xcall Tryz.prog okT hCN dhC 1000 60 239 [.slc 200 0 32 (.lit c1), .slc 201 0 32 (.lit c2)] (st2 T U (byAV e.s) (byAV e.p))) = some e.o
noncomputable def look : List ME → List Nat → List Nat → Option (List Nat)
  | [], _, _ => none
  | e :: l, s, p => match eqLs s e.s && eqLs p e.p with
    | true => some e.o
    | false => look l s p
theorem look_ok {s p o : List Nat} : ∀ {l : List ME}, look l s p = some o → ∃ e ∈ l, e.s = s ∧ e.p = p ∧ e.o = o
  | [], h => by cases h
  | e :: l, h => by
    unfold look at h
    split at h
    · rename_i hb
      obtain ⟨h1, h2⟩ := and3 hb
      exact ⟨e, List.mem_cons_self .., (eqLs_eq h1).symm, (eqLs_eq h2).symm, Option.some.inj h⟩
    · obtain ⟨e', h1, h2⟩ := look_ok h
      exact ⟨e', List.mem_cons_of_mem _ h1, h2⟩
noncomputable def gLook (tbl : List ME) (args : List AV) (st : St) : Option (List Nat) := match args with
  | [.slc i o 32 _, .slc j p 32 _] => match Nat.beq i j with
    | true => none
    | false => match rowOf st i o 32, rowOf st j p 32 with
      | some s, some q => look tbl s q
      | _, _ => none
  | _ => none
theorem xmul_fn : fnOf Tryz.prog 239 = some (ntOf Tryz.prog 239, bodyOf Tryz.prog 239, resultsOf Tryz.prog 239) := by kernel_rfl
theorem look_good {tbl : List ME} (h : ∀ e ∈ tbl, e.ok) : HkGood Tryz.prog (nsHook 239 5 (gLook tbl)) := by
  obtain ⟨fn, h1, _, h3, _⟩ := fnOf_ok xmul_fn
  refine nsHook_good ⟨fn, _, h1, h3⟩ fun args st bs σ us w hg hr hd => ?_
  unfold gLook at hg
  split at hg
  · rename_i i o c j p c'
    split at hg
    · cases hg
    · rename_i hij
      split at hg
      · rename_i s q hs hq
        obtain ⟨e, he, rfl, rfl, rfl⟩ := look_ok hg
        obtain ⟨k1, k2, k3⟩ := h e he
        obtain ⟨l, T, m1, m2, m3, m4⟩ := rowOf_at hr hs
        obtain ⟨m, U, n1, n2, n3, n4⟩ := rowOf_at hr hq
        have hne : l.blk ≠ m.blk := fun e' => by
          unfold rowOf at hs hq
          split at hs
          · rename_i e1 s1 c1 g1
            split at hq
            · rename_i e2 s2 c2 g2
              have := hr.inj i j _ _ _ _ g1 g2 m1 n1 e'
              subst this
              simp at hij
            · cases hq
          · cases hs
        obtain ⟨u, l1, rfl, hx, hd⟩ := denL_cons hd
        obtain ⟨u', l2, rfl, hy, hd⟩ := denL_cons hd
        obtain rfl := denL_nil hd
        simp only [den, m1, n1, Option.map_some, Option.some.injEq] at hx hy
        subst hx
        subst hy
        have := two_calls okt callsOK mixed hCN_good dhC_good (l := ⟨l.blk, l.base + o, 0⟩) (m := ⟨m.blk, m.base + p, 0⟩) (c1 := capDen l c) (c2 := capDen m c') (T := T) (U := U) (xs := e.s) (ys := e.p) (by kernel_rfl) m4 n4 hne (by rw [k1, k2]; exact k3 _ _ _ _)
        rw [k1, k2] at this
        exact this
      · cases hg
  · cases hg
end Go.Proofs.YtjfmelmiegnmjaaGreatDoor
end

section
namespace Go.Proofs.YtjfmelmiegnmjaaGreatDoor
open Go.RowKit Go.Pw
set_option linter.all false
set_option maxRecDepth 100000
def Byt (l : List Int) : Prop := ∀ x ∈ l, 0 ≤ x ∧ x < 256
def ofbe (l : List Int) : Int := l.foldl (fun a b => a * 256 + b) 0
theorem ofbe_snoc (l : List Int) (x : Int) : ofbe (l ++ [x]) = ofbe l * 256 + x := by simp [ofbe, List.foldl_append]
theorem ofbe_from (l : List Int) (h : Byt l) : ∀ a : Int, 0 ≤ a → a * 256 ^ l.length ≤ l.foldl (fun a b => a * 256 + b) a ∧ l.foldl (fun a b => a * 256 + b) a < (a + 1) * 256 ^ l.length := by
  induction l with
  | nil => intro a _; simp; omega
  | cons x l ih =>
    intro a ha
    have h2 := h x (by simp)
    have h1 := ih (fun y hy => h y (by simp [hy])) (a * 256 + x) (by omega)
    have hp : (0 : Int) ≤ 256 ^ l.length := Int.pow_nonneg (by decide)
    simp only [List.foldl_cons, List.length_cons, Int.pow_succ]
    constructor
    · refine Int.le_trans ?_ h1.1
      have : (a * 256) * 256 ^ l.length ≤ (a * 256 + x) * 256 ^ l.length := Int.mul_le_mul_of_nonneg_right (by omega) hp
      rw [Int.mul_assoc, Int.mul_comm 256] at this
      exact this
    · refine Int.lt_of_lt_of_le h1.2 ?_
      have : (a * 256 + x + 1) * 256 ^ l.length ≤ ((a + 1) * 256) * 256 ^ l.length := Int.mul_le_mul_of_nonneg_right (by omega) hp
      rw [Int.mul_assoc (a + 1), Int.mul_comm 256] at this
      exact this
theorem ofbe_bd (l : List Int) (h : Byt l) : 0 ≤ ofbe l ∧ ofbe l < 256 ^ l.length := by
  have := ofbe_from l h 0 (by decide)
  simpa [ofbe] using this
theorem pow7 (j : Nat) (h : j ≤ 7) : (256 : Int) ^ j ≤ 72057594037927936 := by
  have : j = 0 ∨ j = 1 ∨ j = 2 ∨ j = 3 ∨ j = 4 ∨ j = 5 ∨ j = 6 ∨ j = 7 := by omega
  rcases this with rfl | rfl | rfl | rfl | rfl | rfl | rfl | rfl <;> decide
theorem or_byte (N x : Int) (h0 : 0 ≤ N) (h1 : N < 72057594037927936) (h2 : 0 ≤ x) (h3 : x < 256) : bits .or .u64 (N * 256) x = N * 256 + x := by
  rw [u64_or _ _ (by omega) (by omega) h2 (by omega)]
  have := Nat.two_pow_add_eq_or_of_lt (i := 8) (b := x.toNat) (by omega) N.toNat
  have e : (N * 256).toNat = 2 ^ 8 * N.toNat := by omega
  rw [e, ← this]
  omega
def IsR (T R : Nat) (p : Value) (rest : List Int) (bad : Bool) (w : World) : Prop :=
  w.heap[R]? = some (.cells #[p, .bool bad] T (0, 0)) ∧ Src w p 1 rest.length (rest.map (Value.int .u8)) ∧ Byt rest
theorem cell_two0 {w : World} {b : Nat} {u v : Value} {t : TypeId} (h : w.heap[b]? = some (.cells #[u, v] t (0, 0))) : w.cell? ⟨b, 0, none⟩ = some u := by simp [World.cell?, h]
theorem cell_two1 {w : World} {b : Nat} {u v : Value} {t : TypeId} (h : w.heap[b]? = some (.cells #[u, v] t (0, 0))) : w.cell? ⟨b, 1, none⟩ = some v := by simp [World.cell?, h]
theorem free_two {w : World} {b : Nat} {u v : Value} {t : TypeId} (h : w.heap[b]? = some (.cells #[u, v] t (0, 0))) (i : Nat) : w.frozen? ⟨b, i, none⟩ = false := by simp [World.frozen?, h]
theorem set_two0 {w : World} {b : Nat} {u v x : Value} {t : TypeId} (h : w.heap[b]? = some (.cells #[u, v] t (0, 0))) : (w.setCell ⟨b, 0, none⟩ x).heap[b]? = some (.cells #[x, v] t (0, 0)) := by
  have hlt := lt_of_block h
  have h' : w.heap[b] = .cells #[u, v] t (0, 0) := by simpa [Array.getElem?_eq_getElem hlt] using h
  show (w.heap.modify b _)[b]? = _
  rw [Array.getElem?_eq_getElem (by simpa using hlt), Array.getElem_modify_self, h']
  rfl
theorem set_two1 {w : World} {b : Nat} {u v x : Value} {t : TypeId} (h : w.heap[b]? = some (.cells #[u, v] t (0, 0))) : (w.setCell ⟨b, 1, none⟩ x).heap[b]? = some (.cells #[u, x] t (0, 0)) := by
  have hlt := lt_of_block h
  have h' : w.heap[b] = .cells #[u, v] t (0, 0) := by simpa [Array.getElem?_eq_getElem hlt] using h
  show (w.heap.modify b _)[b]? = _
  rw [Array.getElem?_eq_getElem (by simpa using hlt), Array.getElem_modify_self, h']
  rfl
theorem Tryz.info5 : (Tryz.prog.info? 5).map (fun i => (i.zero, i.size, i.bytes)) = some (some (.int .u8 0), 1, 1) := by kernel_rfl
set_option maxHeartbeats 400000 in
theorem rspoil_any (R : Nat) (u : Value) (bad : Bool) (w : World) (h : w.heap[R]? = some (.cells #[u, .bool bad] 274 (0, 0))) :
    Calls Tryz.prog 153 #[.pointer (some ⟨R, 0, none⟩)] w fun e w' => e = .returned (.tuple #[]) ∧ w' = w.setCell ⟨R, 1, none⟩ (.bool true) := by
  have h1 := cell_two1 h
  have h2 := free_two h 1
  go_enter Tryz.func153, Tryz.ntmps153
  go_wp2
  go_end0
  exact ⟨rfl, rfl⟩
theorem Src.only' {w w' : World} {x : Value} {size m : Nat} {news : List Value} {L : List Nat} (h : Src w x size m news) (ho : Only w w' L) (ha : ∀ k ∈ L, ∀ i u, w.cell? ⟨k, i, none⟩ = some u → u ∉ news) : Src w' x size m news := by
  obtain ⟨ao, c, rfl, h1, h2, h3, h4, h5⟩ := h
  refine ⟨ao, c, rfl, h1, h2, h3, h4, fun b hb j u hj => ?_⟩
  have hc := h5 b hb j u hj
  have hsp := World.cell?_spot hc
  refine (World.cell?_of_block (w := w) (ho.block _ (World.block_lt_of_cell? w _ hc) ?_)).trans hc
  intro hm
  refine ha _ hm (b.add j).off u ?_ (List.mem_of_getElem? hj)
  rw [show (⟨(b.add j).block, (b.add j).off, none⟩ : Addr) = b.add j by rw [← hsp]]
  exact hc
theorem src_tail {w : World} {ao : Option Addr} {n c k : Nat} {cs : List Value} (h : Src w (.slice ao n c) 1 n cs) (hk : k ≤ n) :
    (c = k → Src w (.slice ao (n - k) 0) 1 (n - k) (cs.drop k)) ∧ Src w (.slice (ao.map (fun x => x.add k)) (n - k) (c - k)) 1 (n - k) (cs.drop k) := by
  obtain ⟨ao', c', he, h1, h2, h3, h4, h5⟩ := h
  simp only [Value.slice.injEq] at he
  obtain ⟨rfl, _, rfl⟩ := he
  constructor
  · rintro rfl
    have e : n - c = 0 := by omega
    refine ⟨ao, 0, rfl, by omega, Nat.zero_le _, by simp [h3], fun _ => ⟨e, rfl⟩, fun b hb j u hj => ?_⟩
    simp at hj
    have := List.length_drop (i := c) (l := cs)
    have hn := (List.getElem?_eq_some_iff.1 hj).1
    omega
  · refine ⟨_, c - k, rfl, by omega, by omega, by simp [h3], fun hn => ?_, fun b hb j u hj => ?_⟩
    · have := h4 (by simpa using hn); omega
    · cases ao with
      | none => simp at hb
      | some a =>
        obtain rfl : b = a.add k := by simpa using hb.symm
        rw [List.getElem?_drop] at hj
        have := h5 a rfl (k + j) u hj
        have e : (a.add k).add j = a.add (k + j) := by
          unfold Addr.add
          split <;> split <;> (try split) <;> simp_all <;> omega
        rw [e]; exact this
theorem src_take {w : World} {ao : Option Addr} {n c k : Nat} {cs : List Value} (h : Src w (.slice ao n c) 1 n cs) (hk : k ≤ n) : Src w (.slice ao k c) 1 k (cs.take k) := by
  obtain ⟨ao', c', he, h1, h2, h3, h4, h5⟩ := h
  simp only [Value.slice.injEq] at he
  obtain ⟨rfl, _, rfl⟩ := he
  refine ⟨ao, c, rfl, by omega, h2, by simp [h3]; omega, fun hn => ?_, fun b hb j u hj => ?_⟩
  · have := h4 hn; exact ⟨by omega, this.2⟩
  · rw [List.getElem?_take] at hj
    split at hj
    · exact h5 b hb j u hj
    · cases hj
theorem cells_two {w : World} {b : Nat} {u v : Value} {t : TypeId} (h : w.heap[b]? = some (.cells #[u, v] t (0, 0))) : ∀ i x, w.cell? ⟨b, i, none⟩ = some x → x = u ∨ x = v := by
  intro i x hx
  simp [World.cell?, h] at hx
  match i, hx with
  | 0, hx => left; simpa using hx.symm
  | 1, hx => right; simpa using hx.symm
  | i + 2, hx => simp at hx
theorem isr_src {T R : Nat} {ao : Option Addr} {n c : Nat} {rest : List Int} {bad : Bool} {w w' : World} {x : Value} {m : Nat} (hR : w.heap[R]? = some (.cells #[.slice ao n c, .bool bad] T (0, 0))) (h : Src w x 1 m (rest.map (Value.int .u8))) (ho : Only w w' [R]) : Src w' x 1 m (rest.map (Value.int .u8)) := by
  refine Src.only' h ho fun k hk i u hu hm => ?_
  obtain rfl : k = R := by simpa using hk
  obtain ⟨y, _, rfl⟩ := List.mem_map.1 hm
  rcases cells_two hR i _ hu with h | h <;> simp at h
set_option maxHeartbeats 800000 in
theorem rnum_fault (R : Nat) (p : Value) (rest : List Int) (bad : Bool) (k : Int) (w : World) (h : IsR 274 R p rest bad w) (hl : rest.length ≤ 1000000000) (hk : -9223372036854775808 ≤ k ∧ k ≤ 9223372036854775807) (hf : bad = true ∨ k < 0 ∨ 8 < k ∨ (rest.length : Int) < k) :
    Calls Tryz.prog 85 #[.pointer (some ⟨R, 0, none⟩), .int .i64 k] w fun e w' => e = .returned (.int .u64 0) ∧ IsR 274 R p rest true w' ∧ Only w w' [R] := by
  obtain ⟨hR, hsrc, hb⟩ := h
  obtain ⟨ao, c, rfl, _, _⟩ := id hsrc
  have h0 := cell_two0 hR
  have h1 := cell_two1 hR
  have hbad : bad = true ∨ bad = false := by cases bad <;> simp
  have hon : Only w (w.setCell ⟨R, 1, none⟩ (.bool true)) [R] := Only.setCell _ _ _ _ (by simp)
  have hend : Hid (IsR 274 R (.slice ao rest.length c) rest true (w.setCell ⟨R, 1, none⟩ (.bool true)) ∧ Only w (w.setCell ⟨R, 1, none⟩ (.bool true)) [R]) :=
    ⟨⟨set_two1 hR, isr_src hR hsrc hon, hb⟩, hon⟩
  rcases hbad with rfl | rfl
  · go_enter Tryz.func85, Tryz.ntmps85
    go_wp2_with (go_at_call 153; refine (rspoil_any R _ _ _ hR).mono ?_; rintro e w' ⟨rfl, rfl⟩)
    go_ret
    exact ⟨rfl, hend.out⟩
  · by_cases k0 : k < 0
    · have d0 : decide (k < 0) = true := by simpa using k0
      go_enter Tryz.func85, Tryz.ntmps85
      go_wp2_with (go_at_call 153; refine (rspoil_any R _ _ _ hR).mono ?_; rintro e w' ⟨rfl, rfl⟩)
      go_ret
      exact ⟨rfl, hend.out⟩
    · have d0 : decide (k < 0) = false := by simpa using k0
      by_cases k8 : 8 < k
      · have d8 : decide (8 < k) = true := by simpa using k8
        go_enter Tryz.func85, Tryz.ntmps85
        go_wp2_with (go_at_call 153; refine (rspoil_any R _ _ _ hR).mono ?_; rintro e w' ⟨rfl, rfl⟩)
        go_ret
        exact ⟨rfl, hend.out⟩
      · have d8 : decide (8 < k) = false := by simpa using k8
        have hlk : (rest.length : Int) < k := by rcases hf with h | h | h | h; simp at h; omega; omega; exact h
        have dl : decide ((rest.length : Int) < k) = true := by simpa using hlk
        go_enter Tryz.func85, Tryz.ntmps85
        go_wp2_with (go_at_call 153; refine (rspoil_any R _ _ _ hR).mono ?_; rintro e w' ⟨rfl, rfl⟩)
        go_ret
        exact ⟨rfl, hend.out⟩
set_option maxHeartbeats 800000 in
theorem rnum_ok (R : Nat) (p : Value) (rest : List Int) (k : Nat) (w : World) (h : IsR 274 R p rest false w) (hl : rest.length ≤ 1000000000) (hk : k ≤ 8) (hr : k ≤ rest.length) :
    Calls Tryz.prog 85 #[.pointer (some ⟨R, 0, none⟩), .int .i64 k] w fun e w' => e = .returned (.int .u64 (ofbe (rest.take k))) ∧ (∃ p', p'.ownBlock = p.ownBlock ∧ IsR 274 R p' (rest.drop k) false w') ∧ Only w w' [R] := by
  obtain ⟨hR, hsrc, hb⟩ := h
  obtain ⟨ao, c, rfl, hc1, hc2, hc3, hc4, hc5⟩ := id hsrc
  have h0 := cell_two0 hR
  have h1 := cell_two1 hR
  have d0 : decide ((k : Int) < 0) = false := by simp
  have d8 : decide (8 < (k : Int)) = false := by simp; omega
  have dl : decide ((rest.length : Int) < k) = false := by simp; omega
  have hpos : 0 < k → ∃ b o, ao = some ⟨b, o, none⟩ ∧ ∀ j x, rest[j]? = some x → w.cell? ⟨b, o + j, none⟩ = some (.int .u8 x) := by
    intro hk0
    cases ao with
    | none => have := (hc4 rfl).1; omega
    | some ad =>
      obtain ⟨b, o, sp⟩ := ad
      have hz : rest[0]? = some rest[0] := by simp
      have hcz := hc5 _ rfl 0 (.int .u8 rest[0]) (by simp)
      have hsp : sp = none := by simpa [Addr.add] using World.cell?_spot hcz
      subst hsp
      exact ⟨b, o, rfl, fun j x hj => by have := hc5 _ rfl j (.int .u8 x) (by simp [hj]); rwa [Addr.add_lit] at this⟩
  go_enter Tryz.func85, Tryz.ntmps85
  go_wp2_with fail
  go_loop [5, 42] (fun n i => ∃ j : Nat, i = .int .i64 j ∧ j ≤ k ∧ n = .int .u64 (ofbe (rest.take j))) (fun _ i => k - (intOf i).toNat)
  case atStart => exact ⟨0, rfl, Nat.zero_le _, rfl⟩
  case round =>
    obtain ⟨j, rfl, hj, rfl⟩ := hrel
    by_cases hjk : j < k
    · obtain ⟨b, o, rfl, hcell⟩ := hpos (by omega)
      have hjl : j < rest.length := by omega
      have hz := hcell j rest[j] (by simp)
      obtain ⟨x, hx⟩ : ∃ x, x = rest[j] := ⟨_, rfl⟩
      rw [← hx] at hz
      have hx0 : 0 ≤ x ∧ x < 256 := hx ▸ hb _ (List.getElem_mem _)
      obtain ⟨N, hN⟩ : ∃ N, N = ofbe (rest.take j) := ⟨_, rfl⟩
      rw [← hN]
      have hN0 : 0 ≤ N ∧ N < 72057594037927936 := by
        have := ofbe_bd (rest.take j) (fun y hy => hb y (List.mem_of_mem_take hy))
        rw [List.length_take, Nat.min_eq_left (by omega), ← hN] at this
        refine ⟨this.1, Int.lt_of_lt_of_le this.2 ?_⟩
        exact pow7 j (by omega)
      have Hx := Lib.hid hx
      have HN := Lib.hid hN
      clear hx hN hcell hc5 hc4 hsrc
      go_wp2
      go_round
      case rel =>
        refine ⟨j + 1, by simp, by omega, ?_⟩
        rw [or_byte N x hN0.1 hN0.2 hx0.1 hx0.2, List.take_succ_eq_append_getElem hjl, ofbe_snoc, ← HN.out, ← Hx.out]
      case measure => simp [intOf]; omega
    · obtain rfl : j = k := by omega
      have hf := free_two hR 0
      go_wp2
      all_goals go_ret
      · have hcj : c = j := by assumption
        have ho : Only w (w.setCell ⟨R, 0, none⟩ (.slice ao (rest.length - j) 0)) [R] := Only.setCell _ _ _ _ (by simp)
        have ht := (src_tail hsrc hr).1 hcj
        rw [← List.map_drop] at ht
        refine ⟨rfl, ⟨.slice ao (rest.length - j) 0, by cases ao <;> rfl, set_two0 hR, ?_, fun y hy => hb y (List.mem_of_mem_drop hy)⟩, ho⟩
        rw [List.length_drop]
        exact isr_src hR ht ho
      · have ho : Only w (w.setCell ⟨R, 0, none⟩ (.slice (ao.map (fun x => x.add j)) (rest.length - j) (c - j))) [R] := Only.setCell _ _ _ _ (by simp)
        have ht := (src_tail hsrc hr).2
        rw [← List.map_drop] at ht
        refine ⟨rfl, ⟨_, ?_, set_two0 hR, ?_, fun y hy => hb y (List.mem_of_mem_drop hy)⟩, ho⟩
        · cases ao with
          | none => rfl
          | some a => simp only [Option.map_some, Value.ownBlock, Option.some.injEq]; unfold Addr.add; split <;> rfl
        · rw [List.length_drop]
          exact isr_src hR ht ho
theorem isr_bad {T R : Nat} {p : Value} {l : List Int} {b : Bool} {w : World} (h : IsR T R p l b w) : IsR T R p l true (w.setCell ⟨R, 1, none⟩ (.bool true)) := by
  obtain ⟨h1, h2, h3⟩ := h
  obtain ⟨ao, c, rfl, _⟩ := id h2
  exact ⟨set_two1 h1, isr_src h1 h2 (Only.setCell _ _ _ [R] (by simp)), h3⟩
def RN (k : Int) (l : List Int) (b : Bool) : Int × List Int × Bool :=
  if b = false ∧ 0 ≤ k ∧ k ≤ 8 ∧ k ≤ l.length then (ofbe (l.take k.toNat), l.drop k.toNat, false) else (0, l, true)
def RS (R : Nat) (p : Value) (l : List Int) (b : Bool) (w w' : World) : Prop :=
  (∃ p', p'.ownBlock = p.ownBlock ∧ IsR 274 R p' l b w') ∧ Only w w' [R]
theorem rnum_any (R : Nat) (p : Value) (l : List Int) (b : Bool) (k : Int) (w : World) (h : IsR 274 R p l b w) (hl : l.length ≤ 1000000000) (hk : -9223372036854775808 ≤ k ∧ k ≤ 9223372036854775807) :
    Calls Tryz.prog 85 #[.pointer (some ⟨R, 0, none⟩), .int .i64 k] w fun e w' => e = .returned (.int .u64 (RN k l b).1) ∧ RS R p (RN k l b).2.1 (RN k l b).2.2 w w' := by
  by_cases hf : b = false ∧ 0 ≤ k ∧ k ≤ 8 ∧ k ≤ l.length
  · have e1 : RN k l b = (ofbe (l.take k.toNat), l.drop k.toNat, false) := if_pos hf
    obtain ⟨rfl, h0, h8, hr⟩ := hf
    obtain ⟨n, rfl⟩ := Int.eq_ofNat_of_zero_le h0
    rw [e1, Int.toNat_natCast]
    exact rnum_ok R p l n w h hl (by omega) (by omega)
  · have e1 : RN k l b = (0, l, true) := if_neg hf
    rw [e1]
    refine (rnum_fault R p l b k w h hl hk ?_).mono ?_
    · cases b
      · simp only [true_and] at hf; omega
      · exact .inl rfl
    · rintro e w' ⟨h1, h2, h3⟩
      exact ⟨h1, ⟨p, rfl, h2⟩, h3⟩
theorem RN_bd (k : Nat) (l : List Int) (b : Bool) (h : Byt l) : 0 ≤ (RN k l b).1 ∧ (RN k l b).1 < 256 ^ k ∧ (RN k l b).2.1.length ≤ l.length ∧ Byt (RN k l b).2.1 := by
  unfold RN
  have hp : (0 : Int) < 256 ^ k := Int.pow_pos (by decide)
  split
  · rename_i hc
    have := ofbe_bd (l.take k) (fun y hy => h y (List.mem_of_mem_take hy))
    rw [List.length_take, Nat.min_eq_left (by omega)] at this
    exact ⟨by simpa using this.1, by simpa using this.2, by simp, fun y hy => h y (List.mem_of_mem_drop hy)⟩
  · exact ⟨Int.le_refl _, hp, Nat.le_refl _, h⟩
def FV (n : Int) : Bool := n == 1
def FB (b : Bool) (m n : Int) : Bool := b || decide (m < n)
theorem FB_yes {b : Bool} {m n : Int} (h : m < n) : FB b m n = true := by simp [FB, h]
theorem FB_no {b : Bool} {m n : Int} (h : ¬ m < n) : FB b m n = b := by simp [FB, h]
set_option maxHeartbeats 400000 in
theorem rflag_any (R : Nat) (p : Value) (l : List Int) (b : Bool) (w : World) (h : IsR 274 R p l b w) (hl : l.length ≤ 1000000000) :
    Calls Tryz.prog 83 #[.pointer (some ⟨R, 0, none⟩)] w fun e w' => e = .returned (.bool (FV (RN 1 l b).1)) ∧ RS R p (RN 1 l b).2.1 (FB (RN 1 l b).2.2 1 (RN 1 l b).1) w w' := by
  have hbd := RN_bd 1 l b h.2.2
  have HN := Lib.hid (rnum_any R p l b 1 _ h hl (by decide))
  generalize RN 1 l b = r at *
  obtain ⟨n, l', b'⟩ := r
  simp only at hbd HN ⊢
  obtain ⟨hn0, hn1, hl', _⟩ := hbd
  clear h
  go_enter Tryz.func83, Tryz.ntmps83
  go_wp2_with fail
  refine HN.out.mono ?_
  rintro e w1 ⟨rfl, ⟨p', hp', hr'⟩, ho⟩
  by_cases hn : 1 < n
  · have hend : Hid (RS R p l' (FB b' 1 n) w (w1.setCell ⟨R, 1, none⟩ (.bool true))) := by
      rw [FB_yes hn]
      exact ⟨⟨p', hp', isr_bad hr'⟩, ho.step (Only.setCell _ _ _ [R] (by simp)) (fun i hi => .inl hi)⟩
    have hfin : Hid (FV n = false) := show _ = _ by simp [FV]; omega
    go_wp2_with (go_at_call 153; refine (rspoil_any R _ _ _ hr'.1).mono ?_; rintro e w' ⟨rfl, rfl⟩)
    go_ret
    exact ⟨by rw [hfin.out]; rfl, hend.out⟩
  · have hend : Hid (RS R p l' (FB b' 1 n) w w1) := by
      rw [FB_no hn]
      exact ⟨⟨p', hp', hr'⟩, ho⟩
    clear hr' ho hp'
    go_wp2
    go_ret
    exact ⟨rfl, hend.out⟩
set_option maxHeartbeats 400000 in
theorem rbad_any (R : Nat) (p : Value) (l : List Int) (b : Bool) (w : World) (h : IsR 274 R p l b w) :
    Calls Tryz.prog 98 #[.pointer (some ⟨R, 0, none⟩)] w fun e w' => e = .returned (.bool b) ∧ w = w' := by
  have h1 := cell_two1 h.1
  go_enter Tryz.func98, Tryz.ntmps98
  go_wp2
  go_ret
  exact ⟨rfl, rfl⟩
set_option maxHeartbeats 400000 in
theorem rend_any (R : Nat) (p : Value) (l : List Int) (b : Bool) (w : World) (h : IsR 274 R p l b w) :
    Calls Tryz.prog 86 #[.pointer (some ⟨R, 0, none⟩)] w fun e w' => e = .returned (.bool (!b && decide (l.length = 0))) ∧ w = w' := by
  obtain ⟨ao, c, rfl, _⟩ := id h.2.1
  have h0 := cell_two0 h.1
  cases b
  · by_cases hz : l.length = 0
    · have hz' : ((l.length : Int) == 0) = true := by simp [hz]
      go_enter Tryz.func86, Tryz.ntmps86
      go_wp2_with (go_at_call 98; refine (rbad_any R _ l _ _ h).mono ?_; rintro e w' ⟨rfl, rfl⟩)
      go_ret
      exact ⟨by simp [hz], rfl⟩
    · have hz' : ((l.length : Int) == 0) = false := by simpa using hz
      go_enter Tryz.func86, Tryz.ntmps86
      go_wp2_with (go_at_call 98; refine (rbad_any R _ l _ _ h).mono ?_; rintro e w' ⟨rfl, rfl⟩)
      go_ret
      exact ⟨by simp [hz], rfl⟩
  · go_enter Tryz.func86, Tryz.ntmps86
    go_wp2_with (go_at_call 98; refine (rbad_any R _ l _ _ h).mono ?_; rintro e w' ⟨rfl, rfl⟩)
    go_ret
    exact ⟨rfl, rfl⟩
theorem rread_any (ao : Option Addr) (n c : Nat) (w : World) :
    Calls Tryz.prog 80 #[.slice ao n c] w fun e w' => e = .returned (.pointer (some ⟨w.heap.size, 0, none⟩)) ∧ w' = w.alloc (.cells #[.slice ao n c, .bool false] 274) := by
  go_enter Tryz.func80, Tryz.ntmps80
  go_wp2
  go_ret
  exact ⟨rfl, rfl⟩
theorem isr_adv {T R : Nat} {ao : Option Addr} {c k : Nat} {l : List Int} {b : Bool} {w1 w2 : World} {v' : Value} (hr : IsR T R (.slice ao l.length c) l b w1) (h12 : Only w1 w2 []) (hk : k ≤ l.length)
    (hv : (c = k ∧ v' = .slice ao (l.length - k) 0) ∨ v' = .slice (ao.map (fun x => x.add k)) (l.length - k) (c - k)) :
    v'.ownBlock = (Value.slice ao l.length c).ownBlock ∧ IsR T R v' (l.drop k) b (w2.setCell ⟨R, 0, none⟩ v') ∧ Only w1 (w2.setCell ⟨R, 0, none⟩ v') [R] := by
  obtain ⟨hR, hsrc, hb⟩ := hr
  have ho : Only w1 (w2.setCell ⟨R, 0, none⟩ v') [R] := Only.trans (h12.mono (by simp)) (Only.setCell _ _ _ _ (by simp))
  have hst := src_tail hsrc hk
  have hs : Src w1 v' 1 (l.drop k).length ((l.drop k).map (Value.int .u8)) := by
    rw [List.length_drop, List.map_drop]
    rcases hv with ⟨h, rfl⟩ | rfl
    · exact hst.1 h
    · exact hst.2
  refine ⟨?_, ⟨set_two0 (h12.at hR (by simp)), isr_src hR hs ho, fun y hy => hb y (List.mem_of_mem_drop hy)⟩, ho⟩
  rcases hv with ⟨h, rfl⟩ | rfl
  · cases ao <;> rfl
  · cases ao with
    | none => rfl
    | some a => simp only [Option.map_some, Value.ownBlock, Option.some.injEq]; unfold Addr.add; split <;> rfl
def BF (b : Bool) (most n : Int) (len : Nat) : Bool := b || decide (most < 0) || decide (most < n) || decide ((len : Int) < n)
def BV (f : Bool) (n : Int) (l : List Int) : List Int := if f then [] else l.take n.toNat
def BR (f : Bool) (n : Int) (l : List Int) : List Int := if f then l else l.drop n.toNat
def RBy (R : Nat) (p : Value) (f : Bool) (n : Int) (l : List Int) (w : World) (e : Ending) (w' : World) : Prop :=
  ∃ v, e = .returned v ∧ w'.ownsRow 0 5 1 v (BV f n l).length ((BV f n l).map (Value.int .u8)) ∧ SoN w (.slice none 0 0) v ∧ RS R p (BR f n l) f w w'
theorem rby_bad {R : Nat} {p p' : Value} {f b' : Bool} {n : Int} {l' : List Int} {w w1 : World} (hf : f = true) (hp' : p'.ownBlock = p.ownBlock) (hr : IsR 274 R p' l' b' w1) (ho : Only w w1 [R]) :
    RBy R p f n l' w (.returned (.slice none 0 0)) (w1.setCell ⟨R, 1, none⟩ (.bool true)) := by
  subst hf
  exact ⟨_, rfl, World.ownsRow_nil _ _ _ _, fun _ h => by simp [Value.ownBlock] at h, ⟨⟨p', hp', isr_bad hr⟩, ho.step (Only.setCell _ _ _ [R] (by simp)) (fun i hi => .inl hi)⟩⟩
theorem rby_good {R m : Nat} {p p' v u x y : Value} {l' : List Int} {w w1 w2 : World} (hp' : p'.ownBlock = p.ownBlock) (ho : Only w w1 [R]) (hm : m ≤ l'.length)
    (g1 : w2.ownsRow 0 5 1 v m ((l'.take m).map (Value.int .u8))) (g3 : SoN w1 (.slice none 0 0) v) (hR2 : w2.heap[R]? = some (.cells #[x, y] 274 (0, 0)))
    (q1 : u.ownBlock = p'.ownBlock) (q2 : IsR 274 R u (l'.drop m) false (w2.setCell ⟨R, 0, none⟩ u)) (q3 : Only w1 (w2.setCell ⟨R, 0, none⟩ u) [R]) :
    RBy R p false m l' w (.returned v) (w2.setCell ⟨R, 0, none⟩ u) := by
  refine ⟨v, rfl, ?_, g3.weaken ho.size, ⟨⟨u, q1.trans hp', ?_⟩, ho.trans q3⟩⟩
  · rw [show BV false (m : Int) l' = l'.take m by simp [BV]]
    have := ownsRow_setCell_other g1 (a := ⟨R, 0, none⟩) (own_ne g1 hR2 (by decide)) u
    rwa [show (l'.take m).length = m by simp [hm]]
  · rw [show BR false (m : Int) l' = l'.drop m by simp [BR]]
    exact q2
set_option maxRecDepth 100000 in
set_option maxHeartbeats 800000 in
theorem rbytes_any (R : Nat) (p : Value) (l : List Int) (b : Bool) (most : Int) (w : World) (h : IsR 274 R p l b w) (hl : l.length ≤ 1000000000) (hm : -9223372036854775808 ≤ most ∧ most ≤ 9223372036854775807) :
    Calls Tryz.prog 82 #[.pointer (some ⟨R, 0, none⟩), .int .i64 most] w (RBy R p (BF (RN 4 l b).2.2 most (RN 4 l b).1 (RN 4 l b).2.1.length) (RN 4 l b).1 (RN 4 l b).2.1 w) := by
  obtain ⟨i0, hi, hz0, hz1, hz2⟩ := info_parts Tryz.info5
  have hbd := RN_bd 4 l b h.2.2
  have HN := Lib.hid (rnum_any R p l b 4 _ h hl (by decide))
  generalize RN 4 l b = r at *
  obtain ⟨n, l', b'⟩ := r
  simp only at hbd HN ⊢
  obtain ⟨hn0, hn1, hl', hby'⟩ := hbd
  obtain ⟨m, rfl⟩ := Int.eq_ofNat_of_zero_le hn0
  have hn2 : m < 4294967296 := by omega
  clear h hn1
  go_enter Tryz.func82, Tryz.ntmps82
  go_wp2_with fail
  refine HN.out.mono ?_
  rintro e w1 ⟨rfl, ⟨p', hp', hr'⟩, ho⟩
  obtain ⟨ao, c, rfl, hc1, hc2, _⟩ := id hr'.2.1
  have h0 := cell_two0 hr'.1
  have h1 := cell_two1 hr'.1
  have hf := free_two hr'.1 0
  have hbb : b' = true ∨ b' = false := by cases b' <;> simp
  rcases hbb with rfl | rfl
  · have hend := Lib.hid (rby_bad (f := BF true most m l'.length) (n := m) (by simp [BF]) hp' hr' ho)
    go_wp2_with (go_at_call 153; refine (rspoil_any R _ _ _ hr'.1).mono ?_; rintro e w' ⟨rfl, rfl⟩)
    go_ret
    exact hend.out
  · by_cases k0 : most < 0
    · have d0 : decide (most < 0) = true := by simpa using k0
      have hend := Lib.hid (rby_bad (f := BF false most m l'.length) (n := m) (by simp [BF, k0]) hp' hr' ho)
      go_wp2_with (go_at_call 153; refine (rspoil_any R _ _ _ hr'.1).mono ?_; rintro e w' ⟨rfl, rfl⟩)
      go_ret
      exact hend.out
    · have d0 : decide (most < 0) = false := by simpa using k0
      by_cases k1 : most < m
      · have d1 : decide (most < (m : Int)) = true := by simpa using k1
        have hend := Lib.hid (rby_bad (f := BF false most m l'.length) (n := m) (by simp [BF, k1]) hp' hr' ho)
        go_wp2_with (go_at_call 153; refine (rspoil_any R _ _ _ hr'.1).mono ?_; rintro e w' ⟨rfl, rfl⟩)
        go_ret
        exact hend.out
      · have d1 : decide (most < (m : Int)) = false := by simpa using k1
        by_cases k2 : l'.length < m
        · have d2 : decide ((l'.length : Int) < (m : Int)) = true := by simpa using k2
          have hend := Lib.hid (rby_bad (f := BF false most m l'.length) (n := m) (by simp [BF, k2]) hp' hr' ho)
          go_wp2_with (go_at_call 153; refine (rspoil_any R _ _ _ hr'.1).mono ?_; rintro e w' ⟨rfl, rfl⟩)
          go_ret
          exact hend.out
        · have d2 : decide ((l'.length : Int) < (m : Int)) = false := by simpa using k2
          have hBF : Hid (BF false most m l'.length = false) := show _ = _ by simp only [BF, d0, d1, d2, Bool.or_false]
          have hsrc0 := src_take hr'.2.1 (Nat.le_of_not_lt k2)
          rw [← List.map_take] at hsrc0
          have hsrc := Lib.hid hsrc0
          have hm9 : m ≤ 1000000000 := by omega
          clear hsrc0 hn2
          have hm0 : 0 ≤ most := by omega
          have hm1 := hm.2
          go_wp2_with (at_builtin; refine wpList_append_src rfl _ _ 50 rfl 5 i0 (.int .u8 0) 1 1 Tryz.underlying50 hi hz0 hz1 hz2 rfl (by decide) (.slice none 0 0) 0 [] rfl (World.ownsRow_nil _ _ _ _) _ m _ rfl hsrc.out (one_ints _ _) (by unfold maxLen; omega) (by omega) ?_; intro v' w2 g1 g2 g3; simp only [Nat.zero_add, List.nil_append] at g1; obtain ⟨ao', cc', rfl⟩ := own_slice g1; have hR2 := (Only.grown (L := []) g2 (by simp [Value.ownBlock])).at hr'.1 (by simp); have h0' := cell_two0 hR2; have hf' := free_two hR2 0)
          all_goals go_ret
          all_goals rw [hBF.out]
          · have hcm : c = m := by assumption
            obtain ⟨q1, q2, q3⟩ := isr_adv hr' (Only.grown (L := []) g2 (by simp [Value.ownBlock])) (Nat.le_of_not_lt k2) (.inl ⟨hcm, rfl⟩)
            exact rby_good hp' ho (Nat.le_of_not_lt k2) g1 g3 hR2 q1 q2 q3
          · obtain ⟨q1, q2, q3⟩ := isr_adv hr' (Only.grown (L := []) g2 (by simp [Value.ownBlock])) (Nat.le_of_not_lt k2) (.inr rfl)
            exact rby_good hp' ho (Nat.le_of_not_lt k2) g1 g3 hR2 q1 q2 q3
end Go.Proofs.YtjfmelmiegnmjaaGreatDoor
end

section
namespace Go.Proofs.YtjfmelmiegnmjaaGreatDoor
open Go.RowKit Go.Pw
set_option linter.all false
set_option maxRecDepth 100000
theorem Byt.app {a b : List Int} (ha : Byt a) (hb : Byt b) : Byt (a ++ b) := fun x hx => by
  rcases List.mem_append.1 hx with h | h
  · exact ha x h
  · exact hb x h
theorem Byt.nil : Byt [] := fun x hx => by simp at hx
def Rd (w : World) (v : Value) (xs : List Int) : Prop := Src w v 1 xs.length (xs.map (Value.int .u8))
theorem Rd.nil (w : World) : Rd w (.slice none 0 0) [] := ⟨none, 0, rfl, Nat.le_refl _, Nat.zero_le _, rfl, fun _ => ⟨rfl, rfl⟩, by simp⟩
theorem Rd.new {w w' : World} {v : Value} {xs : List Int} (h : Rd w v xs) (ho : Only w w' []) : Rd w' v xs := Src.off h ho (fun _ _ _ => by simp)
theorem Rd.slice {w : World} {v : Value} {xs : List Int} (h : Rd w v xs) : ∃ ao c, v = .slice ao xs.length c := by
  obtain ⟨ao, c, h, _⟩ := h
  exact ⟨ao, c, h⟩
def U32 (n : Int) : Prop := 0 ≤ n ∧ n < 4294967296
theorem pow4 : (256 : Int) ^ 4 = 4294967296 := by decide
theorem own_rd {w : World} {v : Value} {xs : List Int} (h : w.ownsRow 0 5 1 v xs.length (xs.map (Value.int .u8))) : Rd w v xs := own_src h
end Go.Proofs.YtjfmelmiegnmjaaGreatDoor
end

section
namespace Go.Proofs.YtjfmelmiegnmjaaGreatDoor
open Go.RowKit Go.Pw
set_option linter.all false
set_option maxRecDepth 100000
def pN (s : List Int × Bool) : Int × List Int × Bool := RN 4 s.1 s.2
def pB (s : List Int × Bool) : List Int × List Int × Bool :=
  let r := RN 4 s.1 s.2
  let f := BF r.2.2 65536 r.1 r.2.1.length
  (BV f r.1 r.2.1, BR f r.1 r.2.1, f)
def pF (s : List Int × Bool) : Bool × List Int × Bool :=
  let r := RN 1 s.1 s.2
  (FV r.1, r.2.1, FB r.2.2 1 r.1)
def Got (W w : World) (v : Value) (xs : List Int) : Prop := (∃ ao c, v = .slice ao xs.length c) ∧ Rd w v xs ∧ (∀ k, v.ownBlock = some k → W.heap.size ≤ k) ∧ Byt xs
theorem Got.next {W w w' : World} {v : Value} {xs : List Int} {L : List Nat} (h : Got W w v xs) (ho : Only w w' L) (hL : ∀ k ∈ L, k < W.heap.size) : Got W w' v xs := by
  obtain ⟨h1, h2, h3, h4⟩ := h
  exact ⟨h1, Src.off h2 ho (fun _ k hk hm => by have := h3 k hk; have := hL k hm; omega), h3, h4⟩
theorem Got.mono {W W' w : World} {v : Value} {xs : List Int} (h : Got W w v xs) (hs : W'.heap.size ≤ W.heap.size) : Got W' w v xs := ⟨h.1, h.2.1, fun k hk => Nat.le_trans hs (h.2.2.1 k hk), h.2.2.2⟩
theorem got_nil (W w : World) : Got W w (.slice none 0 0) [] := ⟨⟨none, 0, rfl⟩, Rd.nil w, fun k hk => by simp [Value.ownBlock] at hk, fun x hx => by simp at hx⟩
structure RT (R : Nat) (p : Value) (s : List Int × Bool) (W w : World) : Prop where
  rs : RS R p s.1 s.2 W w
  len : s.1.length ≤ 1000000000
  le : s.1.length ≤ slen p
  plt : 0 < slen p → ∀ k, p.ownBlock = some k → k < W.heap.size
  rlt : R < W.heap.size
theorem RT.only {R : Nat} {p : Value} {s : List Int × Bool} {W w : World} (h : RT R p s W w) : Only W w [R] := h.rs.2
theorem RT.step {R : Nat} {p p1 : Value} {s s' : List Int × Bool} {W w1 w2 : World} (h0 : RT R p s W w1) (hp : p1.ownBlock = p.ownBlock) (h : RS R p1 s'.1 s'.2 w1 w2) (hs : s'.1.length ≤ s.1.length) : RT R p s' W w2 := by
  obtain ⟨⟨p', h1, h2⟩, h3⟩ := h
  have := h0.len
  have := h0.le
  exact ⟨⟨⟨p', h1.trans hp, h2⟩, h0.only.trans h3⟩, by omega, by omega, h0.plt, h0.rlt⟩
theorem rs_new {R : Nat} {p : Value} {s : List Int × Bool} {w w' : World} {L : List Nat} (h : ∃ p', p'.ownBlock = p.ownBlock ∧ IsR 274 R p' s.1 s.2 w) (hl : s.1.length ≤ slen p) (ho : Only w w' L) (hR : R ∉ L) (hp : Off p L) : ∃ p', p'.ownBlock = p.ownBlock ∧ IsR 274 R p' s.1 s.2 w' := by
  obtain ⟨p', h1, h2, h3, h4⟩ := h
  refine ⟨p', h1, ho.at h2 hR, ?_, h4⟩
  refine Src.off h3 ho (fun hm k hk hkL => ?_)
  obtain ⟨ao, c, rfl, _⟩ := id h3
  exact hp (Nat.lt_of_lt_of_le hm hl) k (h1 ▸ hk) hkL
theorem RT.keep {R : Nat} {p : Value} {s : List Int × Bool} {W w w' : World} {L : List Nat} (h : RT R p s W w) (ho : Only w w' L) (hL : ∀ k ∈ L, W.heap.size ≤ k) : RT R p s W w' := by
  have hR : R ∉ L := fun hm => by have := hL R hm; have := h.rlt; omega
  have hp : Off p L := fun hm k hk hkL => by have := h.plt hm k hk; have := hL k hkL; omega
  exact ⟨⟨rs_new h.rs.1 h.le ho hR hp, h.only.step ho (fun i hi => .inr (hL i hi))⟩, h.len, h.le, h.plt, h.rlt⟩
theorem RT.new {R : Nat} {p : Value} {s : List Int × Bool} {W w w' : World} (h : RT R p s W w) (ho : Only w w' []) : RT R p s W w' := h.keep ho (by simp)
theorem RT.here {R : Nat} {p : Value} {s : List Int × Bool} {W w : World} (h : RT R p s W w) : RT R p s w w :=
  ⟨⟨h.rs.1, Only.refl _ _⟩, h.len, h.le, fun hm k hk => Nat.lt_of_lt_of_le (h.plt hm k hk) h.only.size, Nat.lt_of_lt_of_le h.rlt h.only.size⟩
theorem RT.back {R : Nat} {p : Value} {s s' : List Int × Bool} {W w w' : World} (h : RT R p s W w) (k : RT R p s' w w') : RT R p s' W w' :=
  ⟨⟨k.rs.1, h.only.trans k.only⟩, k.len, k.le, h.plt, h.rlt⟩
theorem rnum_rt {R : Nat} {p : Value} {s : List Int × Bool} {W w : World} (h : RT R p s W w) :
    Calls Tryz.prog 85 #[.pointer (some ⟨R, 0, none⟩), .int .i64 4] w fun e w' => ∃ n s', Hid (pN s = (n, s')) ∧ e = .returned (.int .u64 n) ∧ 0 ≤ n ∧ n < 4294967296 ∧ RT R p s' W w' := by
  obtain ⟨⟨p1, h1, h2⟩, h3⟩ := id h.rs
  have h4 := h.len
  have hb := RN_bd 4 s.1 s.2 h2.2.2
  refine (rnum_any R p1 s.1 s.2 4 w h2 h4 (by decide)).mono ?_
  rintro e w' ⟨rfl, k⟩
  refine ⟨_, (RN 4 s.1 s.2).2, rfl, rfl, hb.1, by have := hb.2.1; rw [pow4] at this; exact this, RT.step h h1 k hb.2.2.1⟩
theorem rflag_rt {R : Nat} {p : Value} {s : List Int × Bool} {W w : World} (h : RT R p s W w) :
    Calls Tryz.prog 83 #[.pointer (some ⟨R, 0, none⟩)] w fun e w' => ∃ b s', Hid (pF s = (b, s')) ∧ e = .returned (.bool b) ∧ RT R p s' W w' := by
  obtain ⟨⟨p1, h1, h2⟩, h3⟩ := id h.rs
  have h4 := h.len
  have hb := RN_bd 1 s.1 s.2 h2.2.2
  refine (rflag_any R p1 s.1 s.2 w h2 h4).mono ?_
  rintro e w' ⟨rfl, k⟩
  exact ⟨_, (pF s).2, rfl, rfl, RT.step h h1 k hb.2.2.1⟩
theorem rbytes_rt {R : Nat} {p : Value} {s : List Int × Bool} {W w : World} (h : RT R p s W w) :
    Calls Tryz.prog 82 #[.pointer (some ⟨R, 0, none⟩), .int .i64 65536] w fun e w' => ∃ v xs s', Hid (pB s = (xs, s')) ∧ e = .returned v ∧ Got W w' v xs ∧ xs.length ≤ 65536 ∧ RT R p s' W w' := by
  obtain ⟨⟨p1, h1, h2⟩, h3⟩ := id h.rs
  have h4 := h.len
  have hb := RN_bd 4 s.1 s.2 h2.2.2
  refine (rbytes_any R p1 s.1 s.2 65536 w h2 h4 (by decide)).mono ?_
  rintro e w' ⟨v, rfl, g1, g2, k⟩
  obtain ⟨ao, c, rfl⟩ := own_slice g1
  have hl : (pB s).2.1.length ≤ s.1.length ∧ (pB s).1.length ≤ 65536 ∧ Byt (pB s).1 := by
    unfold pB
    simp only
    generalize hr : RN 4 s.1 s.2 = r at *
    cases hf : BF r.2.2 65536 r.1 r.2.1.length
    · simp only [BF, Bool.or_eq_false_iff, decide_eq_false_iff_not] at hf
      refine ⟨?_, ?_, fun y hy => hb.2.2.2 y ?_⟩
      · simp [BR]; omega
      · simp [BV]; omega
      · simp [BV] at hy; exact List.mem_of_mem_take hy
    · exact ⟨by simp [BR]; omega, by simp [BV], fun y hy => by simp [BV] at hy⟩
  refine ⟨_, (pB s).1, (pB s).2, rfl, rfl, ⟨⟨_, _, rfl⟩, own_rd g1, fun k hk => ?_, hl.2.2⟩, hl.2.1, RT.step h h1 k hl.1⟩
  rcases g2 k hk with h | h
  · simp [Value.ownBlock] at h
  · exact Nat.le_trans h3.size h
def pW (s : List Int × Bool) : (Int × Int) × List Int × Bool :=
  let a := pN s
  let b := pN a.2
  ((a.1, b.1), b.2)
def pI (s : List Int × Bool) : (List Int × List Int) × List Int × Bool :=
  let a := pB s
  let b := pB a.2
  ((a.1, b.1), b.2)
def Ans {α : Type} (f : List Int × Bool → α × List Int × Bool) (R : Nat) (p : Value) (s : List Int × Bool) (W : World) (ok : α → Value → World → Prop) (e : Ending) (w' : World) : Prop :=
  ∃ a s' v, f s = (a, s') ∧ e = .returned v ∧ ok a v w' ∧ RT R p s' W w'
def OkWho (a : Int × Int) (v : Value) (_ : World) : Prop := v = .agg #[.int .i64 a.1, .int .i64 a.2] ∧ U32 a.1 ∧ U32 a.2
set_option maxHeartbeats 800000 in
theorem readwho_rt {R : Nat} {p : Value} {s : List Int × Bool} {W w : World} (h : RT R p s W w) :
    Calls Tryz.prog 81 #[.pointer (some ⟨R, 0, none⟩)] w (Ans pW R p s W OkWho) := by
  go_enter Tryz.func81, Tryz.ntmps81
  go_wp2_with fail
  obtain ⟨W0, X, hW, hX, hb, hoW, hX1, hX2⟩ := new_block w (.cells #[.int .i64 0, .int .i64 0] 23)
  rw [← hW, ← hX]
  clear hW hX
  have hWX : W.heap.size ≤ X := Nat.le_trans h.only.size hX1
  have hRX : X ∉ [R] := by have := h.rlt; simp; omega
  refine (rnum_rt (h.new hoW).here).mono ?_
  rintro e w1 ⟨n1, s1, H1, rfl, lo1, hi1, r1⟩
  go_wp2_with fail
  refine (rnum_rt r1).mono ?_
  rintro e w2 ⟨n2, s2, H2, rfl, lo2, hi2, r2⟩
  have hb2 := r2.only.at hb hRX
  have c0 := cell_in hb2 0
  have c1 := cell_in hb2 1
  have f0 := free_in hb2 0
  have f1 := free_in hb2 1
  go_wp2_with fail
  have hb3 := set_at (i := 1) (set_at (i := 0) hb2 (.int .i64 n1)) (.int .i64 n2)
  have d0 := cell_in hb3 0
  have d1 := cell_in hb3 1
  have ho : Only w2 ((w2.setCell ⟨X, 0, none⟩ (.int .i64 n1)).setCell ⟨X, 1, none⟩ (.int .i64 n2)) [X] := (Only.setCell _ _ _ _ (by simp)).trans (Only.setCell _ _ _ _ (by simp))
  generalize (w2.setCell ⟨X, 0, none⟩ (.int .i64 n1)).setCell ⟨X, 1, none⟩ (.int .i64 n2) = w3 at *
  simp at d0 d1
  refine bodyPost_ret (v := .agg #[.int .i64 n1, .int .i64 n2]) (by simp [results, Tryz.results81, go_sem, d0, d1]) rfl ?_
  exact ⟨(n1, n2), s2, _, by simp [pW, H1.out, H2.out], rfl, ⟨rfl, ⟨lo1, hi1⟩, lo2, hi2⟩, ((h.new hoW).back r2).keep ho (by simpa using hWX)⟩
end Go.Proofs.YtjfmelmiegnmjaaGreatDoor
end

section
namespace Go.Proofs.YtjfmelmiegnmjaaGreatDoor
open Go.RowKit Go.Pw
set_option linter.all false
set_option maxRecDepth 100000
def setAll (w : World) (X : Nat) : Nat → List Value → World
  | _, [] => w
  | i, v :: vs => setAll (w.setCell ⟨X, i, none⟩ v) X (i + 1) vs
def putAll (cs : Array Value) : Nat → List Value → Array Value
  | _, [] => cs
  | i, v :: vs => putAll (cs.setIfInBounds i v) (i + 1) vs
theorem setAll_only (X : Nat) (vs : List Value) : ∀ (w : World) (i : Nat), Only w (setAll w X i vs) [X] := by
  induction vs with
  | nil => intro w i; exact Only.refl _ _
  | cons v vs ih => intro w i; exact (Only.setCell w ⟨X, i, none⟩ v [X] (by simp)).trans (ih _ _)
theorem setAll_at {X : Nat} {T : TypeId} {fr : Nat × Nat} (vs : List Value) : ∀ {w : World} {cs : Array Value} (i : Nat), w.heap[X]? = some (.cells cs T fr) → (setAll w X i vs).heap[X]? = some (.cells (putAll cs i vs) T fr) := by
  induction vs with
  | nil => intro w cs i h; exact h
  | cons v vs ih => intro w cs i h; exact ih (i + 1) (set_at h v)
def OkIdent (W : World) (a : List Int × List Int) (v : Value) (w : World) : Prop := ∃ va vs, v = .agg #[va, vs] ∧ Got W w va a.1 ∧ Got W w vs a.2 ∧ a.1.length ≤ 65536 ∧ a.2.length ≤ 65536
set_option maxHeartbeats 800000 in
theorem readident_rt {R : Nat} {p : Value} {s : List Int × Bool} {W w : World} (h : RT R p s W w) :
    Calls Tryz.prog 154 #[.pointer (some ⟨R, 0, none⟩)] w (Ans pI R p s W (OkIdent w)) := by
  go_enter Tryz.func154, Tryz.ntmps154
  go_wp2_with fail
  obtain ⟨W0, X, hW, hX, hb, hoW, hX1, hX2⟩ := new_block w (.cells #[.slice none 0 0, .slice none 0 0] 53)
  rw [← hW, ← hX]
  clear hW hX
  have hWX : W.heap.size ≤ X := Nat.le_trans h.only.size hX1
  have hRX : X ∉ [R] := by have := h.rlt; simp; omega
  refine (rbytes_rt (h.new hoW).here).mono ?_
  rintro e w1 ⟨v1, x1, s1, H1, rfl, g1, l1, r1⟩
  obtain ⟨⟨a1, c1, rfl⟩, _⟩ := id g1
  go_wp2_with fail
  refine (rbytes_rt r1.here).mono ?_
  rintro e w2 ⟨v2, x2, s2, H2, rfl, g2, l2, r2⟩
  obtain ⟨⟨a2, c2, rfl⟩, _⟩ := id g2
  have hb2 := (r1.back r2).only.at hb hRX
  have k1 := g1.next r2.only (by have := (h.new hoW).here.rlt; simpa using this)
  have e0 := cell_in hb2 0
  have e1 := cell_in hb2 1
  have f0 := free_in hb2 0
  have f1 := free_in hb2 1
  go_wp2_with fail
  have hb3 := (set_at (i := 1) (set_at (i := 0) hb2 (.slice a1 x1.length c1)) (.slice a2 x2.length c2))
  have d0 := cell_in hb3 0
  have d1 := cell_in hb3 1
  have ho : Only w2 ((w2.setCell ⟨X, 0, none⟩ (.slice a1 x1.length c1)).setCell ⟨X, 1, none⟩ (.slice a2 x2.length c2)) [X] := by repeat (first | exact Only.setCell _ _ _ _ (by simp) | refine Only.trans ?_ (Only.setCell _ _ _ _ (by simp)))
  generalize ((w2.setCell ⟨X, 0, none⟩ (.slice a1 x1.length c1)).setCell ⟨X, 1, none⟩ (.slice a2 x2.length c2)) = w3 at *
  simp at d0 d1
  have hX0 : ∀ k ∈ [X], k < W0.heap.size := by simpa using hX2
  refine bodyPost_ret (v := .agg #[.slice a1 x1.length c1, .slice a2 x2.length c2]) (by simp [results, Tryz.results154, go_sem, d0, d1]) rfl ?_
  refine ⟨(x1, x2), s2, _, by simp [pI, H1.out, H2.out], rfl, ⟨_, _, rfl, (k1.next ho hX0).mono hoW.size, ((g2.mono r1.only.size).next ho hX0).mono hoW.size, l1, l2⟩, ((h.new hoW).back (r1.back r2)).keep ho (by simpa using hWX)⟩
structure HelloD where
  ag : List Int
  sg : List Int
  key : List Int
  signed : Int
  has : Bool
  once : Int
def pH (s : List Int × Bool) : HelloD × List Int × Bool :=
  let i := pI s
  let k := pB i.2
  let g := pN k.2
  let h := pF g.2
  if h.1 then let o := pN h.2; (⟨i.1.1, i.1.2, k.1, g.1, true, o.1⟩, o.2) else (⟨i.1.1, i.1.2, k.1, g.1, false, 0⟩, h.2)
structure GotH (W w : World) (a : HelloD) (va vs vk : Value) : Prop where
  ga : Got W w va a.ag
  gs : Got W w vs a.sg
  gk : Got W w vk a.key
  la : a.ag.length ≤ 65536
  ls : a.sg.length ≤ 65536
  lk : a.key.length ≤ 65536
  us : U32 a.signed
  uo : U32 a.once
theorem GotH.next {W w w' : World} {a : HelloD} {va vs vk : Value} {L : List Nat} (h : GotH W w a va vs vk) (ho : Only w w' L) (hL : ∀ k ∈ L, k < W.heap.size) : GotH W w' a va vs vk :=
  ⟨h.ga.next ho hL, h.gs.next ho hL, h.gk.next ho hL, h.la, h.ls, h.lk, h.us, h.uo⟩
theorem Got.keep {W w w' : World} {v : Value} {xs : List Int} {L : List Nat} (h : Got W w v xs) (ho : Only w w' L) (hL : ∀ k ∈ L, k < W.heap.size ∨ w.heap.size ≤ k) : Got W w' v xs := by
  obtain ⟨h1, h2, h3, h4⟩ := h
  refine ⟨h1, Src.off h2 ho (fun hm k hk hkL => ?_), h3, h4⟩
  have a1 := h3 k hk
  have a2 := Src.lt h2 (by decide) hm k hk
  rcases hL k hkL with h | h <;> omega
theorem GotH.keep {W w w' : World} {a : HelloD} {va vs vk : Value} {L : List Nat} (h : GotH W w a va vs vk) (ho : Only w w' L) (hL : ∀ k ∈ L, k < W.heap.size ∨ w.heap.size ≤ k) : GotH W w' a va vs vk :=
  ⟨h.ga.keep ho hL, h.gs.keep ho hL, h.gk.keep ho hL, h.la, h.ls, h.lk, h.us, h.uo⟩
theorem GotH.mono {W W' w : World} {a : HelloD} {va vs vk : Value} (h : GotH W w a va vs vk) (hs : W'.heap.size ≤ W.heap.size) : GotH W' w a va vs vk :=
  ⟨h.ga.mono hs, h.gs.mono hs, h.gk.mono hs, h.la, h.ls, h.lk, h.us, h.uo⟩
def OkHello (W : World) (a : HelloD) (v : Value) (w : World) : Prop := ∃ va vs vk, v = .agg #[va, vs, vk, .int .u32 a.signed, .bool a.has, .int .u32 a.once] ∧ GotH W w a va vs vk
set_option maxRecDepth 100000 in
set_option maxHeartbeats 1600000 in
theorem readhello_rt {R : Nat} {p : Value} {s : List Int × Bool} {W w : World} (h : RT R p s W w) :
    Calls Tryz.prog 84 #[.pointer (some ⟨R, 0, none⟩)] w (Ans pH R p s W (OkHello w)) := by
  go_enter Tryz.func84, Tryz.ntmps84
  go_wp2_with fail
  obtain ⟨W0, X, hW, hX, hb, hoW, hX1, hX2⟩ := new_block w (.cells #[.slice none 0 0, .slice none 0 0, .slice none 0 0, .int .u32 0, .bool false, .int .u32 0] 88)
  rw [← hW, ← hX]
  clear hW hX
  have hWX : W.heap.size ≤ X := Nat.le_trans h.only.size hX1
  have hRX : X ∉ [R] := by have := h.rlt; simp; omega
  refine (readident_rt (h.new hoW).here).mono ?_
  rintro e w1 ⟨⟨x1, x2⟩, s1, v1, H1, rfl, ⟨va, vs, rfl, g1, g2, l1, l2⟩, r1⟩
  obtain ⟨⟨a1, c1, rfl⟩, _⟩ := id g1
  obtain ⟨⟨a2, c2, rfl⟩, _⟩ := id g2
  have H1 := Lib.hid H1
  go_wp2_with fail
  refine (rbytes_rt r1.here).mono ?_
  rintro e w2 ⟨v3, x3, s2, H2, rfl, g3, l3, r2⟩
  obtain ⟨⟨a3, c3, rfl⟩, _⟩ := id g3
  go_wp2_with fail
  refine (rnum_rt r2.here).mono ?_
  rintro e w3 ⟨n4, s3, H3, rfl, lo4, hi4, r3⟩
  go_wp2_with fail
  refine (rflag_rt r3.here).mono ?_
  rintro e w4 ⟨b5, s4, H4, rfl, r4⟩
  have r04 : RT R p s4 W0 w4 := ((r1.back r2).back r3).back r4
  have hR0 : ∀ k ∈ [R], k < W0.heap.size := by have := (h.new hoW).here.rlt; simpa using this
  have g1 := ((g1.next r2.only hR0).next r3.only hR0).next r4.only hR0
  have g2 := ((g2.next r2.only hR0).next r3.only hR0).next r4.only hR0
  have g3 := ((g3.mono r1.only.size).next r3.only hR0).next r4.only hR0
  have hb4 := r04.only.at hb hRX
  cases b5
  · have e0 := cell_al (cell_in hb4 0)
    have e1 := cell_al (cell_in hb4 1)
    have e2 := cell_al (cell_in hb4 2)
    have e3 := cell_al (cell_in hb4 3)
    have e4 := cell_al (cell_in hb4 4)
    have e5 := cell_al (cell_in hb4 5)
    have f0 := free_al (cell_in hb4 0) (free_in hb4 0)
    have f1 := free_al (cell_in hb4 1) (free_in hb4 1)
    have f2 := free_al (cell_in hb4 2) (free_in hb4 2)
    have f3 := free_al (cell_in hb4 3) (free_in hb4 3)
    have f4 := free_al (cell_in hb4 4) (free_in hb4 4)
    have f5 := free_al (cell_in hb4 5) (free_in hb4 5)
    go_wp2_with fail
    have hbV := (Only.alloc w4 (.cells #[.slice a1 x1.length c1, .slice a2 x2.length c2, .slice a3 x3.length c3, .int .u32 n4, .bool false, .int .u32 0] 88) []).at hb4 (by simp)
    have hoV := Only.alloc w4 (.cells #[.slice a1 x1.length c1, .slice a2 x2.length c2, .slice a3 x3.length c3, .int .u32 n4, .bool false, .int .u32 0] 88) []
    generalize hE : (((((((w4.alloc (.cells #[.slice a1 x1.length c1, .slice a2 x2.length c2, .slice a3 x3.length c3, .int .u32 n4, .bool false, .int .u32 0] 88)).setCell ⟨X, 0, none⟩ (.slice a1 x1.length c1)).setCell ⟨X, 1, none⟩ (.slice a2 x2.length c2)).setCell ⟨X, 2, none⟩ (.slice a3 x3.length c3)).setCell ⟨X, 3, none⟩ (.int .u32 n4)).setCell ⟨X, 4, none⟩ (.bool false)).setCell ⟨X, 5, none⟩ (.int .u32 0)) = wE
    have hE0 : wE = setAll (w4.alloc (.cells #[.slice a1 x1.length c1, .slice a2 x2.length c2, .slice a3 x3.length c3, .int .u32 n4, .bool false, .int .u32 0] 88)) X 0 [.slice a1 x1.length c1, .slice a2 x2.length c2, .slice a3 x3.length c3, .int .u32 n4, .bool false, .int .u32 0] := hE.symm
    clear hE
    have hoE : Only (w4.alloc (.cells #[.slice a1 x1.length c1, .slice a2 x2.length c2, .slice a3 x3.length c3, .int .u32 n4, .bool false, .int .u32 0] 88)) wE [X] := hE0 ▸ setAll_only _ _ _ _
    have hbE : wE.heap[X]? = _ := hE0 ▸ setAll_at _ 0 hbV
    have d0 : wE.cell? ⟨X, 0, none⟩ = some (.slice a1 x1.length c1) := (cell_in hbE 0).trans rfl
    have d1 : wE.cell? ⟨X, 1, none⟩ = some (.slice a2 x2.length c2) := (cell_in hbE 1).trans rfl
    have d2 : wE.cell? ⟨X, 2, none⟩ = some (.slice a3 x3.length c3) := (cell_in hbE 2).trans rfl
    have d3 : wE.cell? ⟨X, 3, none⟩ = some (.int .u32 n4) := (cell_in hbE 3).trans rfl
    have d4 : wE.cell? ⟨X, 4, none⟩ = some (.bool false) := (cell_in hbE 4).trans rfl
    have d5 : wE.cell? ⟨X, 5, none⟩ = some (.int .u32 0) := (cell_in hbE 5).trans rfl
    clear hE0
    have hX0 : ∀ k ∈ [X], k < W0.heap.size := by simpa using hX2
    refine bodyPost_ret (v := .agg #[.slice a1 x1.length c1, .slice a2 x2.length c2, .slice a3 x3.length c3, .int .u32 n4, .bool false, .int .u32 0]) (by simp [results, Tryz.results84, go_sem, d0, d1, d2, d3, d4, d5]) rfl ?_
    refine ⟨⟨x1, x2, x3, n4, false, 0⟩, s4, _, by simp [pH, H1.out, H2.out, H3.out, H4.out], rfl, ⟨_, _, _, rfl, ((GotH.next (L := []) ⟨g1, g2, g3, l1, l2, l3, ⟨lo4, hi4⟩, by simp [U32]⟩ hoV (by simp)).next hoE hX0).mono hoW.size⟩, (((h.new hoW).back r04).new hoV).keep hoE (by simpa using hWX)⟩
  · go_wp2_with fail
    obtain ⟨W5, Y, hW, hY, hy, hoY, hY1, hY2⟩ := new_block w4 (.cells #[.slice a1 x1.length c1, .slice a2 x2.length c2, .slice a3 x3.length c3, .int .u32 n4, .bool true, .int .u32 0] 88)
    rw [← hW, ← hY]
    clear hW hY
    have hRY : Y ∉ [R] := by have := r4.here.rlt; simp; omega
    refine (rnum_rt (r4.here.new hoY).here).mono ?_
    rintro e w5 ⟨n6, s5, H5, rfl, lo6, hi6, r5⟩
    have hy5 := r5.only.at hy hRY
    have hb5 := r5.only.at (hoY.at hb4 (by simp)) hRX
    have hne : X ≠ Y := by have := (Array.getElem?_eq_some_iff.1 hb4).1; omega
    have hne' : Y ≠ X := fun h => hne h.symm
    have y0 := cell_in hy5 0
    have y1 := cell_in hy5 1
    have y2 := cell_in hy5 2
    have y3 := cell_in hy5 3
    have y4 := cell_in hy5 4
    have y5 := cell_in hy5 5
    have yf0 := free_in hy5 0
    have yf1 := free_in hy5 1
    have yf2 := free_in hy5 2
    have yf3 := free_in hy5 3
    have yf4 := free_in hy5 4
    have yf5 := free_in hy5 5
    have x_0 := cell_in hb5 0
    have x_1 := cell_in hb5 1
    have x_2 := cell_in hb5 2
    have x_3 := cell_in hb5 3
    have x_4 := cell_in hb5 4
    have x_5 := cell_in hb5 5
    have xf0 := free_in hb5 0
    have xf1 := free_in hb5 1
    have xf2 := free_in hb5 2
    have xf3 := free_in hb5 3
    have xf4 := free_in hb5 4
    have xf5 := free_in hb5 5
    go_wp2_with fail
    have hoV : Only w5 (w5.setCell ⟨Y, 5, none⟩ (.int .u32 n6)) [Y] := Only.setCell _ _ _ _ (by simp)
    have hbV := hoV.at hb5 (by simpa using hne)
    generalize hE : (((((((w5.setCell ⟨Y, 5, none⟩ (.int .u32 n6)).setCell ⟨X, 0, none⟩ (.slice a1 x1.length c1)).setCell ⟨X, 1, none⟩ (.slice a2 x2.length c2)).setCell ⟨X, 2, none⟩ (.slice a3 x3.length c3)).setCell ⟨X, 3, none⟩ (.int .u32 n4)).setCell ⟨X, 4, none⟩ (.bool true)).setCell ⟨X, 5, none⟩ (.int .u32 n6)) = wE
    have hE0 : wE = setAll (w5.setCell ⟨Y, 5, none⟩ (.int .u32 n6)) X 0 [.slice a1 x1.length c1, .slice a2 x2.length c2, .slice a3 x3.length c3, .int .u32 n4, .bool true, .int .u32 n6] := hE.symm
    clear hE
    have hoE : Only (w5.setCell ⟨Y, 5, none⟩ (.int .u32 n6)) wE [X] := hE0 ▸ setAll_only _ _ _ _
    have hbE : wE.heap[X]? = _ := hE0 ▸ setAll_at _ 0 hbV
    have d0 : wE.cell? ⟨X, 0, none⟩ = some (.slice a1 x1.length c1) := (cell_in hbE 0).trans rfl
    have d1 : wE.cell? ⟨X, 1, none⟩ = some (.slice a2 x2.length c2) := (cell_in hbE 1).trans rfl
    have d2 : wE.cell? ⟨X, 2, none⟩ = some (.slice a3 x3.length c3) := (cell_in hbE 2).trans rfl
    have d3 : wE.cell? ⟨X, 3, none⟩ = some (.int .u32 n4) := (cell_in hbE 3).trans rfl
    have d4 : wE.cell? ⟨X, 4, none⟩ = some (.bool true) := (cell_in hbE 4).trans rfl
    have d5 : wE.cell? ⟨X, 5, none⟩ = some (.int .u32 n6) := (cell_in hbE 5).trans rfl
    clear hE0
    have hX0 : ∀ k ∈ [X], k < W0.heap.size := by simpa using hX2
    refine bodyPost_ret (v := .agg #[.slice a1 x1.length c1, .slice a2 x2.length c2, .slice a3 x3.length c3, .int .u32 n4, .bool true, .int .u32 n6]) (by simp [results, Tryz.results84, go_sem, d0, d1, d2, d3, d4, d5]) rfl ?_
    have hWY : ∀ k ∈ [Y], W0.heap.size ≤ k := by have := r04.only.size; simp; omega
    have hRr := hR0 R (by simp)
    have hoT : Only w4 wE [R, Y, X] := (((hoY.mono (by simp)).trans (r5.only.mono (fun k _ hk => by simp at hk; simp [hk]))).trans (hoV.mono (fun k _ hk => by simp at hk; simp [hk]))).trans (hoE.mono (fun k _ hk => by simp at hk; simp [hk]))
    have k2 := (GotH.mk (W := W0) (w := w4) (a := ⟨x1, x2, x3, n4, true, n6⟩) g1 g2 g3 l1 l2 l3 ⟨lo4, hi4⟩ ⟨lo6, hi6⟩).keep hoT (by simp; omega)
    exact ⟨⟨x1, x2, x3, n4, true, n6⟩, s5, _, by simp [pH, H1.out, H2.out, H3.out, H4.out, H5.out], rfl, ⟨_, _, _, rfl, k2.mono hoW.size⟩, ((((h.new hoW).back r04).back ((r4.here.new hoY).back r5)).keep hoV (fun k hk => Nat.le_trans (Nat.le_trans h.only.size hoW.size) (hWY k hk))).keep hoE (by simpa using hWX)⟩
end Go.Proofs.YtjfmelmiegnmjaaGreatDoor
end

section
namespace Go.Proofs.YtjfmelmiegnmjaaGreatDoor
open Go.RowKit Go.Pw
set_option linter.all false
set_option maxRecDepth 100000
theorem rend_rt {R : Nat} {p : Value} {s : List Int × Bool} {W w : World} (h : RT R p s W w) :
    Calls Tryz.prog 86 #[.pointer (some ⟨R, 0, none⟩)] w fun e w' => e = .returned (.bool (!s.2 && decide (s.1.length = 0))) ∧ w = w' := by
  obtain ⟨⟨p1, h1, h2⟩, h3⟩ := id h.rs
  exact rend_any R p1 s.1 s.2 w h2
theorem rt_new {w w' : World} {R : Nat} {ao : Option Addr} {c : Nat} {ps : List Int} (h : Rd w (.slice ao ps.length c) ps) (hb : Byt ps) (hl : ps.length ≤ 1000000000) (ho : Only w w' []) (hR : w'.heap[R]? = some (.cells #[.slice ao ps.length c, .bool false] 274 (0, 0))) : RT R (.slice ao ps.length c) (ps, false) w' w' :=
  ⟨⟨⟨_, rfl, hR, h.new ho, hb⟩, Only.refl _ _⟩, hl, Nat.le_refl _, fun hm k hk => Nat.lt_of_lt_of_le (Src.lt h (by decide) hm k hk) ho.size, (Array.getElem?_eq_some_iff.1 hR).1⟩
def Ends (s : List Int × Bool) : Bool := !s.2 && decide (s.1.length = 0)
end Go.Proofs.YtjfmelmiegnmjaaGreatDoor
end

section
namespace Go.Proofs.YtjfmelmiegnmjaaGreatDoor
open Go.RowKit Go.Pw
set_option linter.all false
set_option maxRecDepth 100000
theorem putAll_at (vs : List Value) : ∀ (cs : Array Value) (i j : Nat), i + vs.length ≤ cs.size → (putAll cs i vs)[j]? = if i ≤ j ∧ j < i + vs.length then vs[j - i]? else cs[j]? := by
  induction vs with
  | nil => intro cs i j _; simp [putAll]; omega
  | cons v vs ih =>
    intro cs i j h
    simp only [List.length_cons] at h
    rw [putAll, ih _ _ _ (by simp; omega), Array.getElem?_setIfInBounds]
    by_cases e : i = j
    · subst e
      have g1 : ¬ (i + 1 ≤ i ∧ i < i + 1 + vs.length) := by omega
      have g2 : i ≤ i ∧ i < i + (v :: vs).length := by simp only [List.length_cons]; omega
      rw [if_neg g1, if_pos rfl, if_pos (by omega), if_pos g2, Nat.sub_self]
      rfl
    · by_cases g : i + 1 ≤ j ∧ j < i + 1 + vs.length
      · have g2 : i ≤ j ∧ j < i + (v :: vs).length := by simp only [List.length_cons]; omega
        rw [if_pos g, if_pos g2, show j - i = (j - (i + 1)) + 1 by omega]
        simp
      · have g2 : ¬ (i ≤ j ∧ j < i + (v :: vs).length) := by simp only [List.length_cons]; omega
        rw [if_neg g, if_neg g2, if_neg e]
theorem setAll_lit {X : Nat} {T : TypeId} {fr : Nat × Nat} {w : World} {cs : Array Value} (vs : List Value) (h : w.heap[X]? = some (.cells cs T fr)) (hz : cs.size = vs.length) : (setAll w X 0 vs).heap[X]? = some (.cells vs.toArray T fr) := by
  rw [setAll_at vs 0 h]
  congr 2
  apply Array.ext_getElem?
  intro j
  rw [putAll_at vs cs 0 j (by omega)]
  by_cases g : j < vs.length
  · simp [g]
  · simp [g]
    omega
end Go.Proofs.YtjfmelmiegnmjaaGreatDoor
end

section
namespace Go.Proofs.YtjfmelmiegnmjaaGreatDoor
open Go.RowKit Go.Pw
set_option linter.all false
set_option maxRecDepth 100000
structure EnvD where
  fu : Int
  fd : Int
  tu : Int
  td : Int
  ss : List Int
  has : Bool
  h : HelloD
  dks : List Int
  dp : Int
  dn : Int
  sls : List Int
def h0 : HelloD := ⟨[], [], [], 0, false, 0⟩
def pOH (b : Bool) (s : List Int × Bool) : HelloD × List Int × Bool := if b then pH s else (h0, s)
def pEnv (s : List Int × Bool) : EnvD × List Int × Bool :=
  let a := pW s
  let b := pW a.2
  let t := pB b.2
  let h := pF t.2
  let l := pOH h.1 h.2
  let k := pB l.2
  let p := pN k.2
  let n := pN p.2
  let z := pB n.2
  (⟨a.1.1, a.1.2, b.1.1, b.1.2, t.1, h.1, l.1, k.1, p.1, n.1, z.1⟩, z.2)
structure GotE (W w : World) (a : EnvD) (vs va vg vk vd vz : Value) : Prop where
  gs : Got W w vs a.ss
  gh : GotH W w a.h va vg vk
  gd : Got W w vd a.dks
  gz : Got W w vz a.sls
  ls : a.ss.length ≤ 65536
  ld : a.dks.length ≤ 65536
  lz : a.sls.length ≤ 65536
  ufu : U32 a.fu
  ufd : U32 a.fd
  utu : U32 a.tu
  utd : U32 a.td
  udp : U32 a.dp
  udn : U32 a.dn
theorem GotE.next {W w w' : World} {a : EnvD} {vs va vg vk vd vz : Value} {L : List Nat} (h : GotE W w a vs va vg vk vd vz) (ho : Only w w' L) (hL : ∀ k ∈ L, k < W.heap.size) : GotE W w' a vs va vg vk vd vz :=
  ⟨h.gs.next ho hL, h.gh.next ho hL, h.gd.next ho hL, h.gz.next ho hL, h.ls, h.ld, h.lz, h.ufu, h.ufd, h.utu, h.utd, h.udp, h.udn⟩
theorem GotE.mono {W W' w : World} {a : EnvD} {vs va vg vk vd vz : Value} (h : GotE W w a vs va vg vk vd vz) (hs : W'.heap.size ≤ W.heap.size) : GotE W' w a vs va vg vk vd vz :=
  ⟨h.gs.mono hs, h.gh.mono hs, h.gd.mono hs, h.gz.mono hs, h.ls, h.ld, h.lz, h.ufu, h.ufd, h.utu, h.utd, h.udp, h.udn⟩
theorem goth_nil (W w : World) : GotH W w h0 (.slice none 0 0) (.slice none 0 0) (.slice none 0 0) :=
  ⟨got_nil W w, got_nil W w, got_nil W w, by simp [h0], by simp [h0], by simp [h0], ⟨by simp [h0], by simp [h0]⟩, ⟨by simp [h0], by simp [h0]⟩⟩
def enV (a : EnvD) (vs va vg vk vd vz : Value) : Value := .agg #[.int .i64 a.fu, .int .i64 a.fd, .int .i64 a.tu, .int .i64 a.td, vs, .bool a.has, va, vg, vk, .int .u32 a.h.signed, .bool a.h.has, .int .u32 a.h.once, vd, .int .u32 a.dp, .int .u32 a.dn, vz]
def en0 : Value := .agg #[.int .i64 0, .int .i64 0, .int .i64 0, .int .i64 0, .slice none 0 0, .bool false, .slice none 0 0, .slice none 0 0, .slice none 0 0, .int .u32 0, .bool false, .int .u32 0, .slice none 0 0, .int .u32 0, .int .u32 0, .slice none 0 0]
def DecE (ps : List Int) (w : World) (e : Ending) (w' : World) : Prop :=
  ∃ a s, pEnv (ps, false) = (a, s) ∧ Only w w' [] ∧
    ((Ends s = true ∧ ∃ vs va vg vk vd vz, e = .returned (.tuple #[enV a vs va vg vk vd vz, .int .i64 0]) ∧ GotE w w' a vs va vg vk vd vz) ∨
     (Ends s = false ∧ e = .returned (.tuple #[en0, .int .i64 4])))
end Go.Proofs.YtjfmelmiegnmjaaGreatDoor
end

section
namespace Go.Proofs.YtjfmelmiegnmjaaGreatDoor
open Go.RowKit Go.Pw
set_option linter.all false
set_option maxRecDepth 100000
set_option maxRecDepth 100000 in
set_option maxHeartbeats 12800000 in
theorem decode_ff (p : Value) (ps : List Int) (w : World) (hp : Rd w p ps) (hb : Byt ps) (hl : ps.length ≤ 1000000000) (hflag : (pF (pB (pW (pW (ps, false)).2).2).2).1 = false) (hend : Ends (pEnv (ps, false)).2 = false) :
    Calls Tryz.prog 32 #[p] w (DecE ps w) := by
  obtain ⟨ao, c, rfl⟩ := hp.slice
  go_enter Tryz.func32, Tryz.ntmps32
  go_wp2_with fail
  obtain ⟨W0, X, hW, hX, hbX, hoW, hX1, hX2⟩ := new_block w (.cells #[.int .i64 0, .int .i64 0, .int .i64 0, .int .i64 0, .slice none 0 0, .bool false, .slice none 0 0, .slice none 0 0, .slice none 0 0, .int .u32 0, .bool false, .int .u32 0, .slice none 0 0, .int .u32 0, .int .u32 0, .slice none 0 0] 92)
  rw [← hW, ← hX]
  have hs0 : W0.heap.size = X + 1 := by rw [hW, hX]; simp
  clear hW hX
  refine (rread_any _ _ _ _).mono ?_
  rintro e W1' ⟨rfl, rfl⟩
  obtain ⟨W1, R, hW, hR, hbR, hoR, hR1, hR2⟩ := new_block W0 (.cells #[.slice ao ps.length c, .bool false] 274)
  rw [← hW, ← hR]
  clear hW hR
  have r0 := rt_new hp hb hl (hoW.trans hoR) hbR
  have hXR : X ≠ R := by omega
  have hX0 : X ∉ [R] := by simpa using hXR
  have hX1b := hoR.at hbX (by simp)
  clear hp hb hbX
  go_wp2_with fail
  refine (readwho_rt r0).mono ?_
  rintro e w1 ⟨⟨fu, fd⟩, s1, v1, H1, rfl, ⟨rfl, ufu, ufd⟩, r1⟩
  have H1 := Lib.hid H1
  dsimp only at ufu ufd ⊢
  go_wp2_with fail
  refine (readwho_rt r1.here).mono ?_
  rintro e w2 ⟨⟨tu, td⟩, s2, v2, H2, rfl, ⟨rfl, utu, utd⟩, r2⟩
  have H2 := Lib.hid H2
  dsimp only at utu utd ⊢
  go_wp2_with fail
  refine (rbytes_rt r2.here).mono ?_
  rintro e w3 ⟨v3, x3, s3, H3, rfl, g3, l3, r3⟩
  obtain ⟨⟨a3, c3, rfl⟩, _⟩ := id g3
  go_wp2_with fail
  refine (rflag_rt r3.here).mono ?_
  rintro e w4 ⟨b4, s4, H4, rfl, r4⟩
  have r04 : RT R _ s4 W1 w4 := ((r1.back r2).back r3).back r4
  have hRW := r0.rlt
  have z1 := r1.only.size
  have z2 := r2.only.size
  have z3 := r3.only.size
  have z4 := r4.only.size
  have g3 := (g3.next r4.only (fun k hk => by simp at hk; subst hk; omega)).mono (W' := W1) (by omega)
  have hX4 := r04.only.at hX1b hX0
  have hzW : W1.heap.size ≤ w4.heap.size := by omega
  have hwW : w.heap.size ≤ W1.heap.size := (hoW.trans hoR).size
  have hXW : X < W1.heap.size := by have := hoR.size; omega
  have hXX : ∀ k ∈ [X], w.heap.size ≤ k := by simpa using hX1
  have hXX' : ∀ k ∈ [X], k < W1.heap.size := by simpa using hXW
  have hRw : w.heap.size ≤ R := Nat.le_trans hoW.size hR1
  have ho4 : Only w w4 [] := (hoW.trans hoR).step r04.only (fun k hk => .inr (by simp at hk; subst hk; exact hRw))
  clear r1 r2 r3 r4 z1 z2 z3 z4 hX1b
  have hbv : b4 = false := by have h := hflag; rw [H1.out] at h; simp only at h; rw [H2.out] at h; simp only at h; rw [H3.out] at h; simp only at h; rw [H4.out] at h; exact h
  subst hbv
  go_wp2_with fail
  obtain ⟨W5, Y, hW, hY, hy, hoY, hY1, hY2⟩ := new_block w4 (.cells #[.int .i64 fu, .int .i64 fd, .int .i64 tu, .int .i64 td, .slice a3 x3.length c3, .bool false, .slice none 0 0, .slice none 0 0, .slice none 0 0, .int .u32 0, .bool false, .int .u32 0, .slice none 0 0, .int .u32 0, .int .u32 0, .slice none 0 0] 92)
  rw [← hW, ← hY]
  clear hW hY
  have hYR : Y ∉ [R] := by simp; omega
  have hYW : ∀ k ∈ [Y], W1.heap.size ≤ k := by simp; omega
  have r5 := r04.new hoY
  have zY := hoY.size
  have o4 : Only w4 W5 [R, Y] := hoY.mono (by simp)
  refine (rbytes_rt r5.here).mono ?_
  rintro e w8 ⟨v8, x8, s8, H8, rfl, g8, l8, r8⟩
  obtain ⟨⟨a8, c8, rfl⟩, _⟩ := id g8
  have o4 := o4.trans (r8.only.mono (fun k _ hk => by simp at hk; simp [hk]))
  have o8 : Only w8 w8 [R, Y] := Only.refl _ _
  have r5 := r5.back r8
  have hy8 := r8.only.at hy hYR
  have z8 := r8.only.size
  go_wp2_with fail
  refine (rnum_rt r5.here).mono ?_
  rintro e w9 ⟨n9, s9, H9, rfl, lo9, hi9, r9⟩
  have o4 := o4.trans (r9.only.mono (fun k _ hk => by simp at hk; simp [hk]))
  have o8 := o8.trans (r9.only.mono (fun k _ hk => by simp at hk; simp [hk]))
  have r5 := r5.back r9
  have hy9 := r9.only.at hy8 hYR
  have z9 := r9.only.size
  go_wp2_with fail
  refine (rnum_rt r5.here).mono ?_
  rintro e w10 ⟨n10, s10, H10, rfl, lo10, hi10, r10⟩
  have o4 := o4.trans (r10.only.mono (fun k _ hk => by simp at hk; simp [hk]))
  have o8 := o8.trans (r10.only.mono (fun k _ hk => by simp at hk; simp [hk]))
  have r5 := r5.back r10
  have hy10 := r10.only.at hy9 hYR
  have z10 := r10.only.size
  have y12 := cell_in hy10 12
  have f12 := free_in hy10 12
  have y13 := cell_in hy10 13
  have f13 := free_in hy10 13
  have y14 := cell_in hy10 14
  have f14 := free_in hy10 14
  go_wp2_with fail
  have q12 : (w10.setCell ⟨Y, 12, none⟩ (.slice a8 x8.length c8)).heap[Y]? = some (.cells #[.int .i64 fu, .int .i64 fd, .int .i64 tu, .int .i64 td, .slice a3 x3.length c3, .bool false, .slice none 0 0, .slice none 0 0, .slice none 0 0, .int .u32 0, .bool false, .int .u32 0, .slice a8 x8.length c8, .int .u32 0, .int .u32 0, .slice none 0 0] 92 (0, 0)) := set_at hy10 _
  have q13 : ((w10.setCell ⟨Y, 12, none⟩ (.slice a8 x8.length c8)).setCell ⟨Y, 13, none⟩ (.int .u32 n9)).heap[Y]? = some (.cells #[.int .i64 fu, .int .i64 fd, .int .i64 tu, .int .i64 td, .slice a3 x3.length c3, .bool false, .slice none 0 0, .slice none 0 0, .slice none 0 0, .int .u32 0, .bool false, .int .u32 0, .slice a8 x8.length c8, .int .u32 n9, .int .u32 0, .slice none 0 0] 92 (0, 0)) := set_at q12 _
  have q14 : (((w10.setCell ⟨Y, 12, none⟩ (.slice a8 x8.length c8)).setCell ⟨Y, 13, none⟩ (.int .u32 n9)).setCell ⟨Y, 14, none⟩ (.int .u32 n10)).heap[Y]? = some (.cells #[.int .i64 fu, .int .i64 fd, .int .i64 tu, .int .i64 td, .slice a3 x3.length c3, .bool false, .slice none 0 0, .slice none 0 0, .slice none 0 0, .int .u32 0, .bool false, .int .u32 0, .slice a8 x8.length c8, .int .u32 n9, .int .u32 n10, .slice none 0 0] 92 (0, 0)) := set_at q13 _
  have oS : Only w10 (((w10.setCell ⟨Y, 12, none⟩ (.slice a8 x8.length c8)).setCell ⟨Y, 13, none⟩ (.int .u32 n9)).setCell ⟨Y, 14, none⟩ (.int .u32 n10)) [Y] := (((Only.setCell _ _ _ _ (by simp)).trans (Only.setCell _ _ _ _ (by simp))).trans (Only.setCell _ _ _ _ (by simp)))
  have o4 := o4.trans (oS.mono (fun k _ hk => by simp at hk; simp [hk]))
  have o8 := o8.trans (oS.mono (fun k _ hk => by simp at hk; simp [hk]))
  have r5 := r5.keep oS hYW
  have hy11 := q14
  clear y12 f12 q12 y13 f13 q13 y14 f14 q14
  have zS2 := oS.size
  clear oS
  generalize (((w10.setCell ⟨Y, 12, none⟩ (.slice a8 x8.length c8)).setCell ⟨Y, 13, none⟩ (.int .u32 n9)).setCell ⟨Y, 14, none⟩ (.int .u32 n10)) = W11 at *
  refine (rbytes_rt r5.here).mono ?_
  rintro e w12 ⟨v12, x12, s12, H12, rfl, g12, l12, r12⟩
  obtain ⟨⟨a12, c12, rfl⟩, _⟩ := id g12
  have o4 := o4.trans (r12.only.mono (fun k _ hk => by simp at hk; simp [hk]))
  have o8 := o8.trans (r12.only.mono (fun k _ hk => by simp at hk; simp [hk]))
  have o12 : Only w12 w12 [R, Y] := Only.refl _ _
  have r5 := r5.back r12
  have hy12 := r12.only.at hy11 hYR
  have z12 := r12.only.size
  have y15 := cell_in hy12 15
  have f15 := free_in hy12 15
  go_wp2_with fail
  have q15 : (w12.setCell ⟨Y, 15, none⟩ (.slice a12 x12.length c12)).heap[Y]? = some (.cells #[.int .i64 fu, .int .i64 fd, .int .i64 tu, .int .i64 td, .slice a3 x3.length c3, .bool false, .slice none 0 0, .slice none 0 0, .slice none 0 0, .int .u32 0, .bool false, .int .u32 0, .slice a8 x8.length c8, .int .u32 n9, .int .u32 n10, .slice a12 x12.length c12] 92 (0, 0)) := set_at hy12 _
  have oS : Only w12 (w12.setCell ⟨Y, 15, none⟩ (.slice a12 x12.length c12)) [Y] := (Only.setCell _ _ _ _ (by simp))
  have o4 := o4.trans (oS.mono (fun k _ hk => by simp at hk; simp [hk]))
  have o8 := o8.trans (oS.mono (fun k _ hk => by simp at hk; simp [hk]))
  have o12 := o12.trans (oS.mono (fun k _ hk => by simp at hk; simp [hk]))
  have rV := r5.keep oS hYW
  have hyV := q15
  clear y15 f15 q15 oS
  generalize (w12.setCell ⟨Y, 15, none⟩ (.slice a12 x12.length c12)) = V at *
  have hne : X ≠ Y := by omega
  have hne' : Y ≠ X := fun h => hne h.symm
  have hXV := o4.at hX4 (by simp; omega)
  have hoV : Only w V [] := ho4.step o4 (fun k hk => .inr (by simp at hk; rcases hk with rfl | rfl; exact hRw; omega))
  have gV : GotE W1 V ⟨fu, fd, tu, td, x3, false, h0, x8, n9, n10, x12⟩ _ _ _ _ _ _ := ⟨g3.keep o4 (by simp; omega), goth_nil W1 V, (g8.keep o8 (by simp; omega)).mono (by omega), (g12.keep o12 (by simp; omega)).mono (by omega), l3, l8, l12, ufu, ufd, utu, utd, ⟨lo9, hi9⟩, ⟨lo10, hi10⟩⟩
  have HT : Hid (pEnv (ps, false) = (⟨fu, fd, tu, td, x3, false, h0, x8, n9, n10, x12⟩, s12)) := show _ = _ by simp [pEnv, pOH, H1.out, H2.out, H3.out, H4.out, H8.out, H9.out, H10.out, H12.out]
  clear g3 g8 g12 r04 r5 r8 r9 r10 r12 hX4 hoY hbR o4 o8 o12
  refine (rend_rt rV).mono ?_
  rintro e wE0 ⟨rfl, rfl⟩
  obtain ⟨eb, heb⟩ : ∃ eb, eb = (!s12.2 && decide (s12.1.length = 0)) := ⟨_, rfl⟩
  rw [← heb]
  have Heb := Lib.hid heb
  clear heb
  have y0 := cell_in hyV 0
  have y1 := cell_in hyV 1
  have y2 := cell_in hyV 2
  have y3 := cell_in hyV 3
  have y4 := cell_in hyV 4
  have y5 := cell_in hyV 5
  have y6 := cell_in hyV 6
  have y7 := cell_in hyV 7
  have y8 := cell_in hyV 8
  have y9 := cell_in hyV 9
  have y10 := cell_in hyV 10
  have y11 := cell_in hyV 11
  have y12 := cell_in hyV 12
  have y13 := cell_in hyV 13
  have y14 := cell_in hyV 14
  have y15 := cell_in hyV 15
  have x_0 := cell_in hXV 0
  have x_1 := cell_in hXV 1
  have x_2 := cell_in hXV 2
  have x_3 := cell_in hXV 3
  have x_4 := cell_in hXV 4
  have x_5 := cell_in hXV 5
  have x_6 := cell_in hXV 6
  have x_7 := cell_in hXV 7
  have x_8 := cell_in hXV 8
  have x_9 := cell_in hXV 9
  have x_10 := cell_in hXV 10
  have x_11 := cell_in hXV 11
  have x_12 := cell_in hXV 12
  have x_13 := cell_in hXV 13
  have x_14 := cell_in hXV 14
  have x_15 := cell_in hXV 15
  have xf0 := free_in hXV 0
  have xf1 := free_in hXV 1
  have xf2 := free_in hXV 2
  have xf3 := free_in hXV 3
  have xf4 := free_in hXV 4
  have xf5 := free_in hXV 5
  have xf6 := free_in hXV 6
  have xf7 := free_in hXV 7
  have xf8 := free_in hXV 8
  have xf9 := free_in hXV 9
  have xf10 := free_in hXV 10
  have xf11 := free_in hXV 11
  have xf12 := free_in hXV 12
  have xf13 := free_in hXV 13
  have xf14 := free_in hXV 14
  have xf15 := free_in hXV 15
  have hev : eb = false := by rw [Heb.out]; have h := hend; rw [HT.out] at h; exact h
  subst hev
  clear hend hflag
  go_wp2_with fail
  have hE0 : ((((((((((((((((V.setCell ⟨X, 0, none⟩ (.int .i64 0)).setCell ⟨X, 1, none⟩ (.int .i64 0)).setCell ⟨X, 2, none⟩ (.int .i64 0)).setCell ⟨X, 3, none⟩ (.int .i64 0)).setCell ⟨X, 4, none⟩ (.slice none 0 0)).setCell ⟨X, 5, none⟩ (.bool false)).setCell ⟨X, 6, none⟩ (.slice none 0 0)).setCell ⟨X, 7, none⟩ (.slice none 0 0)).setCell ⟨X, 8, none⟩ (.slice none 0 0)).setCell ⟨X, 9, none⟩ (.int .u32 0)).setCell ⟨X, 10, none⟩ (.bool false)).setCell ⟨X, 11, none⟩ (.int .u32 0)).setCell ⟨X, 12, none⟩ (.slice none 0 0)).setCell ⟨X, 13, none⟩ (.int .u32 0)).setCell ⟨X, 14, none⟩ (.int .u32 0)).setCell ⟨X, 15, none⟩ (.slice none 0 0)) = setAll V X 0 [.int .i64 0, .int .i64 0, .int .i64 0, .int .i64 0, .slice none 0 0, .bool false, .slice none 0 0, .slice none 0 0, .slice none 0 0, .int .u32 0, .bool false, .int .u32 0, .slice none 0 0, .int .u32 0, .int .u32 0, .slice none 0 0] := rfl
  obtain ⟨wE, hE⟩ : ∃ z, z = setAll V X 0 [.int .i64 0, .int .i64 0, .int .i64 0, .int .i64 0, .slice none 0 0, .bool false, .slice none 0 0, .slice none 0 0, .slice none 0 0, .int .u32 0, .bool false, .int .u32 0, .slice none 0 0, .int .u32 0, .int .u32 0, .slice none 0 0] := ⟨_, rfl⟩
  rw [hE0, ← hE]
  have hoE : Only V wE [X] := by rw [hE]; exact setAll_only X _ V 0
  have hbE := setAll_lit [.int .i64 0, .int .i64 0, .int .i64 0, .int .i64 0, .slice none 0 0, .bool false, .slice none 0 0, .slice none 0 0, .slice none 0 0, .int .u32 0, .bool false, .int .u32 0, .slice none 0 0, .int .u32 0, .int .u32 0, .slice none 0 0] hXV rfl
  rw [← hE] at hbE
  clear hE
  have d0 : wE.cell? ⟨X, 0, none⟩ = some (.int .i64 0) := (cell_in hbE 0).trans rfl
  have d1 : wE.cell? ⟨X, 1, none⟩ = some (.int .i64 0) := (cell_in hbE 1).trans rfl
  have d2 : wE.cell? ⟨X, 2, none⟩ = some (.int .i64 0) := (cell_in hbE 2).trans rfl
  have d3 : wE.cell? ⟨X, 3, none⟩ = some (.int .i64 0) := (cell_in hbE 3).trans rfl
  have d4 : wE.cell? ⟨X, 4, none⟩ = some (.slice none 0 0) := (cell_in hbE 4).trans rfl
  have d5 : wE.cell? ⟨X, 5, none⟩ = some (.bool false) := (cell_in hbE 5).trans rfl
  have d6 : wE.cell? ⟨X, 6, none⟩ = some (.slice none 0 0) := (cell_in hbE 6).trans rfl
  have d7 : wE.cell? ⟨X, 7, none⟩ = some (.slice none 0 0) := (cell_in hbE 7).trans rfl
  have d8 : wE.cell? ⟨X, 8, none⟩ = some (.slice none 0 0) := (cell_in hbE 8).trans rfl
  have d9 : wE.cell? ⟨X, 9, none⟩ = some (.int .u32 0) := (cell_in hbE 9).trans rfl
  have d10 : wE.cell? ⟨X, 10, none⟩ = some (.bool false) := (cell_in hbE 10).trans rfl
  have d11 : wE.cell? ⟨X, 11, none⟩ = some (.int .u32 0) := (cell_in hbE 11).trans rfl
  have d12 : wE.cell? ⟨X, 12, none⟩ = some (.slice none 0 0) := (cell_in hbE 12).trans rfl
  have d13 : wE.cell? ⟨X, 13, none⟩ = some (.int .u32 0) := (cell_in hbE 13).trans rfl
  have d14 : wE.cell? ⟨X, 14, none⟩ = some (.int .u32 0) := (cell_in hbE 14).trans rfl
  have d15 : wE.cell? ⟨X, 15, none⟩ = some (.slice none 0 0) := (cell_in hbE 15).trans rfl
  clear hE0
  refine bodyPost_ret (v := .tuple #[.agg #[.int .i64 0, .int .i64 0, .int .i64 0, .int .i64 0, .slice none 0 0, .bool false, .slice none 0 0, .slice none 0 0, .slice none 0 0, .int .u32 0, .bool false, .int .u32 0, .slice none 0 0, .int .u32 0, .int .u32 0, .slice none 0 0], .int .i64 4]) (by simp [results, Tryz.results32, go_sem, d0, d1, d2, d3, d4, d5, d6, d7, d8, d9, d10, d11, d12, d13, d14, d15]) rfl ?_
  exact ⟨⟨fu, fd, tu, td, x3, false, h0, x8, n9, n10, x12⟩, s12, HT.out, hoV.new hoE hXX, .inr ⟨Heb.out.symm, rfl⟩⟩
end Go.Proofs.YtjfmelmiegnmjaaGreatDoor
end

section
namespace Go.Proofs.YtjfmelmiegnmjaaGreatDoor
open Go.RowKit Go.Pw
set_option linter.all false
set_option maxRecDepth 100000
set_option maxRecDepth 100000 in
set_option maxHeartbeats 12800000 in
theorem decode_ft (p : Value) (ps : List Int) (w : World) (hp : Rd w p ps) (hb : Byt ps) (hl : ps.length ≤ 1000000000) (hflag : (pF (pB (pW (pW (ps, false)).2).2).2).1 = false) (hend : Ends (pEnv (ps, false)).2 = true) :
    Calls Tryz.prog 32 #[p] w (DecE ps w) := by
  obtain ⟨ao, c, rfl⟩ := hp.slice
  go_enter Tryz.func32, Tryz.ntmps32
  go_wp2_with fail
  obtain ⟨W0, X, hW, hX, hbX, hoW, hX1, hX2⟩ := new_block w (.cells #[.int .i64 0, .int .i64 0, .int .i64 0, .int .i64 0, .slice none 0 0, .bool false, .slice none 0 0, .slice none 0 0, .slice none 0 0, .int .u32 0, .bool false, .int .u32 0, .slice none 0 0, .int .u32 0, .int .u32 0, .slice none 0 0] 92)
  rw [← hW, ← hX]
  have hs0 : W0.heap.size = X + 1 := by rw [hW, hX]; simp
  clear hW hX
  refine (rread_any _ _ _ _).mono ?_
  rintro e W1' ⟨rfl, rfl⟩
  obtain ⟨W1, R, hW, hR, hbR, hoR, hR1, hR2⟩ := new_block W0 (.cells #[.slice ao ps.length c, .bool false] 274)
  rw [← hW, ← hR]
  clear hW hR
  have r0 := rt_new hp hb hl (hoW.trans hoR) hbR
  have hXR : X ≠ R := by omega
  have hX0 : X ∉ [R] := by simpa using hXR
  have hX1b := hoR.at hbX (by simp)
  clear hp hb hbX
  go_wp2_with fail
  refine (readwho_rt r0).mono ?_
  rintro e w1 ⟨⟨fu, fd⟩, s1, v1, H1, rfl, ⟨rfl, ufu, ufd⟩, r1⟩
  have H1 := Lib.hid H1
  dsimp only at ufu ufd ⊢
  go_wp2_with fail
  refine (readwho_rt r1.here).mono ?_
  rintro e w2 ⟨⟨tu, td⟩, s2, v2, H2, rfl, ⟨rfl, utu, utd⟩, r2⟩
  have H2 := Lib.hid H2
  dsimp only at utu utd ⊢
  go_wp2_with fail
  refine (rbytes_rt r2.here).mono ?_
  rintro e w3 ⟨v3, x3, s3, H3, rfl, g3, l3, r3⟩
  obtain ⟨⟨a3, c3, rfl⟩, _⟩ := id g3
  go_wp2_with fail
  refine (rflag_rt r3.here).mono ?_
  rintro e w4 ⟨b4, s4, H4, rfl, r4⟩
  have r04 : RT R _ s4 W1 w4 := ((r1.back r2).back r3).back r4
  have hRW := r0.rlt
  have z1 := r1.only.size
  have z2 := r2.only.size
  have z3 := r3.only.size
  have z4 := r4.only.size
  have g3 := (g3.next r4.only (fun k hk => by simp at hk; subst hk; omega)).mono (W' := W1) (by omega)
  have hX4 := r04.only.at hX1b hX0
  have hzW : W1.heap.size ≤ w4.heap.size := by omega
  have hwW : w.heap.size ≤ W1.heap.size := (hoW.trans hoR).size
  have hXW : X < W1.heap.size := by have := hoR.size; omega
  have hXX : ∀ k ∈ [X], w.heap.size ≤ k := by simpa using hX1
  have hXX' : ∀ k ∈ [X], k < W1.heap.size := by simpa using hXW
  have hRw : w.heap.size ≤ R := Nat.le_trans hoW.size hR1
  have ho4 : Only w w4 [] := (hoW.trans hoR).step r04.only (fun k hk => .inr (by simp at hk; subst hk; exact hRw))
  clear r1 r2 r3 r4 z1 z2 z3 z4 hX1b
  have hbv : b4 = false := by have h := hflag; rw [H1.out] at h; simp only at h; rw [H2.out] at h; simp only at h; rw [H3.out] at h; simp only at h; rw [H4.out] at h; exact h
  subst hbv
  go_wp2_with fail
  obtain ⟨W5, Y, hW, hY, hy, hoY, hY1, hY2⟩ := new_block w4 (.cells #[.int .i64 fu, .int .i64 fd, .int .i64 tu, .int .i64 td, .slice a3 x3.length c3, .bool false, .slice none 0 0, .slice none 0 0, .slice none 0 0, .int .u32 0, .bool false, .int .u32 0, .slice none 0 0, .int .u32 0, .int .u32 0, .slice none 0 0] 92)
  rw [← hW, ← hY]
  clear hW hY
  have hYR : Y ∉ [R] := by simp; omega
  have hYW : ∀ k ∈ [Y], W1.heap.size ≤ k := by simp; omega
  have r5 := r04.new hoY
  have zY := hoY.size
  have o4 : Only w4 W5 [R, Y] := hoY.mono (by simp)
  refine (rbytes_rt r5.here).mono ?_
  rintro e w8 ⟨v8, x8, s8, H8, rfl, g8, l8, r8⟩
  obtain ⟨⟨a8, c8, rfl⟩, _⟩ := id g8
  have o4 := o4.trans (r8.only.mono (fun k _ hk => by simp at hk; simp [hk]))
  have o8 : Only w8 w8 [R, Y] := Only.refl _ _
  have r5 := r5.back r8
  have hy8 := r8.only.at hy hYR
  have z8 := r8.only.size
  go_wp2_with fail
  refine (rnum_rt r5.here).mono ?_
  rintro e w9 ⟨n9, s9, H9, rfl, lo9, hi9, r9⟩
  have o4 := o4.trans (r9.only.mono (fun k _ hk => by simp at hk; simp [hk]))
  have o8 := o8.trans (r9.only.mono (fun k _ hk => by simp at hk; simp [hk]))
  have r5 := r5.back r9
  have hy9 := r9.only.at hy8 hYR
  have z9 := r9.only.size
  go_wp2_with fail
  refine (rnum_rt r5.here).mono ?_
  rintro e w10 ⟨n10, s10, H10, rfl, lo10, hi10, r10⟩
  have o4 := o4.trans (r10.only.mono (fun k _ hk => by simp at hk; simp [hk]))
  have o8 := o8.trans (r10.only.mono (fun k _ hk => by simp at hk; simp [hk]))
  have r5 := r5.back r10
  have hy10 := r10.only.at hy9 hYR
  have z10 := r10.only.size
  have y12 := cell_in hy10 12
  have f12 := free_in hy10 12
  have y13 := cell_in hy10 13
  have f13 := free_in hy10 13
  have y14 := cell_in hy10 14
  have f14 := free_in hy10 14
  go_wp2_with fail
  have q12 : (w10.setCell ⟨Y, 12, none⟩ (.slice a8 x8.length c8)).heap[Y]? = some (.cells #[.int .i64 fu, .int .i64 fd, .int .i64 tu, .int .i64 td, .slice a3 x3.length c3, .bool false, .slice none 0 0, .slice none 0 0, .slice none 0 0, .int .u32 0, .bool false, .int .u32 0, .slice a8 x8.length c8, .int .u32 0, .int .u32 0, .slice none 0 0] 92 (0, 0)) := set_at hy10 _
  have q13 : ((w10.setCell ⟨Y, 12, none⟩ (.slice a8 x8.length c8)).setCell ⟨Y, 13, none⟩ (.int .u32 n9)).heap[Y]? = some (.cells #[.int .i64 fu, .int .i64 fd, .int .i64 tu, .int .i64 td, .slice a3 x3.length c3, .bool false, .slice none 0 0, .slice none 0 0, .slice none 0 0, .int .u32 0, .bool false, .int .u32 0, .slice a8 x8.length c8, .int .u32 n9, .int .u32 0, .slice none 0 0] 92 (0, 0)) := set_at q12 _
  have q14 : (((w10.setCell ⟨Y, 12, none⟩ (.slice a8 x8.length c8)).setCell ⟨Y, 13, none⟩ (.int .u32 n9)).setCell ⟨Y, 14, none⟩ (.int .u32 n10)).heap[Y]? = some (.cells #[.int .i64 fu, .int .i64 fd, .int .i64 tu, .int .i64 td, .slice a3 x3.length c3, .bool false, .slice none 0 0, .slice none 0 0, .slice none 0 0, .int .u32 0, .bool false, .int .u32 0, .slice a8 x8.length c8, .int .u32 n9, .int .u32 n10, .slice none 0 0] 92 (0, 0)) := set_at q13 _
  have oS : Only w10 (((w10.setCell ⟨Y, 12, none⟩ (.slice a8 x8.length c8)).setCell ⟨Y, 13, none⟩ (.int .u32 n9)).setCell ⟨Y, 14, none⟩ (.int .u32 n10)) [Y] := (((Only.setCell _ _ _ _ (by simp)).trans (Only.setCell _ _ _ _ (by simp))).trans (Only.setCell _ _ _ _ (by simp)))
  have o4 := o4.trans (oS.mono (fun k _ hk => by simp at hk; simp [hk]))
  have o8 := o8.trans (oS.mono (fun k _ hk => by simp at hk; simp [hk]))
  have r5 := r5.keep oS hYW
  have hy11 := q14
  clear y12 f12 q12 y13 f13 q13 y14 f14 q14
  have zS2 := oS.size
  clear oS
  generalize (((w10.setCell ⟨Y, 12, none⟩ (.slice a8 x8.length c8)).setCell ⟨Y, 13, none⟩ (.int .u32 n9)).setCell ⟨Y, 14, none⟩ (.int .u32 n10)) = W11 at *
  refine (rbytes_rt r5.here).mono ?_
  rintro e w12 ⟨v12, x12, s12, H12, rfl, g12, l12, r12⟩
  obtain ⟨⟨a12, c12, rfl⟩, _⟩ := id g12
  have o4 := o4.trans (r12.only.mono (fun k _ hk => by simp at hk; simp [hk]))
  have o8 := o8.trans (r12.only.mono (fun k _ hk => by simp at hk; simp [hk]))
  have o12 : Only w12 w12 [R, Y] := Only.refl _ _
  have r5 := r5.back r12
  have hy12 := r12.only.at hy11 hYR
  have z12 := r12.only.size
  have y15 := cell_in hy12 15
  have f15 := free_in hy12 15
  go_wp2_with fail
  have q15 : (w12.setCell ⟨Y, 15, none⟩ (.slice a12 x12.length c12)).heap[Y]? = some (.cells #[.int .i64 fu, .int .i64 fd, .int .i64 tu, .int .i64 td, .slice a3 x3.length c3, .bool false, .slice none 0 0, .slice none 0 0, .slice none 0 0, .int .u32 0, .bool false, .int .u32 0, .slice a8 x8.length c8, .int .u32 n9, .int .u32 n10, .slice a12 x12.length c12] 92 (0, 0)) := set_at hy12 _
  have oS : Only w12 (w12.setCell ⟨Y, 15, none⟩ (.slice a12 x12.length c12)) [Y] := (Only.setCell _ _ _ _ (by simp))
  have o4 := o4.trans (oS.mono (fun k _ hk => by simp at hk; simp [hk]))
  have o8 := o8.trans (oS.mono (fun k _ hk => by simp at hk; simp [hk]))
  have o12 := o12.trans (oS.mono (fun k _ hk => by simp at hk; simp [hk]))
  have rV := r5.keep oS hYW
  have hyV := q15
  clear y15 f15 q15 oS
  generalize (w12.setCell ⟨Y, 15, none⟩ (.slice a12 x12.length c12)) = V at *
  have hne : X ≠ Y := by omega
  have hne' : Y ≠ X := fun h => hne h.symm
  have hXV := o4.at hX4 (by simp; omega)
  have hoV : Only w V [] := ho4.step o4 (fun k hk => .inr (by simp at hk; rcases hk with rfl | rfl; exact hRw; omega))
  have gV : GotE W1 V ⟨fu, fd, tu, td, x3, false, h0, x8, n9, n10, x12⟩ _ _ _ _ _ _ := ⟨g3.keep o4 (by simp; omega), goth_nil W1 V, (g8.keep o8 (by simp; omega)).mono (by omega), (g12.keep o12 (by simp; omega)).mono (by omega), l3, l8, l12, ufu, ufd, utu, utd, ⟨lo9, hi9⟩, ⟨lo10, hi10⟩⟩
  have HT : Hid (pEnv (ps, false) = (⟨fu, fd, tu, td, x3, false, h0, x8, n9, n10, x12⟩, s12)) := show _ = _ by simp [pEnv, pOH, H1.out, H2.out, H3.out, H4.out, H8.out, H9.out, H10.out, H12.out]
  clear g3 g8 g12 r04 r5 r8 r9 r10 r12 hX4 hoY hbR o4 o8 o12
  refine (rend_rt rV).mono ?_
  rintro e wE0 ⟨rfl, rfl⟩
  obtain ⟨eb, heb⟩ : ∃ eb, eb = (!s12.2 && decide (s12.1.length = 0)) := ⟨_, rfl⟩
  rw [← heb]
  have Heb := Lib.hid heb
  clear heb
  have y0 := cell_in hyV 0
  have y1 := cell_in hyV 1
  have y2 := cell_in hyV 2
  have y3 := cell_in hyV 3
  have y4 := cell_in hyV 4
  have y5 := cell_in hyV 5
  have y6 := cell_in hyV 6
  have y7 := cell_in hyV 7
  have y8 := cell_in hyV 8
  have y9 := cell_in hyV 9
  have y10 := cell_in hyV 10
  have y11 := cell_in hyV 11
  have y12 := cell_in hyV 12
  have y13 := cell_in hyV 13
  have y14 := cell_in hyV 14
  have y15 := cell_in hyV 15
  have x_0 := cell_in hXV 0
  have x_1 := cell_in hXV 1
  have x_2 := cell_in hXV 2
  have x_3 := cell_in hXV 3
  have x_4 := cell_in hXV 4
  have x_5 := cell_in hXV 5
  have x_6 := cell_in hXV 6
  have x_7 := cell_in hXV 7
  have x_8 := cell_in hXV 8
  have x_9 := cell_in hXV 9
  have x_10 := cell_in hXV 10
  have x_11 := cell_in hXV 11
  have x_12 := cell_in hXV 12
  have x_13 := cell_in hXV 13
  have x_14 := cell_in hXV 14
  have x_15 := cell_in hXV 15
  have xf0 := free_in hXV 0
  have xf1 := free_in hXV 1
  have xf2 := free_in hXV 2
  have xf3 := free_in hXV 3
  have xf4 := free_in hXV 4
  have xf5 := free_in hXV 5
  have xf6 := free_in hXV 6
  have xf7 := free_in hXV 7
  have xf8 := free_in hXV 8
  have xf9 := free_in hXV 9
  have xf10 := free_in hXV 10
  have xf11 := free_in hXV 11
  have xf12 := free_in hXV 12
  have xf13 := free_in hXV 13
  have xf14 := free_in hXV 14
  have xf15 := free_in hXV 15
  have hev : eb = true := by rw [Heb.out]; have h := hend; rw [HT.out] at h; exact h
  subst hev
  clear hend hflag
  go_wp2_with fail
  have hE0 : ((((((((((((((((V.setCell ⟨X, 0, none⟩ (.int .i64 fu)).setCell ⟨X, 1, none⟩ (.int .i64 fd)).setCell ⟨X, 2, none⟩ (.int .i64 tu)).setCell ⟨X, 3, none⟩ (.int .i64 td)).setCell ⟨X, 4, none⟩ (.slice a3 x3.length c3)).setCell ⟨X, 5, none⟩ (.bool false)).setCell ⟨X, 6, none⟩ (.slice none 0 0)).setCell ⟨X, 7, none⟩ (.slice none 0 0)).setCell ⟨X, 8, none⟩ (.slice none 0 0)).setCell ⟨X, 9, none⟩ (.int .u32 0)).setCell ⟨X, 10, none⟩ (.bool false)).setCell ⟨X, 11, none⟩ (.int .u32 0)).setCell ⟨X, 12, none⟩ (.slice a8 x8.length c8)).setCell ⟨X, 13, none⟩ (.int .u32 n9)).setCell ⟨X, 14, none⟩ (.int .u32 n10)).setCell ⟨X, 15, none⟩ (.slice a12 x12.length c12)) = setAll V X 0 [.int .i64 fu, .int .i64 fd, .int .i64 tu, .int .i64 td, .slice a3 x3.length c3, .bool false, .slice none 0 0, .slice none 0 0, .slice none 0 0, .int .u32 0, .bool false, .int .u32 0, .slice a8 x8.length c8, .int .u32 n9, .int .u32 n10, .slice a12 x12.length c12] := rfl
  obtain ⟨wE, hE⟩ : ∃ z, z = setAll V X 0 [.int .i64 fu, .int .i64 fd, .int .i64 tu, .int .i64 td, .slice a3 x3.length c3, .bool false, .slice none 0 0, .slice none 0 0, .slice none 0 0, .int .u32 0, .bool false, .int .u32 0, .slice a8 x8.length c8, .int .u32 n9, .int .u32 n10, .slice a12 x12.length c12] := ⟨_, rfl⟩
  rw [hE0, ← hE]
  have hoE : Only V wE [X] := by rw [hE]; exact setAll_only X _ V 0
  have hbE := setAll_lit [.int .i64 fu, .int .i64 fd, .int .i64 tu, .int .i64 td, .slice a3 x3.length c3, .bool false, .slice none 0 0, .slice none 0 0, .slice none 0 0, .int .u32 0, .bool false, .int .u32 0, .slice a8 x8.length c8, .int .u32 n9, .int .u32 n10, .slice a12 x12.length c12] hXV rfl
  rw [← hE] at hbE
  clear hE
  have d0 : wE.cell? ⟨X, 0, none⟩ = some (.int .i64 fu) := (cell_in hbE 0).trans rfl
  have d1 : wE.cell? ⟨X, 1, none⟩ = some (.int .i64 fd) := (cell_in hbE 1).trans rfl
  have d2 : wE.cell? ⟨X, 2, none⟩ = some (.int .i64 tu) := (cell_in hbE 2).trans rfl
  have d3 : wE.cell? ⟨X, 3, none⟩ = some (.int .i64 td) := (cell_in hbE 3).trans rfl
  have d4 : wE.cell? ⟨X, 4, none⟩ = some (.slice a3 x3.length c3) := (cell_in hbE 4).trans rfl
  have d5 : wE.cell? ⟨X, 5, none⟩ = some (.bool false) := (cell_in hbE 5).trans rfl
  have d6 : wE.cell? ⟨X, 6, none⟩ = some (.slice none 0 0) := (cell_in hbE 6).trans rfl
  have d7 : wE.cell? ⟨X, 7, none⟩ = some (.slice none 0 0) := (cell_in hbE 7).trans rfl
  have d8 : wE.cell? ⟨X, 8, none⟩ = some (.slice none 0 0) := (cell_in hbE 8).trans rfl
  have d9 : wE.cell? ⟨X, 9, none⟩ = some (.int .u32 0) := (cell_in hbE 9).trans rfl
  have d10 : wE.cell? ⟨X, 10, none⟩ = some (.bool false) := (cell_in hbE 10).trans rfl
  have d11 : wE.cell? ⟨X, 11, none⟩ = some (.int .u32 0) := (cell_in hbE 11).trans rfl
  have d12 : wE.cell? ⟨X, 12, none⟩ = some (.slice a8 x8.length c8) := (cell_in hbE 12).trans rfl
  have d13 : wE.cell? ⟨X, 13, none⟩ = some (.int .u32 n9) := (cell_in hbE 13).trans rfl
  have d14 : wE.cell? ⟨X, 14, none⟩ = some (.int .u32 n10) := (cell_in hbE 14).trans rfl
  have d15 : wE.cell? ⟨X, 15, none⟩ = some (.slice a12 x12.length c12) := (cell_in hbE 15).trans rfl
  clear hE0
  refine bodyPost_ret (v := .tuple #[.agg #[.int .i64 fu, .int .i64 fd, .int .i64 tu, .int .i64 td, .slice a3 x3.length c3, .bool false, .slice none 0 0, .slice none 0 0, .slice none 0 0, .int .u32 0, .bool false, .int .u32 0, .slice a8 x8.length c8, .int .u32 n9, .int .u32 n10, .slice a12 x12.length c12], .int .i64 0]) (by simp [results, Tryz.results32, go_sem, d0, d1, d2, d3, d4, d5, d6, d7, d8, d9, d10, d11, d12, d13, d14, d15]) rfl ?_
  exact ⟨⟨fu, fd, tu, td, x3, false, h0, x8, n9, n10, x12⟩, s12, HT.out, hoV.new hoE hXX, .inl ⟨Heb.out.symm, _, _, _, _, _, _, rfl, (gV.next hoE hXX').mono hwW⟩⟩
end Go.Proofs.YtjfmelmiegnmjaaGreatDoor
end

section
namespace Go.Proofs.YtjfmelmiegnmjaaGreatDoor
open Go.RowKit Go.Pw
set_option linter.all false
set_option maxRecDepth 100000
set_option maxRecDepth 100000 in
set_option maxHeartbeats 12800000 in
theorem decode_tf (p : Value) (ps : List Int) (w : World) (hp : Rd w p ps) (hb : Byt ps) (hl : ps.length ≤ 1000000000) (hflag : (pF (pB (pW (pW (ps, false)).2).2).2).1 = true) (hend : Ends (pEnv (ps, false)).2 = false) :
    Calls Tryz.prog 32 #[p] w (DecE ps w) := by
  obtain ⟨ao, c, rfl⟩ := hp.slice
  go_enter Tryz.func32, Tryz.ntmps32
  go_wp2_with fail
  obtain ⟨W0, X, hW, hX, hbX, hoW, hX1, hX2⟩ := new_block w (.cells #[.int .i64 0, .int .i64 0, .int .i64 0, .int .i64 0, .slice none 0 0, .bool false, .slice none 0 0, .slice none 0 0, .slice none 0 0, .int .u32 0, .bool false, .int .u32 0, .slice none 0 0, .int .u32 0, .int .u32 0, .slice none 0 0] 92)
  rw [← hW, ← hX]
  have hs0 : W0.heap.size = X + 1 := by rw [hW, hX]; simp
  clear hW hX
  refine (rread_any _ _ _ _).mono ?_
  rintro e W1' ⟨rfl, rfl⟩
  obtain ⟨W1, R, hW, hR, hbR, hoR, hR1, hR2⟩ := new_block W0 (.cells #[.slice ao ps.length c, .bool false] 274)
  rw [← hW, ← hR]
  clear hW hR
  have r0 := rt_new hp hb hl (hoW.trans hoR) hbR
  have hXR : X ≠ R := by omega
  have hX0 : X ∉ [R] := by simpa using hXR
  have hX1b := hoR.at hbX (by simp)
  clear hp hb hbX
  go_wp2_with fail
  refine (readwho_rt r0).mono ?_
  rintro e w1 ⟨⟨fu, fd⟩, s1, v1, H1, rfl, ⟨rfl, ufu, ufd⟩, r1⟩
  have H1 := Lib.hid H1
  dsimp only at ufu ufd ⊢
  go_wp2_with fail
  refine (readwho_rt r1.here).mono ?_
  rintro e w2 ⟨⟨tu, td⟩, s2, v2, H2, rfl, ⟨rfl, utu, utd⟩, r2⟩
  have H2 := Lib.hid H2
  dsimp only at utu utd ⊢
  go_wp2_with fail
  refine (rbytes_rt r2.here).mono ?_
  rintro e w3 ⟨v3, x3, s3, H3, rfl, g3, l3, r3⟩
  obtain ⟨⟨a3, c3, rfl⟩, _⟩ := id g3
  go_wp2_with fail
  refine (rflag_rt r3.here).mono ?_
  rintro e w4 ⟨b4, s4, H4, rfl, r4⟩
  have r04 : RT R _ s4 W1 w4 := ((r1.back r2).back r3).back r4
  have hRW := r0.rlt
  have z1 := r1.only.size
  have z2 := r2.only.size
  have z3 := r3.only.size
  have z4 := r4.only.size
  have g3 := (g3.next r4.only (fun k hk => by simp at hk; subst hk; omega)).mono (W' := W1) (by omega)
  have hX4 := r04.only.at hX1b hX0
  have hzW : W1.heap.size ≤ w4.heap.size := by omega
  have hwW : w.heap.size ≤ W1.heap.size := (hoW.trans hoR).size
  have hXW : X < W1.heap.size := by have := hoR.size; omega
  have hXX : ∀ k ∈ [X], w.heap.size ≤ k := by simpa using hX1
  have hXX' : ∀ k ∈ [X], k < W1.heap.size := by simpa using hXW
  have hRw : w.heap.size ≤ R := Nat.le_trans hoW.size hR1
  have ho4 : Only w w4 [] := (hoW.trans hoR).step r04.only (fun k hk => .inr (by simp at hk; subst hk; exact hRw))
  clear r1 r2 r3 r4 z1 z2 z3 z4 hX1b
  have hbv : b4 = true := by have h := hflag; rw [H1.out] at h; simp only at h; rw [H2.out] at h; simp only at h; rw [H3.out] at h; simp only at h; rw [H4.out] at h; exact h
  subst hbv
  go_wp2_with fail
  obtain ⟨W5, Y, hW, hY, hy, hoY, hY1, hY2⟩ := new_block w4 (.cells #[.int .i64 fu, .int .i64 fd, .int .i64 tu, .int .i64 td, .slice a3 x3.length c3, .bool true, .slice none 0 0, .slice none 0 0, .slice none 0 0, .int .u32 0, .bool false, .int .u32 0, .slice none 0 0, .int .u32 0, .int .u32 0, .slice none 0 0] 92)
  rw [← hW, ← hY]
  clear hW hY
  have hYR : Y ∉ [R] := by simp; omega
  have hYW : ∀ k ∈ [Y], W1.heap.size ≤ k := by simp; omega
  have r5 := r04.new hoY
  have zY := hoY.size
  have o4 : Only w4 W5 [R, Y] := hoY.mono (by simp)
  refine (readhello_rt r5.here).mono ?_
  rintro e w6 ⟨h, s6, v6, H6, rfl, ⟨va, vg, vk, rfl, g6⟩, r6⟩
  obtain ⟨⟨aa, ca, rfl⟩, _⟩ := id g6.ga
  obtain ⟨⟨ag, cg, rfl⟩, _⟩ := id g6.gs
  obtain ⟨⟨ak, ck, rfl⟩, _⟩ := id g6.gk
  have H6 := Lib.hid H6
  have o4 := o4.trans (r6.only.mono (fun k _ hk => by simp at hk; simp [hk]))
  have hy6 := r6.only.at hy hYR
  have r5 := r5.back r6
  have z6 := r6.only.size
  have y6 := cell_in hy6 6
  have f6 := free_in hy6 6
  have y7 := cell_in hy6 7
  have f7 := free_in hy6 7
  have y8 := cell_in hy6 8
  have f8 := free_in hy6 8
  have y9 := cell_in hy6 9
  have f9 := free_in hy6 9
  have y10 := cell_in hy6 10
  have f10 := free_in hy6 10
  have y11 := cell_in hy6 11
  have f11 := free_in hy6 11
  go_wp2_with fail
  have q6 : (w6.setCell ⟨Y, 6, none⟩ (.slice aa h.ag.length ca)).heap[Y]? = some (.cells #[.int .i64 fu, .int .i64 fd, .int .i64 tu, .int .i64 td, .slice a3 x3.length c3, .bool true, .slice aa h.ag.length ca, .slice none 0 0, .slice none 0 0, .int .u32 0, .bool false, .int .u32 0, .slice none 0 0, .int .u32 0, .int .u32 0, .slice none 0 0] 92 (0, 0)) := set_at hy6 _
  have q7 : ((w6.setCell ⟨Y, 6, none⟩ (.slice aa h.ag.length ca)).setCell ⟨Y, 7, none⟩ (.slice ag h.sg.length cg)).heap[Y]? = some (.cells #[.int .i64 fu, .int .i64 fd, .int .i64 tu, .int .i64 td, .slice a3 x3.length c3, .bool true, .slice aa h.ag.length ca, .slice ag h.sg.length cg, .slice none 0 0, .int .u32 0, .bool false, .int .u32 0, .slice none 0 0, .int .u32 0, .int .u32 0, .slice none 0 0] 92 (0, 0)) := set_at q6 _
  have q8 : (((w6.setCell ⟨Y, 6, none⟩ (.slice aa h.ag.length ca)).setCell ⟨Y, 7, none⟩ (.slice ag h.sg.length cg)).setCell ⟨Y, 8, none⟩ (.slice ak h.key.length ck)).heap[Y]? = some (.cells #[.int .i64 fu, .int .i64 fd, .int .i64 tu, .int .i64 td, .slice a3 x3.length c3, .bool true, .slice aa h.ag.length ca, .slice ag h.sg.length cg, .slice ak h.key.length ck, .int .u32 0, .bool false, .int .u32 0, .slice none 0 0, .int .u32 0, .int .u32 0, .slice none 0 0] 92 (0, 0)) := set_at q7 _
  have q9 : ((((w6.setCell ⟨Y, 6, none⟩ (.slice aa h.ag.length ca)).setCell ⟨Y, 7, none⟩ (.slice ag h.sg.length cg)).setCell ⟨Y, 8, none⟩ (.slice ak h.key.length ck)).setCell ⟨Y, 9, none⟩ (.int .u32 h.signed)).heap[Y]? = some (.cells #[.int .i64 fu, .int .i64 fd, .int .i64 tu, .int .i64 td, .slice a3 x3.length c3, .bool true, .slice aa h.ag.length ca, .slice ag h.sg.length cg, .slice ak h.key.length ck, .int .u32 h.signed, .bool false, .int .u32 0, .slice none 0 0, .int .u32 0, .int .u32 0, .slice none 0 0] 92 (0, 0)) := set_at q8 _
  have q10 : (((((w6.setCell ⟨Y, 6, none⟩ (.slice aa h.ag.length ca)).setCell ⟨Y, 7, none⟩ (.slice ag h.sg.length cg)).setCell ⟨Y, 8, none⟩ (.slice ak h.key.length ck)).setCell ⟨Y, 9, none⟩ (.int .u32 h.signed)).setCell ⟨Y, 10, none⟩ (.bool h.has)).heap[Y]? = some (.cells #[.int .i64 fu, .int .i64 fd, .int .i64 tu, .int .i64 td, .slice a3 x3.length c3, .bool true, .slice aa h.ag.length ca, .slice ag h.sg.length cg, .slice ak h.key.length ck, .int .u32 h.signed, .bool h.has, .int .u32 0, .slice none 0 0, .int .u32 0, .int .u32 0, .slice none 0 0] 92 (0, 0)) := set_at q9 _
  have q11 : ((((((w6.setCell ⟨Y, 6, none⟩ (.slice aa h.ag.length ca)).setCell ⟨Y, 7, none⟩ (.slice ag h.sg.length cg)).setCell ⟨Y, 8, none⟩ (.slice ak h.key.length ck)).setCell ⟨Y, 9, none⟩ (.int .u32 h.signed)).setCell ⟨Y, 10, none⟩ (.bool h.has)).setCell ⟨Y, 11, none⟩ (.int .u32 h.once)).heap[Y]? = some (.cells #[.int .i64 fu, .int .i64 fd, .int .i64 tu, .int .i64 td, .slice a3 x3.length c3, .bool true, .slice aa h.ag.length ca, .slice ag h.sg.length cg, .slice ak h.key.length ck, .int .u32 h.signed, .bool h.has, .int .u32 h.once, .slice none 0 0, .int .u32 0, .int .u32 0, .slice none 0 0] 92 (0, 0)) := set_at q10 _
  have oS : Only w6 ((((((w6.setCell ⟨Y, 6, none⟩ (.slice aa h.ag.length ca)).setCell ⟨Y, 7, none⟩ (.slice ag h.sg.length cg)).setCell ⟨Y, 8, none⟩ (.slice ak h.key.length ck)).setCell ⟨Y, 9, none⟩ (.int .u32 h.signed)).setCell ⟨Y, 10, none⟩ (.bool h.has)).setCell ⟨Y, 11, none⟩ (.int .u32 h.once)) [Y] := ((((((Only.setCell _ _ _ _ (by simp)).trans (Only.setCell _ _ _ _ (by simp))).trans (Only.setCell _ _ _ _ (by simp))).trans (Only.setCell _ _ _ _ (by simp))).trans (Only.setCell _ _ _ _ (by simp))).trans (Only.setCell _ _ _ _ (by simp)))
  have oh : Only w6 w6 [R, Y] := Only.refl _ _
  have o4 := o4.trans (oS.mono (fun k _ hk => by simp at hk; simp [hk]))
  have oh := oh.trans (oS.mono (fun k _ hk => by simp at hk; simp [hk]))
  have r5 := r5.keep oS hYW
  have hy7 := q11
  clear y6 f6 y7 f7 y8 f8 y9 f9 y10 f10 y11 f11 q6 q7 q8 q9 q10 q11
  have zS := oS.size
  clear oS
  generalize ((((((w6.setCell ⟨Y, 6, none⟩ (.slice aa h.ag.length ca)).setCell ⟨Y, 7, none⟩ (.slice ag h.sg.length cg)).setCell ⟨Y, 8, none⟩ (.slice ak h.key.length ck)).setCell ⟨Y, 9, none⟩ (.int .u32 h.signed)).setCell ⟨Y, 10, none⟩ (.bool h.has)).setCell ⟨Y, 11, none⟩ (.int .u32 h.once)) = W7 at *
  refine (rbytes_rt r5.here).mono ?_
  rintro e w8 ⟨v8, x8, s8, H8, rfl, g8, l8, r8⟩
  obtain ⟨⟨a8, c8, rfl⟩, _⟩ := id g8
  have o4 := o4.trans (r8.only.mono (fun k _ hk => by simp at hk; simp [hk]))
  have oh := oh.trans (r8.only.mono (fun k _ hk => by simp at hk; simp [hk]))
  have o8 : Only w8 w8 [R, Y] := Only.refl _ _
  have r5 := r5.back r8
  have hy8 := r8.only.at hy7 hYR
  have z8 := r8.only.size
  go_wp2_with fail
  refine (rnum_rt r5.here).mono ?_
  rintro e w9 ⟨n9, s9, H9, rfl, lo9, hi9, r9⟩
  have o4 := o4.trans (r9.only.mono (fun k _ hk => by simp at hk; simp [hk]))
  have oh := oh.trans (r9.only.mono (fun k _ hk => by simp at hk; simp [hk]))
  have o8 := o8.trans (r9.only.mono (fun k _ hk => by simp at hk; simp [hk]))
  have r5 := r5.back r9
  have hy9 := r9.only.at hy8 hYR
  have z9 := r9.only.size
  go_wp2_with fail
  refine (rnum_rt r5.here).mono ?_
  rintro e w10 ⟨n10, s10, H10, rfl, lo10, hi10, r10⟩
  have o4 := o4.trans (r10.only.mono (fun k _ hk => by simp at hk; simp [hk]))
  have oh := oh.trans (r10.only.mono (fun k _ hk => by simp at hk; simp [hk]))
  have o8 := o8.trans (r10.only.mono (fun k _ hk => by simp at hk; simp [hk]))
  have r5 := r5.back r10
  have hy10 := r10.only.at hy9 hYR
  have z10 := r10.only.size
  have y12 := cell_in hy10 12
  have f12 := free_in hy10 12
  have y13 := cell_in hy10 13
  have f13 := free_in hy10 13
  have y14 := cell_in hy10 14
  have f14 := free_in hy10 14
  go_wp2_with fail
  have q12 : (w10.setCell ⟨Y, 12, none⟩ (.slice a8 x8.length c8)).heap[Y]? = some (.cells #[.int .i64 fu, .int .i64 fd, .int .i64 tu, .int .i64 td, .slice a3 x3.length c3, .bool true, .slice aa h.ag.length ca, .slice ag h.sg.length cg, .slice ak h.key.length ck, .int .u32 h.signed, .bool h.has, .int .u32 h.once, .slice a8 x8.length c8, .int .u32 0, .int .u32 0, .slice none 0 0] 92 (0, 0)) := set_at hy10 _
  have q13 : ((w10.setCell ⟨Y, 12, none⟩ (.slice a8 x8.length c8)).setCell ⟨Y, 13, none⟩ (.int .u32 n9)).heap[Y]? = some (.cells #[.int .i64 fu, .int .i64 fd, .int .i64 tu, .int .i64 td, .slice a3 x3.length c3, .bool true, .slice aa h.ag.length ca, .slice ag h.sg.length cg, .slice ak h.key.length ck, .int .u32 h.signed, .bool h.has, .int .u32 h.once, .slice a8 x8.length c8, .int .u32 n9, .int .u32 0, .slice none 0 0] 92 (0, 0)) := set_at q12 _
  have q14 : (((w10.setCell ⟨Y, 12, none⟩ (.slice a8 x8.length c8)).setCell ⟨Y, 13, none⟩ (.int .u32 n9)).setCell ⟨Y, 14, none⟩ (.int .u32 n10)).heap[Y]? = some (.cells #[.int .i64 fu, .int .i64 fd, .int .i64 tu, .int .i64 td, .slice a3 x3.length c3, .bool true, .slice aa h.ag.length ca, .slice ag h.sg.length cg, .slice ak h.key.length ck, .int .u32 h.signed, .bool h.has, .int .u32 h.once, .slice a8 x8.length c8, .int .u32 n9, .int .u32 n10, .slice none 0 0] 92 (0, 0)) := set_at q13 _
  have oS : Only w10 (((w10.setCell ⟨Y, 12, none⟩ (.slice a8 x8.length c8)).setCell ⟨Y, 13, none⟩ (.int .u32 n9)).setCell ⟨Y, 14, none⟩ (.int .u32 n10)) [Y] := (((Only.setCell _ _ _ _ (by simp)).trans (Only.setCell _ _ _ _ (by simp))).trans (Only.setCell _ _ _ _ (by simp)))
  have o4 := o4.trans (oS.mono (fun k _ hk => by simp at hk; simp [hk]))
  have oh := oh.trans (oS.mono (fun k _ hk => by simp at hk; simp [hk]))
  have o8 := o8.trans (oS.mono (fun k _ hk => by simp at hk; simp [hk]))
  have r5 := r5.keep oS hYW
  have hy11 := q14
  clear y12 f12 q12 y13 f13 q13 y14 f14 q14
  have zS2 := oS.size
  clear oS
  generalize (((w10.setCell ⟨Y, 12, none⟩ (.slice a8 x8.length c8)).setCell ⟨Y, 13, none⟩ (.int .u32 n9)).setCell ⟨Y, 14, none⟩ (.int .u32 n10)) = W11 at *
  refine (rbytes_rt r5.here).mono ?_
  rintro e w12 ⟨v12, x12, s12, H12, rfl, g12, l12, r12⟩
  obtain ⟨⟨a12, c12, rfl⟩, _⟩ := id g12
  have o4 := o4.trans (r12.only.mono (fun k _ hk => by simp at hk; simp [hk]))
  have oh := oh.trans (r12.only.mono (fun k _ hk => by simp at hk; simp [hk]))
  have o8 := o8.trans (r12.only.mono (fun k _ hk => by simp at hk; simp [hk]))
  have o12 : Only w12 w12 [R, Y] := Only.refl _ _
  have r5 := r5.back r12
  have hy12 := r12.only.at hy11 hYR
  have z12 := r12.only.size
  have y15 := cell_in hy12 15
  have f15 := free_in hy12 15
  go_wp2_with fail
  have q15 : (w12.setCell ⟨Y, 15, none⟩ (.slice a12 x12.length c12)).heap[Y]? = some (.cells #[.int .i64 fu, .int .i64 fd, .int .i64 tu, .int .i64 td, .slice a3 x3.length c3, .bool true, .slice aa h.ag.length ca, .slice ag h.sg.length cg, .slice ak h.key.length ck, .int .u32 h.signed, .bool h.has, .int .u32 h.once, .slice a8 x8.length c8, .int .u32 n9, .int .u32 n10, .slice a12 x12.length c12] 92 (0, 0)) := set_at hy12 _
  have oS : Only w12 (w12.setCell ⟨Y, 15, none⟩ (.slice a12 x12.length c12)) [Y] := (Only.setCell _ _ _ _ (by simp))
  have o4 := o4.trans (oS.mono (fun k _ hk => by simp at hk; simp [hk]))
  have oh := oh.trans (oS.mono (fun k _ hk => by simp at hk; simp [hk]))
  have o8 := o8.trans (oS.mono (fun k _ hk => by simp at hk; simp [hk]))
  have o12 := o12.trans (oS.mono (fun k _ hk => by simp at hk; simp [hk]))
  have rV := r5.keep oS hYW
  have hyV := q15
  clear y15 f15 q15 oS
  generalize (w12.setCell ⟨Y, 15, none⟩ (.slice a12 x12.length c12)) = V at *
  have hne : X ≠ Y := by omega
  have hne' : Y ≠ X := fun h => hne h.symm
  have hXV := o4.at hX4 (by simp; omega)
  have hoV : Only w V [] := ho4.step o4 (fun k hk => .inr (by simp at hk; rcases hk with rfl | rfl; exact hRw; omega))
  have gV : GotE W1 V ⟨fu, fd, tu, td, x3, true, h, x8, n9, n10, x12⟩ _ _ _ _ _ _ := ⟨g3.keep o4 (by simp; omega), (g6.keep oh (by simp; omega)).mono (by omega), (g8.keep o8 (by simp; omega)).mono (by omega), (g12.keep o12 (by simp; omega)).mono (by omega), l3, l8, l12, ufu, ufd, utu, utd, ⟨lo9, hi9⟩, ⟨lo10, hi10⟩⟩
  have HT : Hid (pEnv (ps, false) = (⟨fu, fd, tu, td, x3, true, h, x8, n9, n10, x12⟩, s12)) := show _ = _ by simp [pEnv, pOH, H1.out, H2.out, H3.out, H4.out, H6.out, H8.out, H9.out, H10.out, H12.out]
  clear g3 g8 g12 g6 r04 r5 r8 r9 r10 r12 r6 hX4 hoY hbR o4 oh o8 o12
  refine (rend_rt rV).mono ?_
  rintro e wE0 ⟨rfl, rfl⟩
  obtain ⟨eb, heb⟩ : ∃ eb, eb = (!s12.2 && decide (s12.1.length = 0)) := ⟨_, rfl⟩
  rw [← heb]
  have Heb := Lib.hid heb
  clear heb
  have y0 := cell_in hyV 0
  have y1 := cell_in hyV 1
  have y2 := cell_in hyV 2
  have y3 := cell_in hyV 3
  have y4 := cell_in hyV 4
  have y5 := cell_in hyV 5
  have y6 := cell_in hyV 6
  have y7 := cell_in hyV 7
  have y8 := cell_in hyV 8
  have y9 := cell_in hyV 9
  have y10 := cell_in hyV 10
  have y11 := cell_in hyV 11
  have y12 := cell_in hyV 12
  have y13 := cell_in hyV 13
  have y14 := cell_in hyV 14
  have y15 := cell_in hyV 15
  have x_0 := cell_in hXV 0
  have x_1 := cell_in hXV 1
  have x_2 := cell_in hXV 2
  have x_3 := cell_in hXV 3
  have x_4 := cell_in hXV 4
  have x_5 := cell_in hXV 5
  have x_6 := cell_in hXV 6
  have x_7 := cell_in hXV 7
  have x_8 := cell_in hXV 8
  have x_9 := cell_in hXV 9
  have x_10 := cell_in hXV 10
  have x_11 := cell_in hXV 11
  have x_12 := cell_in hXV 12
  have x_13 := cell_in hXV 13
  have x_14 := cell_in hXV 14
  have x_15 := cell_in hXV 15
  have xf0 := free_in hXV 0
  have xf1 := free_in hXV 1
  have xf2 := free_in hXV 2
  have xf3 := free_in hXV 3
  have xf4 := free_in hXV 4
  have xf5 := free_in hXV 5
  have xf6 := free_in hXV 6
  have xf7 := free_in hXV 7
  have xf8 := free_in hXV 8
  have xf9 := free_in hXV 9
  have xf10 := free_in hXV 10
  have xf11 := free_in hXV 11
  have xf12 := free_in hXV 12
  have xf13 := free_in hXV 13
  have xf14 := free_in hXV 14
  have xf15 := free_in hXV 15
  have hev : eb = false := by rw [Heb.out]; have h := hend; rw [HT.out] at h; exact h
  subst hev
  clear hend hflag
  go_wp2_with fail
  have hE0 : ((((((((((((((((V.setCell ⟨X, 0, none⟩ (.int .i64 0)).setCell ⟨X, 1, none⟩ (.int .i64 0)).setCell ⟨X, 2, none⟩ (.int .i64 0)).setCell ⟨X, 3, none⟩ (.int .i64 0)).setCell ⟨X, 4, none⟩ (.slice none 0 0)).setCell ⟨X, 5, none⟩ (.bool false)).setCell ⟨X, 6, none⟩ (.slice none 0 0)).setCell ⟨X, 7, none⟩ (.slice none 0 0)).setCell ⟨X, 8, none⟩ (.slice none 0 0)).setCell ⟨X, 9, none⟩ (.int .u32 0)).setCell ⟨X, 10, none⟩ (.bool false)).setCell ⟨X, 11, none⟩ (.int .u32 0)).setCell ⟨X, 12, none⟩ (.slice none 0 0)).setCell ⟨X, 13, none⟩ (.int .u32 0)).setCell ⟨X, 14, none⟩ (.int .u32 0)).setCell ⟨X, 15, none⟩ (.slice none 0 0)) = setAll V X 0 [.int .i64 0, .int .i64 0, .int .i64 0, .int .i64 0, .slice none 0 0, .bool false, .slice none 0 0, .slice none 0 0, .slice none 0 0, .int .u32 0, .bool false, .int .u32 0, .slice none 0 0, .int .u32 0, .int .u32 0, .slice none 0 0] := rfl
  obtain ⟨wE, hE⟩ : ∃ z, z = setAll V X 0 [.int .i64 0, .int .i64 0, .int .i64 0, .int .i64 0, .slice none 0 0, .bool false, .slice none 0 0, .slice none 0 0, .slice none 0 0, .int .u32 0, .bool false, .int .u32 0, .slice none 0 0, .int .u32 0, .int .u32 0, .slice none 0 0] := ⟨_, rfl⟩
  rw [hE0, ← hE]
  have hoE : Only V wE [X] := by rw [hE]; exact setAll_only X _ V 0
  have hbE := setAll_lit [.int .i64 0, .int .i64 0, .int .i64 0, .int .i64 0, .slice none 0 0, .bool false, .slice none 0 0, .slice none 0 0, .slice none 0 0, .int .u32 0, .bool false, .int .u32 0, .slice none 0 0, .int .u32 0, .int .u32 0, .slice none 0 0] hXV rfl
  rw [← hE] at hbE
  clear hE
  have d0 : wE.cell? ⟨X, 0, none⟩ = some (.int .i64 0) := (cell_in hbE 0).trans rfl
  have d1 : wE.cell? ⟨X, 1, none⟩ = some (.int .i64 0) := (cell_in hbE 1).trans rfl
  have d2 : wE.cell? ⟨X, 2, none⟩ = some (.int .i64 0) := (cell_in hbE 2).trans rfl
  have d3 : wE.cell? ⟨X, 3, none⟩ = some (.int .i64 0) := (cell_in hbE 3).trans rfl
  have d4 : wE.cell? ⟨X, 4, none⟩ = some (.slice none 0 0) := (cell_in hbE 4).trans rfl
  have d5 : wE.cell? ⟨X, 5, none⟩ = some (.bool false) := (cell_in hbE 5).trans rfl
  have d6 : wE.cell? ⟨X, 6, none⟩ = some (.slice none 0 0) := (cell_in hbE 6).trans rfl
  have d7 : wE.cell? ⟨X, 7, none⟩ = some (.slice none 0 0) := (cell_in hbE 7).trans rfl
  have d8 : wE.cell? ⟨X, 8, none⟩ = some (.slice none 0 0) := (cell_in hbE 8).trans rfl
  have d9 : wE.cell? ⟨X, 9, none⟩ = some (.int .u32 0) := (cell_in hbE 9).trans rfl
  have d10 : wE.cell? ⟨X, 10, none⟩ = some (.bool false) := (cell_in hbE 10).trans rfl
  have d11 : wE.cell? ⟨X, 11, none⟩ = some (.int .u32 0) := (cell_in hbE 11).trans rfl
  have d12 : wE.cell? ⟨X, 12, none⟩ = some (.slice none 0 0) := (cell_in hbE 12).trans rfl
  have d13 : wE.cell? ⟨X, 13, none⟩ = some (.int .u32 0) := (cell_in hbE 13).trans rfl
  have d14 : wE.cell? ⟨X, 14, none⟩ = some (.int .u32 0) := (cell_in hbE 14).trans rfl
  have d15 : wE.cell? ⟨X, 15, none⟩ = some (.slice none 0 0) := (cell_in hbE 15).trans rfl
  clear hE0
  refine bodyPost_ret (v := .tuple #[.agg #[.int .i64 0, .int .i64 0, .int .i64 0, .int .i64 0, .slice none 0 0, .bool false, .slice none 0 0, .slice none 0 0, .slice none 0 0, .int .u32 0, .bool false, .int .u32 0, .slice none 0 0, .int .u32 0, .int .u32 0, .slice none 0 0], .int .i64 4]) (by simp [results, Tryz.results32, go_sem, d0, d1, d2, d3, d4, d5, d6, d7, d8, d9, d10, d11, d12, d13, d14, d15]) rfl ?_
  exact ⟨⟨fu, fd, tu, td, x3, true, h, x8, n9, n10, x12⟩, s12, HT.out, hoV.new hoE hXX, .inr ⟨Heb.out.symm, rfl⟩⟩
end Go.Proofs.YtjfmelmiegnmjaaGreatDoor
end

section
namespace Go.Proofs.YtjfmelmiegnmjaaGreatDoor
open Go.RowKit Go.Pw
set_option linter.all false
set_option maxRecDepth 100000
set_option maxRecDepth 100000 in
set_option maxHeartbeats 12800000 in
theorem decode_tt (p : Value) (ps : List Int) (w : World) (hp : Rd w p ps) (hb : Byt ps) (hl : ps.length ≤ 1000000000) (hflag : (pF (pB (pW (pW (ps, false)).2).2).2).1 = true) (hend : Ends (pEnv (ps, false)).2 = true) :
    Calls Tryz.prog 32 #[p] w (DecE ps w) := by
  obtain ⟨ao, c, rfl⟩ := hp.slice
  go_enter Tryz.func32, Tryz.ntmps32
  go_wp2_with fail
  obtain ⟨W0, X, hW, hX, hbX, hoW, hX1, hX2⟩ := new_block w (.cells #[.int .i64 0, .int .i64 0, .int .i64 0, .int .i64 0, .slice none 0 0, .bool false, .slice none 0 0, .slice none 0 0, .slice none 0 0, .int .u32 0, .bool false, .int .u32 0, .slice none 0 0, .int .u32 0, .int .u32 0, .slice none 0 0] 92)
  rw [← hW, ← hX]
  have hs0 : W0.heap.size = X + 1 := by rw [hW, hX]; simp
  clear hW hX
  refine (rread_any _ _ _ _).mono ?_
  rintro e W1' ⟨rfl, rfl⟩
  obtain ⟨W1, R, hW, hR, hbR, hoR, hR1, hR2⟩ := new_block W0 (.cells #[.slice ao ps.length c, .bool false] 274)
  rw [← hW, ← hR]
  clear hW hR
  have r0 := rt_new hp hb hl (hoW.trans hoR) hbR
  have hXR : X ≠ R := by omega
  have hX0 : X ∉ [R] := by simpa using hXR
  have hX1b := hoR.at hbX (by simp)
  clear hp hb hbX
  go_wp2_with fail
  refine (readwho_rt r0).mono ?_
  rintro e w1 ⟨⟨fu, fd⟩, s1, v1, H1, rfl, ⟨rfl, ufu, ufd⟩, r1⟩
  have H1 := Lib.hid H1
  dsimp only at ufu ufd ⊢
  go_wp2_with fail
  refine (readwho_rt r1.here).mono ?_
  rintro e w2 ⟨⟨tu, td⟩, s2, v2, H2, rfl, ⟨rfl, utu, utd⟩, r2⟩
  have H2 := Lib.hid H2
  dsimp only at utu utd ⊢
  go_wp2_with fail
  refine (rbytes_rt r2.here).mono ?_
  rintro e w3 ⟨v3, x3, s3, H3, rfl, g3, l3, r3⟩
  obtain ⟨⟨a3, c3, rfl⟩, _⟩ := id g3
  go_wp2_with fail
  refine (rflag_rt r3.here).mono ?_
  rintro e w4 ⟨b4, s4, H4, rfl, r4⟩
  have r04 : RT R _ s4 W1 w4 := ((r1.back r2).back r3).back r4
  have hRW := r0.rlt
  have z1 := r1.only.size
  have z2 := r2.only.size
  have z3 := r3.only.size
  have z4 := r4.only.size
  have g3 := (g3.next r4.only (fun k hk => by simp at hk; subst hk; omega)).mono (W' := W1) (by omega)
  have hX4 := r04.only.at hX1b hX0
  have hzW : W1.heap.size ≤ w4.heap.size := by omega
  have hwW : w.heap.size ≤ W1.heap.size := (hoW.trans hoR).size
  have hXW : X < W1.heap.size := by have := hoR.size; omega
  have hXX : ∀ k ∈ [X], w.heap.size ≤ k := by simpa using hX1
  have hXX' : ∀ k ∈ [X], k < W1.heap.size := by simpa using hXW
  have hRw : w.heap.size ≤ R := Nat.le_trans hoW.size hR1
  have ho4 : Only w w4 [] := (hoW.trans hoR).step r04.only (fun k hk => .inr (by simp at hk; subst hk; exact hRw))
  clear r1 r2 r3 r4 z1 z2 z3 z4 hX1b
  have hbv : b4 = true := by have h := hflag; rw [H1.out] at h; simp only at h; rw [H2.out] at h; simp only at h; rw [H3.out] at h; simp only at h; rw [H4.out] at h; exact h
  subst hbv
  go_wp2_with fail
  obtain ⟨W5, Y, hW, hY, hy, hoY, hY1, hY2⟩ := new_block w4 (.cells #[.int .i64 fu, .int .i64 fd, .int .i64 tu, .int .i64 td, .slice a3 x3.length c3, .bool true, .slice none 0 0, .slice none 0 0, .slice none 0 0, .int .u32 0, .bool false, .int .u32 0, .slice none 0 0, .int .u32 0, .int .u32 0, .slice none 0 0] 92)
  rw [← hW, ← hY]
  clear hW hY
  have hYR : Y ∉ [R] := by simp; omega
  have hYW : ∀ k ∈ [Y], W1.heap.size ≤ k := by simp; omega
  have r5 := r04.new hoY
  have zY := hoY.size
  have o4 : Only w4 W5 [R, Y] := hoY.mono (by simp)
  refine (readhello_rt r5.here).mono ?_
  rintro e w6 ⟨h, s6, v6, H6, rfl, ⟨va, vg, vk, rfl, g6⟩, r6⟩
  obtain ⟨⟨aa, ca, rfl⟩, _⟩ := id g6.ga
  obtain ⟨⟨ag, cg, rfl⟩, _⟩ := id g6.gs
  obtain ⟨⟨ak, ck, rfl⟩, _⟩ := id g6.gk
  have H6 := Lib.hid H6
  have o4 := o4.trans (r6.only.mono (fun k _ hk => by simp at hk; simp [hk]))
  have hy6 := r6.only.at hy hYR
  have r5 := r5.back r6
  have z6 := r6.only.size
  have y6 := cell_in hy6 6
  have f6 := free_in hy6 6
  have y7 := cell_in hy6 7
  have f7 := free_in hy6 7
  have y8 := cell_in hy6 8
  have f8 := free_in hy6 8
  have y9 := cell_in hy6 9
  have f9 := free_in hy6 9
  have y10 := cell_in hy6 10
  have f10 := free_in hy6 10
  have y11 := cell_in hy6 11
  have f11 := free_in hy6 11
  go_wp2_with fail
  have q6 : (w6.setCell ⟨Y, 6, none⟩ (.slice aa h.ag.length ca)).heap[Y]? = some (.cells #[.int .i64 fu, .int .i64 fd, .int .i64 tu, .int .i64 td, .slice a3 x3.length c3, .bool true, .slice aa h.ag.length ca, .slice none 0 0, .slice none 0 0, .int .u32 0, .bool false, .int .u32 0, .slice none 0 0, .int .u32 0, .int .u32 0, .slice none 0 0] 92 (0, 0)) := set_at hy6 _
  have q7 : ((w6.setCell ⟨Y, 6, none⟩ (.slice aa h.ag.length ca)).setCell ⟨Y, 7, none⟩ (.slice ag h.sg.length cg)).heap[Y]? = some (.cells #[.int .i64 fu, .int .i64 fd, .int .i64 tu, .int .i64 td, .slice a3 x3.length c3, .bool true, .slice aa h.ag.length ca, .slice ag h.sg.length cg, .slice none 0 0, .int .u32 0, .bool false, .int .u32 0, .slice none 0 0, .int .u32 0, .int .u32 0, .slice none 0 0] 92 (0, 0)) := set_at q6 _
  have q8 : (((w6.setCell ⟨Y, 6, none⟩ (.slice aa h.ag.length ca)).setCell ⟨Y, 7, none⟩ (.slice ag h.sg.length cg)).setCell ⟨Y, 8, none⟩ (.slice ak h.key.length ck)).heap[Y]? = some (.cells #[.int .i64 fu, .int .i64 fd, .int .i64 tu, .int .i64 td, .slice a3 x3.length c3, .bool true, .slice aa h.ag.length ca, .slice ag h.sg.length cg, .slice ak h.key.length ck, .int .u32 0, .bool false, .int .u32 0, .slice none 0 0, .int .u32 0, .int .u32 0, .slice none 0 0] 92 (0, 0)) := set_at q7 _
  have q9 : ((((w6.setCell ⟨Y, 6, none⟩ (.slice aa h.ag.length ca)).setCell ⟨Y, 7, none⟩ (.slice ag h.sg.length cg)).setCell ⟨Y, 8, none⟩ (.slice ak h.key.length ck)).setCell ⟨Y, 9, none⟩ (.int .u32 h.signed)).heap[Y]? = some (.cells #[.int .i64 fu, .int .i64 fd, .int .i64 tu, .int .i64 td, .slice a3 x3.length c3, .bool true, .slice aa h.ag.length ca, .slice ag h.sg.length cg, .slice ak h.key.length ck, .int .u32 h.signed, .bool false, .int .u32 0, .slice none 0 0, .int .u32 0, .int .u32 0, .slice none 0 0] 92 (0, 0)) := set_at q8 _
  have q10 : (((((w6.setCell ⟨Y, 6, none⟩ (.slice aa h.ag.length ca)).setCell ⟨Y, 7, none⟩ (.slice ag h.sg.length cg)).setCell ⟨Y, 8, none⟩ (.slice ak h.key.length ck)).setCell ⟨Y, 9, none⟩ (.int .u32 h.signed)).setCell ⟨Y, 10, none⟩ (.bool h.has)).heap[Y]? = some (.cells #[.int .i64 fu, .int .i64 fd, .int .i64 tu, .int .i64 td, .slice a3 x3.length c3, .bool true, .slice aa h.ag.length ca, .slice ag h.sg.length cg, .slice ak h.key.length ck, .int .u32 h.signed, .bool h.has, .int .u32 0, .slice none 0 0, .int .u32 0, .int .u32 0, .slice none 0 0] 92 (0, 0)) := set_at q9 _
  have q11 : ((((((w6.setCell ⟨Y, 6, none⟩ (.slice aa h.ag.length ca)).setCell ⟨Y, 7, none⟩ (.slice ag h.sg.length cg)).setCell ⟨Y, 8, none⟩ (.slice ak h.key.length ck)).setCell ⟨Y, 9, none⟩ (.int .u32 h.signed)).setCell ⟨Y, 10, none⟩ (.bool h.has)).setCell ⟨Y, 11, none⟩ (.int .u32 h.once)).heap[Y]? = some (.cells #[.int .i64 fu, .int .i64 fd, .int .i64 tu, .int .i64 td, .slice a3 x3.length c3, .bool true, .slice aa h.ag.length ca, .slice ag h.sg.length cg, .slice ak h.key.length ck, .int .u32 h.signed, .bool h.has, .int .u32 h.once, .slice none 0 0, .int .u32 0, .int .u32 0, .slice none 0 0] 92 (0, 0)) := set_at q10 _
  have oS : Only w6 ((((((w6.setCell ⟨Y, 6, none⟩ (.slice aa h.ag.length ca)).setCell ⟨Y, 7, none⟩ (.slice ag h.sg.length cg)).setCell ⟨Y, 8, none⟩ (.slice ak h.key.length ck)).setCell ⟨Y, 9, none⟩ (.int .u32 h.signed)).setCell ⟨Y, 10, none⟩ (.bool h.has)).setCell ⟨Y, 11, none⟩ (.int .u32 h.once)) [Y] := ((((((Only.setCell _ _ _ _ (by simp)).trans (Only.setCell _ _ _ _ (by simp))).trans (Only.setCell _ _ _ _ (by simp))).trans (Only.setCell _ _ _ _ (by simp))).trans (Only.setCell _ _ _ _ (by simp))).trans (Only.setCell _ _ _ _ (by simp)))
  have oh : Only w6 w6 [R, Y] := Only.refl _ _
  have o4 := o4.trans (oS.mono (fun k _ hk => by simp at hk; simp [hk]))
  have oh := oh.trans (oS.mono (fun k _ hk => by simp at hk; simp [hk]))
  have r5 := r5.keep oS hYW
  have hy7 := q11
  clear y6 f6 y7 f7 y8 f8 y9 f9 y10 f10 y11 f11 q6 q7 q8 q9 q10 q11
  have zS := oS.size
  clear oS
  generalize ((((((w6.setCell ⟨Y, 6, none⟩ (.slice aa h.ag.length ca)).setCell ⟨Y, 7, none⟩ (.slice ag h.sg.length cg)).setCell ⟨Y, 8, none⟩ (.slice ak h.key.length ck)).setCell ⟨Y, 9, none⟩ (.int .u32 h.signed)).setCell ⟨Y, 10, none⟩ (.bool h.has)).setCell ⟨Y, 11, none⟩ (.int .u32 h.once)) = W7 at *
  refine (rbytes_rt r5.here).mono ?_
  rintro e w8 ⟨v8, x8, s8, H8, rfl, g8, l8, r8⟩
  obtain ⟨⟨a8, c8, rfl⟩, _⟩ := id g8
  have o4 := o4.trans (r8.only.mono (fun k _ hk => by simp at hk; simp [hk]))
  have oh := oh.trans (r8.only.mono (fun k _ hk => by simp at hk; simp [hk]))
  have o8 : Only w8 w8 [R, Y] := Only.refl _ _
  have r5 := r5.back r8
  have hy8 := r8.only.at hy7 hYR
  have z8 := r8.only.size
  go_wp2_with fail
  refine (rnum_rt r5.here).mono ?_
  rintro e w9 ⟨n9, s9, H9, rfl, lo9, hi9, r9⟩
  have o4 := o4.trans (r9.only.mono (fun k _ hk => by simp at hk; simp [hk]))
  have oh := oh.trans (r9.only.mono (fun k _ hk => by simp at hk; simp [hk]))
  have o8 := o8.trans (r9.only.mono (fun k _ hk => by simp at hk; simp [hk]))
  have r5 := r5.back r9
  have hy9 := r9.only.at hy8 hYR
  have z9 := r9.only.size
  go_wp2_with fail
  refine (rnum_rt r5.here).mono ?_
  rintro e w10 ⟨n10, s10, H10, rfl, lo10, hi10, r10⟩
  have o4 := o4.trans (r10.only.mono (fun k _ hk => by simp at hk; simp [hk]))
  have oh := oh.trans (r10.only.mono (fun k _ hk => by simp at hk; simp [hk]))
  have o8 := o8.trans (r10.only.mono (fun k _ hk => by simp at hk; simp [hk]))
  have r5 := r5.back r10
  have hy10 := r10.only.at hy9 hYR
  have z10 := r10.only.size
  have y12 := cell_in hy10 12
  have f12 := free_in hy10 12
  have y13 := cell_in hy10 13
  have f13 := free_in hy10 13
  have y14 := cell_in hy10 14
  have f14 := free_in hy10 14
  go_wp2_with fail
  have q12 : (w10.setCell ⟨Y, 12, none⟩ (.slice a8 x8.length c8)).heap[Y]? = some (.cells #[.int .i64 fu, .int .i64 fd, .int .i64 tu, .int .i64 td, .slice a3 x3.length c3, .bool true, .slice aa h.ag.length ca, .slice ag h.sg.length cg, .slice ak h.key.length ck, .int .u32 h.signed, .bool h.has, .int .u32 h.once, .slice a8 x8.length c8, .int .u32 0, .int .u32 0, .slice none 0 0] 92 (0, 0)) := set_at hy10 _
  have q13 : ((w10.setCell ⟨Y, 12, none⟩ (.slice a8 x8.length c8)).setCell ⟨Y, 13, none⟩ (.int .u32 n9)).heap[Y]? = some (.cells #[.int .i64 fu, .int .i64 fd, .int .i64 tu, .int .i64 td, .slice a3 x3.length c3, .bool true, .slice aa h.ag.length ca, .slice ag h.sg.length cg, .slice ak h.key.length ck, .int .u32 h.signed, .bool h.has, .int .u32 h.once, .slice a8 x8.length c8, .int .u32 n9, .int .u32 0, .slice none 0 0] 92 (0, 0)) := set_at q12 _
  have q14 : (((w10.setCell ⟨Y, 12, none⟩ (.slice a8 x8.length c8)).setCell ⟨Y, 13, none⟩ (.int .u32 n9)).setCell ⟨Y, 14, none⟩ (.int .u32 n10)).heap[Y]? = some (.cells #[.int .i64 fu, .int .i64 fd, .int .i64 tu, .int .i64 td, .slice a3 x3.length c3, .bool true, .slice aa h.ag.length ca, .slice ag h.sg.length cg, .slice ak h.key.length ck, .int .u32 h.signed, .bool h.has, .int .u32 h.once, .slice a8 x8.length c8, .int .u32 n9, .int .u32 n10, .slice none 0 0] 92 (0, 0)) := set_at q13 _
  have oS : Only w10 (((w10.setCell ⟨Y, 12, none⟩ (.slice a8 x8.length c8)).setCell ⟨Y, 13, none⟩ (.int .u32 n9)).setCell ⟨Y, 14, none⟩ (.int .u32 n10)) [Y] := (((Only.setCell _ _ _ _ (by simp)).trans (Only.setCell _ _ _ _ (by simp))).trans (Only.setCell _ _ _ _ (by simp)))
  have o4 := o4.trans (oS.mono (fun k _ hk => by simp at hk; simp [hk]))
  have oh := oh.trans (oS.mono (fun k _ hk => by simp at hk; simp [hk]))
  have o8 := o8.trans (oS.mono (fun k _ hk => by simp at hk; simp [hk]))
  have r5 := r5.keep oS hYW
  have hy11 := q14
  clear y12 f12 q12 y13 f13 q13 y14 f14 q14
  have zS2 := oS.size
  clear oS
  generalize (((w10.setCell ⟨Y, 12, none⟩ (.slice a8 x8.length c8)).setCell ⟨Y, 13, none⟩ (.int .u32 n9)).setCell ⟨Y, 14, none⟩ (.int .u32 n10)) = W11 at *
  refine (rbytes_rt r5.here).mono ?_
  rintro e w12 ⟨v12, x12, s12, H12, rfl, g12, l12, r12⟩
  obtain ⟨⟨a12, c12, rfl⟩, _⟩ := id g12
  have o4 := o4.trans (r12.only.mono (fun k _ hk => by simp at hk; simp [hk]))
  have oh := oh.trans (r12.only.mono (fun k _ hk => by simp at hk; simp [hk]))
  have o8 := o8.trans (r12.only.mono (fun k _ hk => by simp at hk; simp [hk]))
  have o12 : Only w12 w12 [R, Y] := Only.refl _ _
  have r5 := r5.back r12
  have hy12 := r12.only.at hy11 hYR
  have z12 := r12.only.size
  have y15 := cell_in hy12 15
  have f15 := free_in hy12 15
  go_wp2_with fail
  have q15 : (w12.setCell ⟨Y, 15, none⟩ (.slice a12 x12.length c12)).heap[Y]? = some (.cells #[.int .i64 fu, .int .i64 fd, .int .i64 tu, .int .i64 td, .slice a3 x3.length c3, .bool true, .slice aa h.ag.length ca, .slice ag h.sg.length cg, .slice ak h.key.length ck, .int .u32 h.signed, .bool h.has, .int .u32 h.once, .slice a8 x8.length c8, .int .u32 n9, .int .u32 n10, .slice a12 x12.length c12] 92 (0, 0)) := set_at hy12 _
  have oS : Only w12 (w12.setCell ⟨Y, 15, none⟩ (.slice a12 x12.length c12)) [Y] := (Only.setCell _ _ _ _ (by simp))
  have o4 := o4.trans (oS.mono (fun k _ hk => by simp at hk; simp [hk]))
  have oh := oh.trans (oS.mono (fun k _ hk => by simp at hk; simp [hk]))
  have o8 := o8.trans (oS.mono (fun k _ hk => by simp at hk; simp [hk]))
  have o12 := o12.trans (oS.mono (fun k _ hk => by simp at hk; simp [hk]))
  have rV := r5.keep oS hYW
  have hyV := q15
  clear y15 f15 q15 oS
  generalize (w12.setCell ⟨Y, 15, none⟩ (.slice a12 x12.length c12)) = V at *
  have hne : X ≠ Y := by omega
  have hne' : Y ≠ X := fun h => hne h.symm
  have hXV := o4.at hX4 (by simp; omega)
  have hoV : Only w V [] := ho4.step o4 (fun k hk => .inr (by simp at hk; rcases hk with rfl | rfl; exact hRw; omega))
  have gV : GotE W1 V ⟨fu, fd, tu, td, x3, true, h, x8, n9, n10, x12⟩ _ _ _ _ _ _ := ⟨g3.keep o4 (by simp; omega), (g6.keep oh (by simp; omega)).mono (by omega), (g8.keep o8 (by simp; omega)).mono (by omega), (g12.keep o12 (by simp; omega)).mono (by omega), l3, l8, l12, ufu, ufd, utu, utd, ⟨lo9, hi9⟩, ⟨lo10, hi10⟩⟩
  have HT : Hid (pEnv (ps, false) = (⟨fu, fd, tu, td, x3, true, h, x8, n9, n10, x12⟩, s12)) := show _ = _ by simp [pEnv, pOH, H1.out, H2.out, H3.out, H4.out, H6.out, H8.out, H9.out, H10.out, H12.out]
  clear g3 g8 g12 g6 r04 r5 r8 r9 r10 r12 r6 hX4 hoY hbR o4 oh o8 o12
  refine (rend_rt rV).mono ?_
  rintro e wE0 ⟨rfl, rfl⟩
  obtain ⟨eb, heb⟩ : ∃ eb, eb = (!s12.2 && decide (s12.1.length = 0)) := ⟨_, rfl⟩
  rw [← heb]
  have Heb := Lib.hid heb
  clear heb
  have y0 := cell_in hyV 0
  have y1 := cell_in hyV 1
  have y2 := cell_in hyV 2
  have y3 := cell_in hyV 3
  have y4 := cell_in hyV 4
  have y5 := cell_in hyV 5
  have y6 := cell_in hyV 6
  have y7 := cell_in hyV 7
  have y8 := cell_in hyV 8
  have y9 := cell_in hyV 9
  have y10 := cell_in hyV 10
  have y11 := cell_in hyV 11
  have y12 := cell_in hyV 12
  have y13 := cell_in hyV 13
  have y14 := cell_in hyV 14
  have y15 := cell_in hyV 15
  have x_0 := cell_in hXV 0
  have x_1 := cell_in hXV 1
  have x_2 := cell_in hXV 2
  have x_3 := cell_in hXV 3
  have x_4 := cell_in hXV 4
  have x_5 := cell_in hXV 5
  have x_6 := cell_in hXV 6
  have x_7 := cell_in hXV 7
  have x_8 := cell_in hXV 8
  have x_9 := cell_in hXV 9
  have x_10 := cell_in hXV 10
  have x_11 := cell_in hXV 11
  have x_12 := cell_in hXV 12
  have x_13 := cell_in hXV 13
  have x_14 := cell_in hXV 14
  have x_15 := cell_in hXV 15
  have xf0 := free_in hXV 0
  have xf1 := free_in hXV 1
  have xf2 := free_in hXV 2
  have xf3 := free_in hXV 3
  have xf4 := free_in hXV 4
  have xf5 := free_in hXV 5
  have xf6 := free_in hXV 6
  have xf7 := free_in hXV 7
  have xf8 := free_in hXV 8
  have xf9 := free_in hXV 9
  have xf10 := free_in hXV 10
  have xf11 := free_in hXV 11
  have xf12 := free_in hXV 12
  have xf13 := free_in hXV 13
  have xf14 := free_in hXV 14
  have xf15 := free_in hXV 15
  have hev : eb = true := by rw [Heb.out]; have h := hend; rw [HT.out] at h; exact h
  subst hev
  clear hend hflag
  go_wp2_with fail
  have hE0 : ((((((((((((((((V.setCell ⟨X, 0, none⟩ (.int .i64 fu)).setCell ⟨X, 1, none⟩ (.int .i64 fd)).setCell ⟨X, 2, none⟩ (.int .i64 tu)).setCell ⟨X, 3, none⟩ (.int .i64 td)).setCell ⟨X, 4, none⟩ (.slice a3 x3.length c3)).setCell ⟨X, 5, none⟩ (.bool true)).setCell ⟨X, 6, none⟩ (.slice aa h.ag.length ca)).setCell ⟨X, 7, none⟩ (.slice ag h.sg.length cg)).setCell ⟨X, 8, none⟩ (.slice ak h.key.length ck)).setCell ⟨X, 9, none⟩ (.int .u32 h.signed)).setCell ⟨X, 10, none⟩ (.bool h.has)).setCell ⟨X, 11, none⟩ (.int .u32 h.once)).setCell ⟨X, 12, none⟩ (.slice a8 x8.length c8)).setCell ⟨X, 13, none⟩ (.int .u32 n9)).setCell ⟨X, 14, none⟩ (.int .u32 n10)).setCell ⟨X, 15, none⟩ (.slice a12 x12.length c12)) = setAll V X 0 [.int .i64 fu, .int .i64 fd, .int .i64 tu, .int .i64 td, .slice a3 x3.length c3, .bool true, .slice aa h.ag.length ca, .slice ag h.sg.length cg, .slice ak h.key.length ck, .int .u32 h.signed, .bool h.has, .int .u32 h.once, .slice a8 x8.length c8, .int .u32 n9, .int .u32 n10, .slice a12 x12.length c12] := rfl
  obtain ⟨wE, hE⟩ : ∃ z, z = setAll V X 0 [.int .i64 fu, .int .i64 fd, .int .i64 tu, .int .i64 td, .slice a3 x3.length c3, .bool true, .slice aa h.ag.length ca, .slice ag h.sg.length cg, .slice ak h.key.length ck, .int .u32 h.signed, .bool h.has, .int .u32 h.once, .slice a8 x8.length c8, .int .u32 n9, .int .u32 n10, .slice a12 x12.length c12] := ⟨_, rfl⟩
  rw [hE0, ← hE]
  have hoE : Only V wE [X] := by rw [hE]; exact setAll_only X _ V 0
  have hbE := setAll_lit [.int .i64 fu, .int .i64 fd, .int .i64 tu, .int .i64 td, .slice a3 x3.length c3, .bool true, .slice aa h.ag.length ca, .slice ag h.sg.length cg, .slice ak h.key.length ck, .int .u32 h.signed, .bool h.has, .int .u32 h.once, .slice a8 x8.length c8, .int .u32 n9, .int .u32 n10, .slice a12 x12.length c12] hXV rfl
  rw [← hE] at hbE
  clear hE
  have d0 : wE.cell? ⟨X, 0, none⟩ = some (.int .i64 fu) := (cell_in hbE 0).trans rfl
  have d1 : wE.cell? ⟨X, 1, none⟩ = some (.int .i64 fd) := (cell_in hbE 1).trans rfl
  have d2 : wE.cell? ⟨X, 2, none⟩ = some (.int .i64 tu) := (cell_in hbE 2).trans rfl
  have d3 : wE.cell? ⟨X, 3, none⟩ = some (.int .i64 td) := (cell_in hbE 3).trans rfl
  have d4 : wE.cell? ⟨X, 4, none⟩ = some (.slice a3 x3.length c3) := (cell_in hbE 4).trans rfl
  have d5 : wE.cell? ⟨X, 5, none⟩ = some (.bool true) := (cell_in hbE 5).trans rfl
  have d6 : wE.cell? ⟨X, 6, none⟩ = some (.slice aa h.ag.length ca) := (cell_in hbE 6).trans rfl
  have d7 : wE.cell? ⟨X, 7, none⟩ = some (.slice ag h.sg.length cg) := (cell_in hbE 7).trans rfl
  have d8 : wE.cell? ⟨X, 8, none⟩ = some (.slice ak h.key.length ck) := (cell_in hbE 8).trans rfl
  have d9 : wE.cell? ⟨X, 9, none⟩ = some (.int .u32 h.signed) := (cell_in hbE 9).trans rfl
  have d10 : wE.cell? ⟨X, 10, none⟩ = some (.bool h.has) := (cell_in hbE 10).trans rfl
  have d11 : wE.cell? ⟨X, 11, none⟩ = some (.int .u32 h.once) := (cell_in hbE 11).trans rfl
  have d12 : wE.cell? ⟨X, 12, none⟩ = some (.slice a8 x8.length c8) := (cell_in hbE 12).trans rfl
  have d13 : wE.cell? ⟨X, 13, none⟩ = some (.int .u32 n9) := (cell_in hbE 13).trans rfl
  have d14 : wE.cell? ⟨X, 14, none⟩ = some (.int .u32 n10) := (cell_in hbE 14).trans rfl
  have d15 : wE.cell? ⟨X, 15, none⟩ = some (.slice a12 x12.length c12) := (cell_in hbE 15).trans rfl
  clear hE0
  refine bodyPost_ret (v := .tuple #[.agg #[.int .i64 fu, .int .i64 fd, .int .i64 tu, .int .i64 td, .slice a3 x3.length c3, .bool true, .slice aa h.ag.length ca, .slice ag h.sg.length cg, .slice ak h.key.length ck, .int .u32 h.signed, .bool h.has, .int .u32 h.once, .slice a8 x8.length c8, .int .u32 n9, .int .u32 n10, .slice a12 x12.length c12], .int .i64 0]) (by simp [results, Tryz.results32, go_sem, d0, d1, d2, d3, d4, d5, d6, d7, d8, d9, d10, d11, d12, d13, d14, d15]) rfl ?_
  exact ⟨⟨fu, fd, tu, td, x3, true, h, x8, n9, n10, x12⟩, s12, HT.out, hoV.new hoE hXX, .inl ⟨Heb.out.symm, _, _, _, _, _, _, rfl, (gV.next hoE hXX').mono hwW⟩⟩
end Go.Proofs.YtjfmelmiegnmjaaGreatDoor
end

section
namespace Go.Proofs.YtjfmelmiegnmjaaGreatDoor
open Go.RowKit Go.Pw
set_option linter.all false
set_option maxRecDepth 100000
theorem decode_any (p : Value) (ps : List Int) (w : World) (hp : Rd w p ps) (hb : Byt ps) (hl : ps.length ≤ 1000000000) :
    Calls Tryz.prog 32 #[p] w (DecE ps w) := by
  cases hf : (pF (pB (pW (pW (ps, false)).2).2).2).1 <;> cases he : Ends (pEnv (ps, false)).2
  · exact decode_ff p ps w hp hb hl hf he
  · exact decode_ft p ps w hp hb hl hf he
  · exact decode_tf p ps w hp hb hl hf he
  · exact decode_tt p ps w hp hb hl hf he
end Go.Proofs.YtjfmelmiegnmjaaGreatDoor
end
