/- The symbolic machine and what stands on it, part Ne. -/
import Derived.Deep.MidRow
import Derived.Laws.OwnMore
import Derived.Laws.BitsAllLaws
import Derived.Test.YtfkbookaceckhaaGreatDoorXNd
set_option linter.all false
section
namespace Go.Pw
open Go.RowKit
set_option linter.all false
theorem Only.drewN (w : World) (n : Nat) (L : List Nat) : Only w (w.drewN n) L := ⟨rfl, rfl, rfl, Nat.le_refl _, fun _ _ _ => rfl⟩
structure Res where
  fp : List Nat
  ok : World → Prop
  loc : ∀ w w', (∀ k ∈ fp, w'.heap[k]? = w.heap[k]?) → ok w → ok w'
  lt : ∀ w, ok w → ∀ k ∈ fp, k < w.heap.size
structure Sep (w0 w : World) (rs : List Res) : Prop where
  only : Only w0 w []
  ok : ∀ r ∈ rs, r.ok w
  new : ∀ r ∈ rs, ∀ k ∈ r.fp, w0.heap.size ≤ k
  apart : rs.Pairwise fun a b => ∀ k ∈ a.fp, k ∉ b.fp
theorem Res.only {r : Res} {w w' : World} {L : List Nat} (h : r.ok w) (ho : Only w w' L) (hd : ∀ k ∈ r.fp, k ∉ L) : r.ok w' :=
  r.loc w w' (fun k hk => ho.block k (r.lt w h k hk) (hd k hk)) h
theorem Sep.nil (w : World) : Sep w w [] := ⟨Only.refl _ _, by simp, by simp, List.Pairwise.nil⟩
theorem Sep.perm {w0 w : World} {rs rs' : List Res} (h : Sep w0 w rs) (hp : rs.Perm rs') : Sep w0 w rs' :=
  ⟨h.only, fun r hr => h.ok r (hp.mem_iff.2 hr), fun r hr => h.new r (hp.mem_iff.2 hr), h.apart.perm hp (fun hab k hb ha => hab k ha hb)⟩
theorem Sep.head {w0 w : World} {r : Res} {rs : List Res} (h : Sep w0 w (r :: rs)) : r.ok w := h.ok r (by simp)
theorem Sep.tail {w0 w : World} {r : Res} {rs : List Res} (h : Sep w0 w (r :: rs)) : Sep w0 w rs :=
  ⟨h.only, fun x hx => h.ok x (by simp [hx]), fun x hx => h.new x (by simp [hx]), (List.pairwise_cons.1 h.apart).2⟩
theorem Sep.get {w0 w : World} {rs : List Res} (h : Sep w0 w rs) (i : Nat) {r : Res} (hr : rs[i]? = some r) : r.ok w := h.ok r (List.mem_of_getElem? hr)
theorem up_perm {α : Type} : ∀ (l : List α) (i : Nat) (h : i < l.length), l.Perm (l[i] :: l.eraseIdx i)
  | a :: l, 0, _ => List.Perm.refl _
  | a :: l, i + 1, h => by
    have := up_perm l i (by simpa using h)
    exact (this.cons a).trans (List.Perm.swap _ _ _)
theorem Sep.up {w0 w : World} {rs : List Res} (h : Sep w0 w rs) (i : Nat) (hi : i < rs.length) : Sep w0 w (rs[i] :: rs.eraseIdx i) :=
  h.perm (up_perm rs i hi)
theorem Sep.step {w0 w w' : World} {a b : Res} {rs : List Res} {L : List Nat} (h : Sep w0 w (a :: rs)) (ho : Only w w' L) (hL : ∀ k ∈ L, k ∈ a.fp ∨ w.heap.size ≤ k) (hb : b.ok w') (hf : ∀ k ∈ b.fp, k ∈ a.fp ∨ w.heap.size ≤ k) : Sep w0 w' (b :: rs) := by
  have ha : ∀ k ∈ a.fp, w0.heap.size ≤ k := h.new a (by simp)
  have hp := List.pairwise_cons.1 h.apart
  refine ⟨h.only.new ho fun k hk => ?_, fun r hr => ?_, fun r hr => ?_, List.pairwise_cons.2 ⟨fun r hr k hk hkr => ?_, hp.2⟩⟩
  · rcases hL k hk with h1 | h1
    · exact ha k h1
    · have := h.only.size; omega
  · rcases List.mem_cons.1 hr with rfl | hr
    · exact hb
    · have hk := h.ok r (by simp [hr])
      refine Res.only hk ho fun k h1 h2 => ?_
      rcases hL k h2 with h3 | h3
      · exact hp.1 r hr k h3 h1
      · have := r.lt w hk k h1; omega
  · rcases List.mem_cons.1 hr with rfl | hr
    · intro k hk
      rcases hf k hk with h1 | h1
      · exact ha k h1
      · have := h.only.size; omega
    · exact h.new r (by simp [hr])
  · rcases hf k hk with h1 | h1
    · exact hp.1 r hr k h1 hkr
    · have := r.lt w (h.ok r (by simp [hr])) k hkr; omega
theorem Sep.quiet {w0 w w' : World} {rs : List Res} (h : Sep w0 w rs) (ho : Only w w' []) : Sep w0 w' rs :=
  ⟨h.only.trans ho, fun r hr => Res.only (h.ok r hr) ho (by simp), h.new, h.apart⟩
theorem Sep.add {w0 w w' : World} {b : Res} {rs : List Res} (h : Sep w0 w rs) (ho : Only w w' []) (hb : b.ok w') (hf : ∀ k ∈ b.fp, w.heap.size ≤ k) : Sep w0 w' (b :: rs) :=
  ⟨h.only.trans ho, fun r hr => by rcases List.mem_cons.1 hr with rfl | hr; exact hb; exact Res.only (h.ok r hr) ho (by simp),
   fun r hr => by rcases List.mem_cons.1 hr with rfl | hr; exact fun k hk => Nat.le_trans h.only.size (hf k hk); exact h.new r hr,
   List.pairwise_cons.2 ⟨fun r hr k hk hkr => by have := r.lt w (h.ok r hr) k hkr; have := hf k hk; omega, h.apart⟩⟩
theorem Sep.src {w0 w : World} {rs : List Res} (h : Sep w0 w rs) {x : Value} {size m : Nat} {news : List Value} (hs : Src w0 x size m news) : Src w x size m news := hs.off h.only (fun _ _ _ => by simp)
def blk (B : Nat) (cs : List Value) (T : TypeId) : Res where
  fp := [B]
  ok w := w.heap[B]? = some (.cells cs.toArray T (0, 0))
  loc w w' h k := (h B (by simp)).trans k
  lt w h k hk := by obtain rfl : k = B := by simpa using hk
                    exact (Array.getElem?_eq_some_iff.1 h).1
def row (e size : Nat) (v : Value) (n : Nat) (xs : List Value) : Res where
  fp := v.ownBlock.toList
  ok w := w.ownsRow 0 e size v n xs
  loc w w' h k := ⟨k.1, by
    rcases k.2 with hn | ⟨g, cap, cur, rfl, hb, hg, rest⟩
    · exact .inl hn
    · exact .inr ⟨g, cap, cur, rfl, hb, (h g (by simp [Value.ownBlock])).trans hg, rest⟩⟩
  lt w h k hk := (h.lt k (by simpa using hk)).2
def two (a b : Res) : Res where
  fp := a.fp ++ b.fp
  ok w := a.ok w ∧ b.ok w ∧ ∀ k ∈ a.fp, k ∉ b.fp
  loc w w' h k := ⟨a.loc w w' (fun i hi => h i (by simp [hi])) k.1, b.loc w w' (fun i hi => h i (by simp [hi])) k.2.1, k.2.2⟩
  lt w h k hk := by
    rcases List.mem_append.1 hk with hk | hk
    · exact a.lt w h.1 k hk
    · exact b.lt w h.2.1 k hk
theorem Sep.split {w0 w : World} {a b : Res} {rs : List Res} (h : Sep w0 w (two a b :: rs)) : Sep w0 w (a :: b :: rs) := by
  have hp := List.pairwise_cons.1 h.apart
  have ht : (two a b).ok w := h.head
  refine ⟨h.only, fun r hr => ?_, fun r hr k hk => ?_, List.pairwise_cons.2 ⟨fun r hr k hk => ?_, List.pairwise_cons.2 ⟨fun r hr k hk => ?_, hp.2⟩⟩⟩
  · rcases List.mem_cons.1 hr with rfl | hr
    · exact ht.1
    · rcases List.mem_cons.1 hr with rfl | hr
      · exact ht.2.1
      · exact h.ok r (by simp [hr])
  · rcases List.mem_cons.1 hr with rfl | hr
    · exact h.new (two r b) (by simp) k (List.mem_append.2 (.inl hk))
    · rcases List.mem_cons.1 hr with rfl | hr
      · exact h.new (two a r) (by simp) k (List.mem_append.2 (.inr hk))
      · exact h.new r (by simp [hr]) k hk
  · rcases List.mem_cons.1 hr with rfl | hr
    · exact ht.2.2 k hk
    · exact hp.1 r hr k (List.mem_append.2 (.inl hk))
  · exact hp.1 r hr k (List.mem_append.2 (.inr hk))
theorem Sep.box {w0 w : World} {rs : List Res} (h : Sep w0 w rs) (cs : List Value) (T : TypeId) : Sep w0 (w.alloc (.cells cs.toArray T)) (blk w.heap.size cs T :: rs) :=
  h.add (Only.alloc _ _ _) (heap_alloc_new w _) (fun k hk => by simp [blk] at hk; omega)
theorem Sep.put {w0 w : World} {rs : List Res} {B : Nat} {cs : List Value} {T : TypeId} (h : Sep w0 w (blk B cs T :: rs)) (i : Nat) (u : Value) : Sep w0 (w.setCell ⟨B, i, none⟩ u) (blk B (cs.set i u) T :: rs) :=
  h.step (L := [B]) (Only.setCell _ _ _ _ (by simp)) (fun k hk => .inl hk) (by
    have := set_at (i := i) (show w.heap[B]? = _ from h.head) u
    simpa [blk] using this) (fun k hk => .inl hk)
theorem Sep.app {w0 w w' : World} {rs : List Res} {e size n m : Nat} {v v' : Value} {xs news : List Value} (h : Sep w0 w (row e size v n xs :: rs)) (h1 : w'.ownsRow 0 e size v' (n + m) (xs ++ news)) (h2 : w.grownBy w' v.ownBlock) (h3 : SoN w v v') : Sep w0 w' (row e size v' (n + m) (xs ++ news) :: rs) :=
  h.step (L := v.ownBlock.toList) (Only.grown h2 (fun k hk => by simp [hk])) (fun k hk => .inl hk) h1 (fun k hk => h3.toList k hk)
end Go.Pw
end

section
namespace Go.Pw
open Go.RowKit
set_option linter.all false
section
variable {α : Type} {enc : α → List Value} {k : Nat}
def setL (xs : List Value) : Nat → List Value → List Value
  | _, [] => xs
  | o, v :: r => setL (xs.set o v) (o + 1) r
theorem setL_app (xs pre : List Value) : ∀ vs suf, vs.length = xs.length → setL (pre ++ xs ++ suf) pre.length vs = pre ++ vs ++ suf := by
  induction xs generalizing pre with
  | nil => intro vs suf h; obtain rfl : vs = [] := List.eq_nil_of_length_eq_zero (by simpa using h); simp [setL]
  | cons x xs ih =>
    intro vs suf h
    cases vs with
    | nil => simp at h
    | cons v r =>
      have := ih (pre ++ [v]) r suf (by simpa using h)
      simp only [setL]
      rw [show (pre ++ x :: xs ++ suf).set pre.length v = pre ++ [v] ++ xs ++ suf by simp [List.set_append]]
      rw [List.length_append, List.length_singleton] at this
      rw [this]
      simp
end
theorem only_setCells {g : Nat} : ∀ (vs : List Value) (o : Nat) (w : World), Only w (w.setCells g o vs) [g]
  | [], _, w => Only.refl _ _
  | v :: r, o, w => (Only.setCell w ⟨g, o, none⟩ v [g] (by simp)).trans (only_setCells r (o + 1) _)
end Go.Pw
end

section
namespace Go.Pw
open Go.RowKit
set_option linter.all false
theorem setCells_block {b : Nat} {t : TypeId} {fr : Nat × Nat} : ∀ (vs : List Value) (o : Nat) (w : World) (cur : Array Value), w.heap[b]? = some (.cells cur t fr) → (w.setCells b o vs).heap[b]? = some (.cells (setL cur.toList o vs).toArray t fr)
  | [], _, _, cur, h => by simpa [setL, World.setCells] using h
  | v :: r, o, w, cur, h => by
    have := setCells_block r (o + 1) _ _ (set_at (i := o) h v)
    simpa [setL, World.setCells] using this
theorem setL_all (xs vs : List Value) (h : vs.length = xs.length) : setL xs 0 vs = vs := by
  have := setL_app xs [] vs [] h
  simpa using this
theorem block_there {w : World} {b : Nat} {cs : Array Value} {t : TypeId} (h : w.heap[b]? = some (.cells cs t (0, 0))) (o m : Nat) (hm : o + m ≤ cs.size) : w.there b o m := fun j hj => ⟨by
  rw [Pw.cell_in h, Array.getElem?_eq_getElem (by omega)]; rfl, free_in h _⟩
theorem block_range {w : World} {b : Nat} {cs : List Value} {t : TypeId} {fr : Nat × Nat} (h : w.heap[b]? = some (.cells cs.toArray t fr)) : w.rangeAt b 0 cs := fun j v hj => by
  rw [Pw.cell_in h, Nat.zero_add]; simpa using hj
theorem wpList_alloc_new {P : Program} {ops : Array Oper} {rest : List Oper} {op : Oper} {a : Act} {w : World} {Q : Exit → Act → World → Prop} (hgd : op.guard = none) (T : TypeId) (ho : op.op = .alloc T) (z : Value)
    (hz : ∀ w, (zeroValue T).run P w = .ok z w)
    (h : ∀ X w', Only w w' [] → w.heap.size ≤ X → w'.heap[X]? = some (.cells z.cells T (0, 0)) → wpList P ops Q rest (a.put op.dst (.pointer (some ⟨X, 0, none⟩))) w') : wpList P ops Q (op :: rest) a w :=
  wpList_plain hgd fun _ hK => by
    unfold Oper.wp execOp
    simp only [ho, Instr.alloc, Sem.run_bind, hz, Result.andThen_ok]
    exact hK _ _ (h w.heap.size _ (Only.alloc w (.cells z.cells T) []) (Nat.le_refl _) (heap_alloc_new w _))
theorem wpList_box_new {P : Program} {ops : Array Oper} {rest : List Oper} {op : Oper} {a : Act} {w : World} {Q : Exit → Act → World → Prop} (hgd : op.guard = none) (T : TypeId) (x : Operand) (ho : op.op = .box T x) (z : Value) (hx : a.eval x = z)
    (h : ∀ X w', Only w w' [] → w.heap.size ≤ X → w'.heap[X]? = some (.cells z.cells T (0, 0)) → wpList P ops Q rest (a.put op.dst (.pointer (some ⟨X, 0, none⟩))) w') : wpList P ops Q (op :: rest) a w :=
  wpList_plain hgd fun _ hK => by
    unfold Oper.wp execOp
    simp only [ho, hx, Instr.box, Sem.run_bind, Result.andThen_ok]
    exact hK _ _ (h w.heap.size _ (Only.alloc w (.cells z.cells T) []) (Nat.le_refl _) (heap_alloc_new w _))
theorem wpList_load_blk {P : Program} {ops : Array Oper} {rest : List Oper} {op : Oper} {a : Act} {w : World} {Q : Exit → Act → World → Prop} (hgd : op.guard = none) (ty : TypeId) (x : Operand) (ho : op.op = .load ty x)
    (b : Nat) (hx : a.eval x = .pointer (some ⟨b, 0, none⟩)) (cs : List Value) (d : TypeDesc) {t : TypeId} {fr : Nat × Nat} (hc : w.heap[b]? = some (.cells cs.toArray t fr))
    (hu : P.underlying ty = some d) (hd : d.isRow = true) (hi : (P.info? ty).map (·.size) = some cs.length)
    (h : wpList P ops Q rest (a.put op.dst (.agg cs.toArray)) w) : wpList P ops Q (op :: rest) a w :=
  wpList_load_mid hgd ty x ho b 0 hx cs d (block_range hc) hu hd hi h
theorem wpList_store_blk {P : Program} {ops : Array Oper} {rest : List Oper} {op : Oper} {a : Act} {w : World} {Q : Exit → Act → World → Prop} (hgd : op.guard = none) (ty : TypeId) (x y : Operand) (ho : op.op = .store ty x y)
    (b : Nat) (cells : List Value) (hx : a.eval x = .pointer (some ⟨b, 0, none⟩)) (hy : a.eval y = .agg cells.toArray) {old : Array Value} {t : TypeId} (hc : w.heap[b]? = some (.cells old t (0, 0)))
    (hs : old.size = cells.length) (hi : (P.info? ty).map (·.size) = some cells.length) (h1 : cells.toArray.all (·.oneCell') = true)
    (h : ∀ w', Only w w' [b] → w'.heap[b]? = some (.cells cells.toArray t (0, 0)) → wpList P ops Q rest (a.put op.dst undef) w') : wpList P ops Q (op :: rest) a w := by
  refine wpList_store_mid hgd ty x y ho b 0 cells.toArray hx hy (block_there hc 0 _ (by simp [hs])) (by simpa using hi) h1 ?_
  refine h _ (only_setCells _ _ _) ?_
  rw [setCells_block _ _ _ _ hc, setL_all _ _ (by simp [hs])]
theorem Sep.two_at {w0 w : World} {rs : List Res} (h : Sep w0 w rs) {i j : Nat} {r s : Res} (hi : rs[i]? = some r) (hj : rs[j]? = some s) (hne : i ≠ j) : ∀ k ∈ r.fp, k ∉ s.fp := by
  have hp := List.pairwise_iff_getElem.1 h.apart
  obtain ⟨hi', rfl⟩ := List.getElem?_eq_some_iff.1 hi
  obtain ⟨hj', rfl⟩ := List.getElem?_eq_some_iff.1 hj
  intro k hk hk'
  by_cases hlt : i < j
  · exact hp i j hi' hj' hlt k hk hk'
  · exact hp j i hj' hi' (by omega) k hk' hk
theorem Sep.sel {w0 w : World} {rs : List Res} (h : Sep w0 w rs) (n : Nat) (idx : List Nat) (hn : idx.Nodup ∧ ∀ i ∈ idx, i < n := by decide) : Sep w0 w (idx.filterMap (fun i => rs[i]?) ++ rs.drop n) := by
  have hm : ∀ r ∈ idx.filterMap (fun i => rs[i]?) ++ rs.drop n, r ∈ rs := fun r hr => by
    rcases List.mem_append.1 hr with hr | hr
    · obtain ⟨i, _, hi⟩ := List.mem_filterMap.1 hr
      exact List.mem_of_getElem? hi
    · exact List.mem_of_mem_drop hr
  refine ⟨h.only, fun r hr => h.ok r (hm r hr), fun r hr => h.new r (hm r hr), ?_⟩
  rw [List.pairwise_append]
  refine ⟨?_, h.apart.drop, fun a ha b hb => ?_⟩
  · rw [List.pairwise_filterMap]
    exact hn.1.imp (fun hne r hr s hs => h.two_at hr hs hne)
  · obtain ⟨i, hi, hr⟩ := List.mem_filterMap.1 ha
    obtain ⟨j, hj, rfl⟩ := List.mem_iff_getElem.1 hb
    have := hn.2 i hi
    refine h.two_at hr (List.getElem?_eq_getElem (by rw [List.length_drop] at hj; omega : n + j < rs.length)) (by omega) |> fun q => ?_
    rw [List.getElem_drop]
    exact q
end Go.Pw
end

section
set_option linter.all false
open Go Go.Sx Go.Proofs Go.RowKit
set_option linter.all false
namespace Go.Proofs.YtfkbookaceckhaaGreatDoor
set_option maxRecDepth 100000
def settleR (a0 a1 a2 a3 a4 : Nat) : R5 := (settleS a0 a1 a2 a3 a4).raw
def addR (a b : R5) : R5 := settleR (plusW a.a0 b.a0) (plusW a.a1 b.a1) (plusW a.a2 b.a2) (plusW a.a3 b.a3) (plusW a.a4 b.a4)
def lessR (a b : R5) : R5 := settleR (lessW a.a0 9007199254740916 b.a0) (lessW a.a1 9007199254740988 b.a1) (lessW a.a2 9007199254740988 b.a2) (lessW a.a3 9007199254740988 b.a3) (lessW a.a4 9007199254740988 b.a4)
def settleQ (x : R5) : R5 := settleR x.a0 x.a1 x.a2 x.a3 x.a4
section
variable {α : Type}
noncomputable def addK (a b : R5) (k : R5 → α) : α := woR (addR a b) k
noncomputable def subK (a b : R5) (k : R5 → α) : α := woR (settleQ b) fun c => woR (lessR a c) fun e => woR (settleQ e) k
noncomputable def mulK (a b : R5) (k : R5 → α) : α := woR (mulR a b) k
theorem addK_eq (a b : L5) (k : R5 → α) : addK a.raw b.raw k = k (addS a b).raw := by unfold addK; rw [woR_eq]; rfl
theorem subK_eq (a b : L5) (k : R5 → α) : subK a.raw b.raw k = k (subS a b).raw := by unfold subK; rw [woR_eq, woR_eq, woR_eq]; rfl
theorem mulK_eq (a b : L5) (k : R5 → α) : mulK a.raw b.raw k = k (mulS a b).raw := by unfold mulK; rw [woR_eq]; rfl
end
structure R4 where
  x : R5
  y : R5
  z : R5
  t : R5
def P4.raw (p : P4) : R4 := ⟨p.x.raw, p.y.raw, p.z.raw, p.t.raw⟩
noncomputable def sumK {α : Type} (p q : R4) (d : R5) (k : R4 → α) : α :=
  subK p.y p.x fun a1 => subK q.y q.x fun a2 => mulK a1 a2 fun a =>
  addK p.y p.x fun b1 => addK q.y q.x fun b2 => mulK b1 b2 fun b =>
  mulK p.t d fun c1 => mulK c1 q.t fun c =>
  mulK p.z q.z fun z1 => addK z1 z1 fun z =>
  subK b a fun e => subK z c fun f => addK z c fun g => addK b a fun h =>
  mulK e f fun x => mulK g h fun y => mulK f g fun w => mulK e h fun t => k ⟨x, y, w, t⟩
theorem sumK_eq {α : Type} (p q : P4) (d : L5) (k : R4 → α) : sumK p.raw q.raw d.raw k = k (sumS p q d).raw := by
  unfold sumK
  simp only [P4.raw, subK_eq, addK_eq, mulK_eq]
  rfl
noncomputable def bitL (w : Nat) (bs : List Nat) (j : Nat) : Bool := Nat.beq (Nat.mod (Nat.div (nthN bs (Nat.div j w)) (Nat.pow 2 (Nat.mod j w))) 2) 1
noncomputable def bitsR (w : Nat) (bs : List Nat) : Nat → List Bool
  | 0 => []
  | j + 1 => bitL w bs j :: bitsR w bs j
def timesGo (p : P4) (d : L5) : List Bool → P4 → P4
  | [], o => o
  | b :: l, o => timesGo p d l (match b with | true => sumS (sumS o o d) p d | false => sumS o o d)
noncomputable def timesK (p : R4) (d : R5) : List Bool → R4 → R4
  | [], o => o
  | b :: l, o => sumK o o d fun q => match b with
    | true => sumK q p d fun r => timesK p d l r
    | false => timesK p d l q
theorem timesK_eq (p : P4) (d : L5) : ∀ (l : List Bool) (o : P4), timesK p.raw d.raw l o.raw = (timesGo p d l o).raw
  | [], o => rfl
  | b :: l, o => by
    have ih := timesK_eq p d l
    unfold timesK timesGo
    rw [sumK_eq]
    cases b
    · exact ih _
    · refine (sumK_eq (sumS o o d) p d _).trans (ih _)
def origin : P4 := ⟨num5 0 (by decide), num5 1 (by decide), num5 1 (by decide), num5 0 (by decide)⟩
def curve5 : L5 := ⟨⟨929955233495203, by decide⟩, ⟨466365720129213, by decide⟩, ⟨1662059464998953, by decide⟩, ⟨2033849074728123, by decide⟩, ⟨1442794654840575, by decide⟩⟩
def zero4 : P4 := ⟨num5 0 (by decide), num5 0 (by decide), num5 0 (by decide), num5 0 (by decide)⟩
def twice5 : L5 := mulS (num5 2 (by decide)) curve5
noncomputable def timesS (p : P4) (bs : List Nat) : P4 := timesGo p twice5 (bitsR 8 bs 256) origin
theorem only_of {w w' : World} (h : OnlyB w w' (fun _ => False)) : Pw.Only w w' [] := ⟨h.os, h.tape, h.output, h.size, fun k hk _ => h.block k hk (fun x => x)⟩
theorem onlyB_of {w w' : World} (h : Pw.Only w w' []) : OnlyB w w' (fun _ => False) := ⟨h.os, h.tape, h.output, h.size, fun k hk _ => h.block k hk (by simp)⟩
theorem mul5_any (a b : L5) (W : World) : Calls Tryz.prog 309 #[a.val, b.val] W fun e W' => e = .returned (mulS a b).val ∧ Pw.Only W W' [] := by
  rw [L5.val_eq (mulS a b), mul_list]
  exact (mul_any _ a.a0.2 _ a.a1.2 _ a.a2.2 _ a.a3.2 _ a.a4.2 _ b.a0.2 _ b.a1.2 _ b.a2.2 _ b.a3.2 _ b.a4.2 W).mono fun e w' h => ⟨h.1, only_of h.2⟩
theorem origin_any (W : World) : Calls Tryz.prog 311 #[] W fun e W' => e = .returned origin.val ∧ Pw.Only W W' [] :=
  (sym_calls (E := fun _ => 0) (ro := []) okt callsOK mixed hC_good dhC_good (args := []) (us := []) (fun σ => rfl) (by kernel_rfl) (by kernel_rfl) (fun _ _ h => by cases h) (val_of (x := (xcall Tryz.prog okT hC dhC 1000 20 311 [] (st0 [] (fun _ => 0))).val) (v := .agg (u64L [0, 0, 0, 0, 0, 1, 0, 0, 0, 0, 1, 0, 0, 0, 0, 0, 0, 0, 0, 0])) (by kernel_rfl) (fun h => by cases h)) (fun σ => den_agg (u64L_den _))).mono fun e w' h => ⟨h.1, only_of h.2⟩
theorem num2_any (W : World) : Calls Tryz.prog 312 #[.int .u32 2] W fun e W' => e = .returned (num5 2 (by decide)).val ∧ Pw.Only W W' [] :=
  (sym_calls (E := fun _ => 0) (ro := []) okt callsOK mixed hC_good dhC_good (args := [.int .u32 2]) (us := [.int .u32 2]) (fun σ => rfl) (by kernel_rfl) (by kernel_rfl) (fun _ _ h => by cases h) (val_of (x := (xcall Tryz.prog okT hC dhC 1000 20 312 [.int .u32 2] (st0 [] (fun _ => 0))).val) (v := .agg (u64L [2, 0, 0, 0, 0])) (by kernel_rfl) (fun h => by cases h)) (fun σ => den_agg (u64L_den _))).mono fun e w' h => ⟨h.1, only_of h.2⟩
theorem curve_any (W : World) : Calls Tryz.prog 313 #[] W fun e W' => e = .returned curve5.val ∧ Pw.Only W W' [] := (const_any curve_run W).mono fun e w' h => ⟨h.1, only_of h.2⟩
theorem sum5_any (p q : P4) (d : L5) (W : World) : Calls Tryz.prog 314 #[p.val, q.val, d.val] W fun e W' => e = .returned (sumS p q d).val ∧ Pw.Only W W' [] := (sum_any p q d W).mono fun e w' h => ⟨h.1, only_of h.2⟩
def P4.cs (p : P4) : List Value := p.x.val.cells.toList ++ (p.y.val.cells.toList ++ (p.z.val.cells.toList ++ p.t.val.cells.toList))
theorem P4.cs_one (p : P4) : p.cs.toArray.all (·.oneCell') = true := by rw [← Array.all_toList]; rfl
def L5.cs (x : L5) : List Value := x.val.cells.toList
theorem L5.cs_one (x : L5) : x.cs.toArray.all (·.oneCell') = true := by rw [← Array.all_toList]; rfl
def ns (bs : List Nat) : List Value := bs.map fun (n : Nat) => Value.int .u8 n
theorem bit_and8 : ∀ c : Fin 256, (bits BinOp.and IntKind.u8 ((c.1 : Nat) : Int) 1 == 1) = Nat.beq (Nat.mod c.1 2) 1 := by decide +kernel
theorem nthN_of {l : List Nat} {i b : Nat} (h : l[i]? = some b) : nthN l i = b := by
  unfold nthN
  rw [nthL_eq, h]
  rfl
theorem bit8 {bs : List Nat} {j b : Nat} (h : bs[j / 8]? = some b) (hb : b < 256) : (bits BinOp.and IntKind.u8 ((b : Int) / 2 ^ (j % 8)) 1 == 1) = bitL 8 bs j := by
  have h1 := bit_and8 ⟨b / 2 ^ (j % 8), Nat.lt_of_le_of_lt (Nat.div_le_self _ _) hb⟩
  have e : (((b / 2 ^ (j % 8) : Nat)) : Int) = (b : Int) / 2 ^ (j % 8) := by
    rw [Int.natCast_ediv, Int.natCast_pow]
    rfl
  rw [← e]
  refine h1.trans ?_
  unfold bitL
  rw [show Nat.div j 8 = j / 8 from rfl, nthN_of h]
  rfl
theorem results_cell {P : Program} {fn : Func} {a t : Nat} (h : fn.results = #[.cell a t]) (tmps : Array Value) {b : Nat} (ha : tmps.getD a undef = .pointer (some ⟨b, 0, none⟩)) (cs : List Value) (d : TypeDesc) {w : World} {T : TypeId} {fr : Nat × Nat} (hc : w.heap[b]? = some (.cells cs.toArray T fr))
    (hu : P.underlying t = some d) (hd : d.isRow = true) (hi : (P.info? t).map (·.size) = some cs.length) : (results fn tmps).run P w = .ok (.agg cs.toArray) w := by
  have hl := run_loadVar_mid (P := P) w b 0 t cs d (Pw.block_range hc) hu hd hi
  have ha2 : tmps[a]?.getD undef = .pointer (some ⟨b, 0, none⟩) := by simpa using ha
  simp [results, h, ha2, asAddr, Sem.run_bind, hl]
open Go.Pw in
set_option maxHeartbeats 1600000 in
theorem times_gen (p o z : P4) (n2 c5 d2 z5 : L5) (R : P4) (bs : List Nat) (hl : bs.length = 32) (hb : ∀ x ∈ bs, x < 256)
    (hOr : ∀ W, Calls Tryz.prog 311 #[] W fun e W' => e = .returned o.val ∧ Pw.Only W W' [])
    (hNm : ∀ W, Calls Tryz.prog 312 #[.int .u32 2] W fun e W' => e = .returned n2.val ∧ Pw.Only W W' [])
    (hCv : ∀ W, Calls Tryz.prog 313 #[] W fun e W' => e = .returned c5.val ∧ Pw.Only W W' [])
    (hMl : ∀ W, Calls Tryz.prog 309 #[n2.val, c5.val] W fun e W' => e = .returned d2.val ∧ Pw.Only W W' [])
    (hz : ∀ w, (zeroValue 369).run Tryz.prog w = .ok z.val w) (hz5 : ∀ w, (zeroValue 367).run Tryz.prog w = .ok z5.val w)
    (HR : Hid (R = timesGo p d2 (bitsR 8 bs 256) o)) (w : World) :
    Calls Tryz.prog 248 #[p.val, .agg (bs.map fun (n : Nat) => Value.int .u8 n).toArray] w fun e w' => e = .returned R.val ∧ Pw.Only w w' [] := by
  go_enter Tryz.func248, Tryz.ntmps248
  go_wp2_with (first
    | (refine wpList_box_new rfl 369 _ rfl p.val rfl ?_; intro Pb w1 o1 g1 h1)
    | (refine wpList_box_new rfl 372 _ rfl (.agg (bs.map fun (n : Nat) => Value.int .u8 n).toArray) rfl ?_; intro Nb w2 o2 g2 h2)
    | (refine wpList_alloc_new rfl 369 rfl z.val hz ?_; intro Rb w3 o3 g3 h3))
  refine (hOr _).mono ?_
  rintro e w4 ⟨rfl, o4⟩
  go_wp2_with fail
  refine (hNm _).mono ?_
  rintro e w5 ⟨rfl, o5⟩
  go_wp2_with fail
  refine (hCv _).mono ?_
  rintro e w6 ⟨rfl, o6⟩
  go_wp2_with fail
  refine (hMl _).mono ?_
  rintro e w7 ⟨rfl, o7⟩
  have s1 : Sep w w1 [blk Pb p.cs 369] := (Sep.nil w).add o1 h1 (fun k hk => by simp [blk] at hk; omega)
  have s2 : Sep w w2 [blk Nb (ns bs) 372, blk Pb p.cs 369] := s1.add o2 h2 (fun k hk => by simp [blk] at hk; omega)
  have s3 : Sep w w3 [blk Rb z.cs 369, blk Nb (ns bs) 372, blk Pb p.cs 369] := s2.add o3 h3 (fun k hk => by simp [blk] at hk; omega)
  have s7 := (((s3.quiet o4).quiet o5).quiet o6).quiet o7
  clear s1 s2 s3 o1 o2 o3 o4 o5 o6 o7 h1 h2 h3 g1 g2 g3
  go_wp2_with (first
    | (refine wpList_alloc_new rfl 369 rfl z.val hz ?_; intro Ob w8 o8 g8 h8
       have s8 : Sep w w8 [blk Ob z.cs 369, blk Rb z.cs 369, blk Nb (ns bs) 372, blk Pb p.cs 369] := s7.add o8 h8 (fun k hk => by simp [blk] at hk; omega))
    | (refine wpList_alloc_new rfl 367 rfl z5.val hz5 ?_; intro Db w9 o9 g9 h9
       have s9 : Sep w w9 [blk Db z5.cs 367, blk Ob z.cs 369, blk Rb z.cs 369, blk Nb (ns bs) 372, blk Pb p.cs 369] := s8.add o9 h9 (fun k hk => by simp [blk] at hk; omega)
       have hO := (s9.sel 2 [1, 0]).head
       clear s7 s8 o8 o9 g8 g9 h8 h9)
    | (refine wpList_store_blk rfl 369 _ _ rfl Ob o.cs rfl rfl hO rfl (by kernel_rfl) o.cs_one ?_; intro wA oA hA
       have sA : Sep w wA [blk Ob o.cs 369, blk Db z5.cs 367, blk Rb z.cs 369, blk Nb (ns bs) 372, blk Pb p.cs 369] := (s9.sel 2 [1, 0]).step (L := [Ob]) oA (fun k hk => .inl (by simpa [blk] using hk)) hA (fun k hk => .inl (by simpa [blk] using hk))
       have hD := (sA.sel 2 [1, 0]).head
       clear s9 hO oA hA)
    | (refine wpList_store_blk rfl 367 _ _ rfl Db d2.cs rfl rfl hD rfl (by kernel_rfl) d2.cs_one ?_; intro wB oB hB
       have sB : Sep w wB [blk Db d2.cs 367, blk Ob o.cs 369, blk Rb z.cs 369, blk Nb (ns bs) 372, blk Pb p.cs 369] := (sA.sel 2 [1, 0]).step (L := [Db]) oB (fun k hk => .inl (by simpa [blk] using hk)) hB (fun k hk => .inl (by simpa [blk] using hk))
       clear sA hD oB hB))
  go_loopw [7] (fun i wr => ∃ (j : Nat) (acc : P4), i = .int .i64 ((j : Int) - 1) ∧ j ≤ 256 ∧ Sep w wr [blk Ob acc.cs 369, blk Db d2.cs 367, blk Rb z.cs 369, blk Nb (ns bs) 372, blk Pb p.cs 369] ∧ Hid (R = timesGo p d2 (bitsR 8 bs j) acc)) (fun i _ => (intOf i + 1).toNat)
  case atStart => exact ⟨256, o, rfl, by omega, sB.sel 2 [1, 0], HR⟩
  case round =>
    clear sB HR
    obtain ⟨j, acc, rfl, hj, hs, hr⟩ := hrel
    have hO := hs.head
    rcases j with _ | j
    · rw [show ((0 : Nat) : Int) - 1 = -1 from rfl]
      have hRb := (hs.sel 3 [2, 0, 1]).head
      go_wp2_with (first
        | (refine wpList_load_blk rfl 369 _ rfl Ob rfl acc.cs _ hO Tryz.underlying369 (by rfl) (by kernel_rfl) ?_)
        | (refine wpList_store_blk rfl 369 _ _ rfl Rb acc.cs rfl rfl hRb rfl (by kernel_rfl) acc.cs_one ?_; intro wE oE hE
           have sE : Sep w wE [blk Rb acc.cs 369, blk Ob acc.cs 369, blk Db d2.cs 367, blk Nb (ns bs) 372, blk Pb p.cs 369] := (hs.sel 3 [2, 0, 1]).step (L := [Rb]) oE (fun k hk => .inl (by simpa [blk] using hk)) hE (fun k hk => .inl (by simpa [blk] using hk))))
      have hr0 := hr.out
      clear hr hs hO hRb hz hz5
      refine bodyPost_ret (results_cell Tryz.results248 _ (b := Rb) rfl acc.cs _ hE Tryz.underlying369 (by rfl) (by kernel_rfl)) rfl ?_
      exact ⟨by rw [hr0]; rfl, sE.only⟩
    · rw [show ((j + 1 : Nat) : Int) - 1 = (j : Int) by omega]
      have hDh := (hs.sel 2 [1, 0]).head
      have hNh := (hs.sel 4 [3, 0, 1, 2]).head
      have hPh := (hs.sel 5 [4, 0, 1, 2, 3]).head
      have hlt : j / 8 < bs.length := by omega
      obtain ⟨b, hbj⟩ : ∃ b, bs[j / 8]? = some b := ⟨_, List.getElem?_eq_getElem hlt⟩
      have hb2 : b < 256 := hb b (List.mem_of_getElem? hbj)
      go_wp2_with (first
        | (refine wpList_load_blk rfl 369 _ rfl Ob rfl acc.cs _ hO Tryz.underlying369 (by rfl) (by kernel_rfl) ?_)
        | (refine wpList_load_blk rfl 367 _ rfl Db rfl d2.cs _ hDh Tryz.underlying367 (by rfl) (by kernel_rfl) ?_))
      refine (sum5_any acc acc d2 _).mono ?_
      rintro e wF ⟨rfl, oF⟩
      have sF := hs.quiet oF
      have hOF := sF.head
      have hcd := bit8 hbj hb2
      generalize hQ : sumS acc acc d2 = q at *
      cases hbit : bitL 8 bs j with
      | false =>
        rw [hbit] at hcd
        go_wp2_with (first
          | (refine wpList_store_blk rfl 369 _ _ rfl Ob q.cs rfl rfl hOF rfl (by kernel_rfl) q.cs_one ?_; intro wE oE hE
             have sE : Sep w wE [blk Ob q.cs 369, blk Db d2.cs 367, blk Rb z.cs 369, blk Nb (ns bs) 372, blk Pb p.cs 369] := sF.step (L := [Ob]) oE (fun k hk => .inl (by simpa [blk] using hk)) hE (fun k hk => .inl (by simpa [blk] using hk))
             have hx := (sE.sel 4 [3, 0, 1, 2]).head
             have hcb : wE.cell? ⟨Nb, j / 8, none⟩ = some (.int .u8 (b : Int)) := by rw [Pw.cell_in hx]; simp [ns, hbj]
             clear hx))
        go_roundw
        case rel => exact ⟨j, q, rfl, by omega, sE, by
          show R = _
          rw [hr.out]
          show timesGo p d2 (bitL 8 bs j :: bitsR 8 bs j) acc = _
          rw [hbit, ← hQ]
          rfl⟩
        case measure => simp [intOf]
      | true =>
        rw [hbit] at hcd
        go_wp2_with (first
          | (refine wpList_store_blk rfl 369 _ _ rfl Ob q.cs rfl rfl hOF rfl (by kernel_rfl) q.cs_one ?_; intro wE oE hE
             have sE : Sep w wE [blk Ob q.cs 369, blk Db d2.cs 367, blk Rb z.cs 369, blk Nb (ns bs) 372, blk Pb p.cs 369] := sF.step (L := [Ob]) oE (fun k hk => .inl (by simpa [blk] using hk)) hE (fun k hk => .inl (by simpa [blk] using hk))
             have hx := (sE.sel 4 [3, 0, 1, 2]).head
             have hcb : wE.cell? ⟨Nb, j / 8, none⟩ = some (.int .u8 (b : Int)) := by rw [Pw.cell_in hx]; simp [ns, hbj]
             have hD2 := (sE.sel 2 [1, 0]).head
             have hP2 := (sE.sel 5 [4, 0, 1, 2, 3]).head
             clear hx)
          | (refine wpList_load_blk rfl 369 _ rfl Ob rfl q.cs _ hE Tryz.underlying369 (by rfl) (by kernel_rfl) ?_)
          | (refine wpList_load_blk rfl 369 _ rfl Pb rfl p.cs _ hP2 Tryz.underlying369 (by rfl) (by kernel_rfl) ?_)
          | (refine wpList_load_blk rfl 367 _ rfl Db rfl d2.cs _ hD2 Tryz.underlying367 (by rfl) (by kernel_rfl) ?_))
        refine (sum5_any q p d2 _).mono ?_
        rintro e wG ⟨rfl, oG⟩
        have sG := sE.quiet oG
        have hOG := sG.head
        generalize hQ2 : sumS q p d2 = q2 at *
        clear hcb hcd hE hD2 hP2 hOF
        go_wp2_with (first
          | (refine wpList_store_blk rfl 369 _ _ rfl Ob q2.cs rfl rfl hOG rfl (by kernel_rfl) q2.cs_one ?_; intro wH oH hH
             have sH : Sep w wH [blk Ob q2.cs 369, blk Db d2.cs 367, blk Rb z.cs 369, blk Nb (ns bs) 372, blk Pb p.cs 369] := sG.step (L := [Ob]) oH (fun k hk => .inl (by simpa [blk] using hk)) hH (fun k hk => .inl (by simpa [blk] using hk))))
        go_roundw
        case rel => exact ⟨j, q2, rfl, by omega, sH, by
          show R = _
          rw [hr.out]
          show timesGo p d2 (bitL 8 bs j :: bitsR 8 bs j) acc = _
          rw [hbit, ← hQ2, ← hQ]
          rfl⟩
        case measure => simp [intOf]
theorem times_any (p : P4) (bs : List Nat) (hl : bs.length = 32) (hb : ∀ x ∈ bs, x < 256) (w : World) :
    Calls Tryz.prog 248 #[p.val, .agg (bs.map fun (n : Nat) => Value.int .u8 n).toArray] w fun e w' => e = .returned (timesS p bs).val ∧ Pw.Only w w' [] :=
  times_gen p origin zero4 (num5 2 (by decide)) curve5 twice5 (num5 0 (by decide)) (timesS p bs) bs hl hb origin_any num2_any curve_any (mul5_any _ _) (fun w => by kernel_rfl) (fun w => by kernel_rfl) (Lib.hid rfl) w
noncomputable def R4.avs (p : R4) : List AV := p.x.avs ++ (p.y.avs ++ (p.z.avs ++ p.t.avs))
theorem R5.avs_denL {σ : Env} (x : L5) : denL σ x.raw.avs = some x.val.cells.toList := by
  have h := R5.avs_den (σ := σ) x.raw
  simp only [den] at h
  split at h
  · rename_i l hl
    rw [hl]
    have h2 := Option.some.inj h
    injection h2 with h2
    have : l = x.val.cells.toList := by
      rw [show l = l.toArray.toList from (by simp), h2]
      rfl
    rw [this]
  · cases h
theorem R4.avs_den {σ : Env} (p : P4) : den σ (.agg p.raw.avs) = some p.val := by
  simp only [den, R4.avs, P4.raw]
  rw [denL_append (R5.avs_denL p.x) (denL_append (R5.avs_denL p.y) (denL_append (R5.avs_denL p.z) (R5.avs_denL p.t)))]
  rfl
noncomputable def gTimes : List AV → Option AV
  | [x, .agg l] => match pt4 x, byteL l with
    | some p, some bs => bif Nat.beq (lenL bs) 32 && Bool.not p.1 then some (.agg (timesK p.2.raw twice5.raw (bitsR 8 bs 256) origin.raw).avs) else none
    | _, _ => none
  | _ => none
theorem times_fn : fnOf Tryz.prog 248 = some (ntOf Tryz.prog 248, bodyOf Tryz.prog 248, resultsOf Tryz.prog 248) := by kernel_rfl
theorem times_good : HkGood Tryz.prog (pureHook 248 gTimes) := by
  obtain ⟨fn, h1, _, h3, _⟩ := fnOf_ok times_fn
  refine fHook_good ⟨fn, _, h1, h3⟩ fun args v σ us w hg hd => ?_
  unfold gTimes at hg
  split at hg
  · rename_i x l
    split at hg
    · rename_i p bs hp hbs
      cases hc : (Nat.beq (lenL bs) 32 && Bool.not p.1) with
      | false => rw [hc] at hg; cases hg
      | true =>
        rw [hc] at hg
        obtain rfl := Option.some.inj hg
        have hl := nbeq (and3 hc).1
        rw [lenL_eq2] at hl
        obtain ⟨u1, l1, rfl, k1, hd⟩ := denL_cons hd
        obtain ⟨u2, l2, rfl, k2, hd⟩ := denL_cons hd
        obtain rfl := denL_nil hd
        obtain rfl := pt4_den hp k1
        simp only [den] at k2
        split at k2
        · rename_i us hus
          obtain rfl := Option.some.inj k2
          obtain ⟨rfl, hb, _⟩ := byteL_den hbs hus
          refine ⟨(timesS p.2 bs).val, ?_, (times_any p.2 bs hl hb w).mono fun e w' h => ⟨h.1, onlyB_of h.2⟩⟩
          rw [timesK_eq]
          exact R4.avs_den _
        · cases k2
    · cases hg
  · cases hg
end Go.Proofs.YtfkbookaceckhaaGreatDoor
open Go Go.Sx Go.Proofs Go.RowKit
set_option linter.all false
namespace Go.Proofs.YtfkbookaceckhaaGreatDoor
set_option maxRecDepth 100000
def numGo (b : List Nat) : List Bool → List Nat → List Nat
  | [], o => o
  | t :: l, o => numGo b l (match t with | true => addS8 nA (addS8 nA o o) b | false => addS8 nA o o)
noncomputable def wo8 {α : Type} (l : List Nat) (k : List Nat → α) : α := match l with
  | [a0, a1, a2, a3, a4, a5, a6, a7] => wo a0 fun a0 => wo a1 fun a1 => wo a2 fun a2 => wo a3 fun a3 => wo a4 fun a4 => wo a5 fun a5 => wo a6 fun a6 => wo a7 fun a7 => k [a0, a1, a2, a3, a4, a5, a6, a7]
  | l => k l
theorem wo8_eq {α : Type} (l : List Nat) (k : List Nat → α) : wo8 l k = k l := by
  unfold wo8
  split
  · simp only [wo_eq]
  · rfl
noncomputable def addF8 {α : Type} (a b : List Nat) (k : List Nat → α) : α := wo8 (sumG nA 0 a b) fun s => match ltL (rev8 s) (rev8 ordL) with
  | true => k s
  | false => wo8 (difG nA 0 s ordL) k
theorem addF8_eq {α : Type} (a b : List Nat) (k : List Nat → α) : addF8 a b k = k (addS8 nA a b) := by
  unfold addF8 addS8
  rw [wo8_eq]
  cases h : ltL (rev8 (sumG nA 0 a b)) (rev8 ordL)
  · rw [if_neg (by simp)]
    exact wo8_eq _ _
  · rw [if_pos rfl]
noncomputable def numK (b : List Nat) : List Bool → List Nat → List Nat
  | [], o => o
  | t :: l, o => addF8 o o fun q => match t with
    | true => addF8 q b fun r => numK b l r
    | false => numK b l q
theorem numK_eq (b : List Nat) : ∀ (l : List Bool) (o : List Nat), numK b l o = numGo b l o
  | [], o => rfl
  | t :: l, o => by
    show (addF8 o o fun q => match t with
      | true => addF8 q b fun r => numK b l r
      | false => numK b l q) = _
    rw [addF8_eq]
    cases t
    · exact numK_eq b l _
    · show (addF8 (addS8 nA o o) b fun r => numK b l r) = _
      rw [addF8_eq]
      exact numK_eq b l _
def Eight (l : List Nat) : Prop := l.length = 8 ∧ ∀ n ∈ l, n < um .u32
theorem Eight.ex {l : List Nat} (h : Eight l) : ∃ a0 a1 a2 a3 a4 a5 a6 a7, l = [a0, a1, a2, a3, a4, a5, a6, a7] := by
  obtain ⟨h, _⟩ := h
  match l, h with
  | [a0, a1, a2, a3, a4, a5, a6, a7], _ => exact ⟨a0, a1, a2, a3, a4, a5, a6, a7, rfl⟩
theorem sumG_ok : ∀ (c : Nat) (a b : List Nat), a.length = b.length → (sumG nA c a b).length = a.length ∧ ∀ n ∈ sumG nA c a b, n < um .u32
  | c, [], [], _ => ⟨rfl, fun n h => by cases h⟩
  | c, a :: xs, b :: ys, h => by
    have h : xs.length = ys.length := by simpa using h
    refine ⟨congrArg Nat.succ (sumG_ok _ xs ys h).1, fun n hn => ?_⟩
    rcases List.mem_cons.1 hn with rfl | hn
    · exact Nat.mod_lt _ (by decide)
    · exact (sumG_ok _ xs ys h).2 n hn
theorem difG_ok : ∀ (c : Nat) (a b : List Nat), a.length = b.length → (difG nA c a b).length = a.length ∧ ∀ n ∈ difG nA c a b, n < um .u32
  | c, [], [], _ => ⟨rfl, fun n h => by cases h⟩
  | c, a :: xs, b :: ys, h => by
    have h : xs.length = ys.length := by simpa using h
    refine ⟨congrArg Nat.succ (difG_ok _ xs ys h).1, fun n hn => ?_⟩
    rcases List.mem_cons.1 hn with rfl | hn
    · exact Nat.mod_lt _ (by decide)
    · exact (difG_ok _ xs ys h).2 n hn
theorem Eight.add {a b : List Nat} (ha : Eight a) (hb : Eight b) : Eight (addS8 nA a b) := by
  have h1 := sumG_ok 0 a b (ha.1.trans hb.1.symm)
  have e1 : Eight (sumG nA 0 a b) := ⟨h1.1.trans ha.1, h1.2⟩
  unfold addS8
  split
  · exact e1
  · have h2 := difG_ok 0 (sumG nA 0 a b) ordL (e1.1.trans rfl)
    exact ⟨h2.1.trans e1.1, h2.2⟩
def zeroL : List Nat := [0, 0, 0, 0, 0, 0, 0, 0]
def oneL : List Nat := [1, 0, 0, 0, 0, 0, 0, 0]
theorem zero_8 : Eight zeroL := ⟨rfl, by decide⟩
theorem one_8 : Eight oneL := ⟨rfl, by decide⟩
def v8 (l : List Nat) : Value := .agg (l.map fun (n : Nat) => Value.int .u32 n).toArray
theorem add8_v {a b : List Nat} (ha : Eight a) (hb : Eight b) (W : World) : Calls Tryz.prog 255 #[v8 a, v8 b] W fun e W' => e = .returned (v8 (addS8 nA a b)) ∧ Pw.Only W W' [] :=
  (add8_hold a b ha.ex hb.ex ha.2 hb.2 W).mono fun e w' h => ⟨h.1, only_of h.2⟩
def c8 (l : List Nat) : List Value := l.map fun (n : Nat) => Value.int .u32 n
theorem c8_len {l : List Nat} (h : Eight l) : (c8 l).length = 8 := by simp [c8, h.1]
theorem c8_one (l : List Nat) : (c8 l).toArray.all (·.oneCell') = true := by
  rw [← Array.all_toList, List.all_eq_true]
  intro v hv
  obtain ⟨n, _, rfl⟩ := List.mem_map.1 hv
  rfl
theorem wpList_build_eq {P : Program} {ops : Array Oper} {rest : List Oper} {o : Oper} {a : Act} {w : World} {Q : Exit → Act → World → Prop} (hg : o.guard = none) (t : TypeId) (parts : Array (Nat × Operand)) (ho : o.op = .build t parts) (cells : Array Value)
    (hf : P.built t (parts.map fun (i, x) => (i, a.eval x)).toList = some cells) (h : wpList P ops Q rest (a.put o.dst (.agg cells)) w) : wpList P ops Q (o :: rest) a w :=
  wpList_build hg t parts ho (by rw [hf]; rfl) (by rw [hf]; exact h)
theorem and_1 (c : Nat) (h : c < 4294967296) : (bits BinOp.and IntKind.u32 (c : Int) 1 == 1) = Nat.beq (Nat.mod c 2) 1 := by
  have e : bits BinOp.and IntKind.u32 (c : Int) 1 = ((c % 2 : Nat) : Int) := by
    have h2 := u32_and_nat c 1 h (by decide)
    have h3 := Nat.and_two_pow_sub_one_eq_mod c 1
    rw [show (2 ^ 1 - 1 : Nat) = 1 from rfl] at h3
    rw [h3] at h2
    exact h2
  rw [e]
  show (((c % 2 : Nat) : Int) == 1) = Nat.beq (c % 2) 1
  rcases Nat.mod_two_eq_zero_or_one c with h | h <;> rw [h] <;> rfl
theorem bit32 {bs : List Nat} {j b : Nat} (h : bs[j / 32]? = some b) (hb : b < um .u32) : (bits BinOp.and IntKind.u32 ((b : Int) / 2 ^ (j % 32)) 1 == 1) = bitL 32 bs j := by
  have h1 := and_1 (b / 2 ^ (j % 32)) (Nat.lt_of_le_of_lt (Nat.div_le_self _ _) hb)
  have e : (((b / 2 ^ (j % 32) : Nat)) : Int) = (b : Int) / 2 ^ (j % 32) := by
    rw [Int.natCast_ediv, Int.natCast_pow]
    rfl
  rw [← e]
  refine h1.trans ?_
  unfold bitL
  rw [show Nat.div j 32 = j / 32 from rfl, nthN_of h]
  rfl
open Go.Pw in
set_option maxHeartbeats 1600000 in
theorem prod_gen (a b z : List Nat) (ha : Eight a) (hb8 : Eight b) (hz8 : Eight z) (hz : ∀ w, (zeroValue 362).run Tryz.prog w = .ok (v8 z) w) (R : List Nat) (HR : Hid (R = numGo b (bitsR 32 a 256) z)) (w : World) :
    Calls Tryz.prog 253 #[v8 a, v8 b] w fun e w' => e = .returned (v8 R) ∧ Pw.Only w w' [] := by
  go_enter Tryz.func253, Tryz.ntmps253
  go_wp2_with (first
    | (have hq := s3; refine wpList_alloc_new rfl 362 rfl (v8 z) hz ?_; intro Ob w4 o4 g4 h4
       have s4 : Sep w w4 [blk Ob (c8 z) 362, blk Rb (c8 z) 362, blk Bb (c8 b) 362, blk Ab (c8 a) 362] := s3.add o4 h4 (fun k hk => by simp [blk] at hk; omega))
    | (have hq := s2; refine wpList_alloc_new rfl 362 rfl (v8 z) hz ?_; intro Rb w3 o3 g3 h3
       have s3 : Sep w w3 [blk Rb (c8 z) 362, blk Bb (c8 b) 362, blk Ab (c8 a) 362] := s2.add o3 h3 (fun k hk => by simp [blk] at hk; omega))
    | (have hq := s1; refine wpList_box_new rfl 362 _ rfl (v8 b) rfl ?_; intro Bb w2 o2 g2 h2
       have s2 : Sep w w2 [blk Bb (c8 b) 362, blk Ab (c8 a) 362] := s1.add o2 h2 (fun k hk => by simp [blk] at hk; omega))
    | (refine wpList_box_new rfl 362 _ rfl (v8 a) rfl ?_; intro Ab w1 o1 g1 h1
       have s1 : Sep w w1 [blk Ab (c8 a) 362] := (Sep.nil w).add o1 h1 (fun k hk => by simp [blk] at hk; omega)))
  go_loopw [6] (fun i wr => ∃ (j : Nat) (acc : List Nat), i = .int .i64 ((j : Int) - 1) ∧ j ≤ 256 ∧ Eight acc ∧ Sep w wr [blk Ob (c8 acc) 362, blk Rb (c8 z) 362, blk Bb (c8 b) 362, blk Ab (c8 a) 362] ∧ Hid (R = numGo b (bitsR 32 a j) acc)) (fun i _ => (intOf i + 1).toNat)
  case atStart => exact ⟨256, z, rfl, by omega, hz8, s4, HR⟩
  case round =>
    clear s4 s3 HR s2 s1
    obtain ⟨j, acc, rfl, hj, ha8, hs, hr⟩ := hrel
    have hO := hs.head
    rcases j with _ | j
    · rw [show ((0 : Nat) : Int) - 1 = -1 from rfl]
      have hRb := (hs.sel 2 [1, 0]).head
      go_wp2_with (first
        | (refine wpList_load_blk rfl 362 _ rfl Ob rfl (c8 acc) _ hO Tryz.underlying362 (by rfl) (by rw [c8_len ha8]; kernel_rfl) ?_)
        | (refine wpList_store_blk rfl 362 _ _ rfl Rb (c8 acc) rfl rfl hRb (by simp [c8_len hz8, c8_len ha8]) (by rw [c8_len ha8]; kernel_rfl) (c8_one _) ?_; intro wE oE hE
           have sE : Sep w wE [blk Rb (c8 acc) 362, blk Ob (c8 acc) 362, blk Bb (c8 b) 362, blk Ab (c8 a) 362] := (hs.sel 2 [1, 0]).step (L := [Rb]) oE (fun k hk => .inl (by simpa [blk] using hk)) hE (fun k hk => .inl (by simpa [blk] using hk))))
      have hr0 := hr.out
      clear hr hs hO hRb hz
      refine bodyPost_ret (results_cell Tryz.results253 _ (b := Rb) rfl (c8 acc) _ hE Tryz.underlying362 (by rfl) (by rw [c8_len ha8]; kernel_rfl)) rfl ?_
      exact ⟨by rw [hr0]; rfl, sE.only⟩
    · rw [show ((j + 1 : Nat) : Int) - 1 = (j : Int) by omega]
      have hlt : j / 32 < a.length := by rw [ha.1]; omega
      obtain ⟨x, hx⟩ : ∃ x, a[j / 32]? = some x := ⟨_, List.getElem?_eq_getElem hlt⟩
      have hcd := bit32 hx (ha.2 x (List.mem_of_getElem? hx))
      go_wp2_with (refine wpList_load_blk rfl 362 _ rfl Ob rfl (c8 acc) _ hO Tryz.underlying362 (by rfl) (by rw [c8_len ha8]; kernel_rfl) ?_)
      refine (add8_v ha8 ha8 _).mono ?_
      rintro e wF ⟨rfl, oF⟩
      have sF := hs.quiet oF
      have hOF := sF.head
      have hq8 := ha8.add ha8
      generalize hQ : addS8 nA acc acc = q at *
      cases hbit : bitL 32 a j with
      | false =>
        rw [hbit] at hcd
        go_wp2_with (first
          | (refine wpList_store_blk rfl 362 _ _ rfl Ob (c8 q) rfl rfl hOF (by simp [c8_len ha8, c8_len hq8]) (by rw [c8_len hq8]; kernel_rfl) (c8_one _) ?_; intro wE oE hE
             have sE : Sep w wE [blk Ob (c8 q) 362, blk Rb (c8 z) 362, blk Bb (c8 b) 362, blk Ab (c8 a) 362] := sF.step (L := [Ob]) oE (fun k hk => .inl (by simpa [blk] using hk)) hE (fun k hk => .inl (by simpa [blk] using hk))
             have hA := (sE.sel 4 [3, 0, 1, 2]).head
             have hcb : wE.cell? ⟨Ab, j / 32, none⟩ = some (.int .u32 (x : Int)) := by rw [Pw.cell_in hA]; simp [c8, hx]
             clear hA))
        go_roundw
        case rel => exact ⟨j, q, rfl, by omega, hq8, sE, by
          show R = _
          rw [hr.out]
          show numGo b (bitL 32 a j :: bitsR 32 a j) acc = _
          rw [hbit, ← hQ]
          rfl⟩
        case measure => simp [intOf]
      | true =>
        rw [hbit] at hcd
        go_wp2_with (first
          | (refine wpList_store_blk rfl 362 _ _ rfl Ob (c8 q) rfl rfl hOF (by simp [c8_len ha8, c8_len hq8]) (by rw [c8_len hq8]; kernel_rfl) (c8_one _) ?_; intro wE oE hE
             have sE : Sep w wE [blk Ob (c8 q) 362, blk Rb (c8 z) 362, blk Bb (c8 b) 362, blk Ab (c8 a) 362] := sF.step (L := [Ob]) oE (fun k hk => .inl (by simpa [blk] using hk)) hE (fun k hk => .inl (by simpa [blk] using hk))
             have hA := (sE.sel 4 [3, 0, 1, 2]).head
             have hcb : wE.cell? ⟨Ab, j / 32, none⟩ = some (.int .u32 (x : Int)) := by rw [Pw.cell_in hA]; simp [c8, hx]
             clear hA
             have hB2 := (sE.sel 3 [2, 0, 1]).head)
          | (refine wpList_load_blk rfl 362 _ rfl Ob rfl (c8 q) _ hE Tryz.underlying362 (by rfl) (by rw [c8_len hq8]; kernel_rfl) ?_)
          | (refine wpList_load_blk rfl 362 _ rfl Bb rfl (c8 b) _ hB2 Tryz.underlying362 (by rfl) (by rw [c8_len hb8]; kernel_rfl) ?_))
        refine (add8_v hq8 hb8 _).mono ?_
        rintro e wG ⟨rfl, oG⟩
        have sG := sE.quiet oG
        have hOG := sG.head
        have hq9 := hq8.add hb8
        generalize hQ2 : addS8 nA q b = q2 at *
        clear hcb hcd hE hOF hB2
        go_wp2_with (first
          | (refine wpList_store_blk rfl 362 _ _ rfl Ob (c8 q2) rfl rfl hOG (by simp [c8_len hq8, c8_len hq9]) (by rw [c8_len hq9]; kernel_rfl) (c8_one _) ?_; intro wH oH hH
             have sH : Sep w wH [blk Ob (c8 q2) 362, blk Rb (c8 z) 362, blk Bb (c8 b) 362, blk Ab (c8 a) 362] := sG.step (L := [Ob]) oH (fun k hk => .inl (by simpa [blk] using hk)) hH (fun k hk => .inl (by simpa [blk] using hk))))
        go_roundw
        case rel => exact ⟨j, q2, rfl, by omega, hq9, sH, by
          show R = _
          rw [hr.out]
          show numGo b (bitL 32 a j :: bitsR 32 a j) acc = _
          rw [hbit, ← hQ2, ← hQ]
          rfl⟩
        case measure => simp [intOf]
theorem prod_any (a b : List Nat) (ha : Eight a) (hb : Eight b) (w : World) : Calls Tryz.prog 253 #[v8 a, v8 b] w fun e w' => e = .returned (v8 (numGo b (bitsR 32 a 256) zeroL)) ∧ Pw.Only w w' [] :=
  prod_gen a b zeroL ha hb zero_8 (fun w => by kernel_rfl) _ (Lib.hid rfl) w
open Go.Pw in
set_option maxHeartbeats 1600000 in
theorem number_gen (z u : List Nat) (hz8 : Eight z) (hu : Eight u) (bs : List Nat) (hlen : bs.length ≤ 64) (hb : ∀ x ∈ bs, x < 256) (B of T c : Nat) (w : World) (hrow : RowAt w B of T bs) (hz : ∀ w, (zeroValue 362).run Tryz.prog w = .ok (v8 z) w) (hbd : Tryz.prog.built 362 [(0, .int .u32 1)] = some (c8 u).toArray) (R : List Nat) (HR : Hid (R = numGo u (bitsR 8 bs (8 * bs.length)) z)) :
    Calls Tryz.prog 245 #[.slice (some ⟨B, of, none⟩) bs.length c] w fun e w' => e = .returned (v8 R) ∧ Pw.Only w w' [] := by
  obtain ⟨rcs, rfr, hr1, hr2, hr3, hr4⟩ := hrow.at_
  obtain ⟨n, hn⟩ : ∃ n, n = bs.length := ⟨_, rfl⟩
  rw [← hn] at HR hlen hr3 ⊢
  have j1 : IntKind.i64.wrap (8 * (n : Int)) = 8 * (n : Int) := IntWalk.i64_in _ (by omega)
  have j2 : IntKind.i64.wrap (8 * (n : Int) - 1) = 8 * (n : Int) - 1 := IntWalk.i64_in _ (by omega)
  go_enter Tryz.func245, Tryz.ntmps245
  go_wp2_with (first
    | (have hq := s3; refine wpList_alloc_new rfl 362 rfl (v8 z) hz ?_; intro Ob w4 o4 g4 h4
       have s4 : Sep w w4 [blk Ob (c8 z) 362, blk Rb (c8 z) 362] := s3.add o4 h4 (fun k hk => by simp [blk] at hk; omega))
    | (refine wpList_alloc_new rfl 362 rfl (v8 z) hz ?_; intro Rb w3 o3 g3 h3
       have s3 : Sep w w3 [blk Rb (c8 z) 362] := (Sep.nil w).add o3 h3 (fun k hk => by simp [blk] at hk; omega)))
  go_loopw [4] (fun i wr => ∃ (j : Nat) (acc : List Nat), i = .int .i64 ((j : Int) - 1) ∧ j ≤ (8 * n) ∧ Eight acc ∧ Sep w wr [blk Ob (c8 acc) 362, blk Rb (c8 z) 362] ∧ Hid (R = numGo u (bitsR 8 bs j) acc)) (fun i _ => (intOf i + 1).toNat)
  case atStart => exact ⟨8 * n, z, by simp [hn], by omega, hz8, s4, HR⟩
  case round =>
    clear s4 s3 HR
    obtain ⟨j, acc, rfl, hj, ha8, hs, hr⟩ := hrel
    have hO := hs.head
    rcases j with _ | j
    · rw [show ((0 : Nat) : Int) - 1 = -1 from rfl]
      have hRb := (hs.sel 2 [1, 0]).head
      go_wp2_with (first
        | (refine wpList_load_blk rfl 362 _ rfl Ob rfl (c8 acc) _ hO Tryz.underlying362 (by rfl) (by rw [c8_len ha8]; kernel_rfl) ?_)
        | (refine wpList_store_blk rfl 362 _ _ rfl Rb (c8 acc) rfl rfl hRb (by simp [c8_len hz8, c8_len ha8]) (by rw [c8_len ha8]; kernel_rfl) (c8_one _) ?_; intro wE oE hE
           have sE : Sep w wE [blk Rb (c8 acc) 362, blk Ob (c8 acc) 362] := (hs.sel 2 [1, 0]).step (L := [Rb]) oE (fun k hk => .inl (by simpa [blk] using hk)) hE (fun k hk => .inl (by simpa [blk] using hk))))
      have hr0 := hr.out
      clear hr hs hO hRb hz
      refine bodyPost_ret (results_cell Tryz.results245 _ (b := Rb) rfl (c8 acc) _ hE Tryz.underlying362 (by rfl) (by rw [c8_len ha8]; kernel_rfl)) rfl ?_
      exact ⟨by rw [hr0]; rfl, sE.only⟩
    · rw [show ((j + 1 : Nat) : Int) - 1 = (j : Int) by omega]
      have hlt : j / 8 < bs.length := by omega
      obtain ⟨x, hx⟩ : ∃ x, bs[j / 8]? = some x := ⟨_, List.getElem?_eq_getElem hlt⟩
      have hcd := bit8 hx (hb x (List.mem_of_getElem? hx))
      have hcl : ∀ w', Only w w' [] → w'.cell? ⟨B, of + j / 8, none⟩ = some (.int .u8 (x : Int)) := fun w' ho => (ho.cell_in hr1 (by simp) _).trans (hr4 _ _ hx)
      have i0 : (0 : Int) ≤ (j : Int) / 8 := by omega
      have i1 : (j : Int) / 8 < (n : Int) := by omega
      have i2 : ((j : Int) / 8).toNat = j / 8 := by omega
      go_wp2_with (refine wpList_load_blk rfl 362 _ rfl Ob rfl (c8 acc) _ hO Tryz.underlying362 (by rfl) (by rw [c8_len ha8]; kernel_rfl) ?_)
      refine (add8_v ha8 ha8 _).mono ?_
      rintro e wF ⟨rfl, oF⟩
      have sF := hs.quiet oF
      have hOF := sF.head
      have hq8 := ha8.add ha8
      generalize hQ : addS8 nA acc acc = q at *
      cases hbit : bitL 8 bs j with
      | false =>
        rw [hbit] at hcd
        go_wp2_with (first
          | (refine wpList_store_blk rfl 362 _ _ rfl Ob (c8 q) rfl rfl hOF (by simp [c8_len ha8, c8_len hq8]) (by rw [c8_len hq8]; kernel_rfl) (c8_one _) ?_; intro wE oE hE
             have sE : Sep w wE [blk Ob (c8 q) 362, blk Rb (c8 z) 362] := sF.step (L := [Ob]) oE (fun k hk => .inl (by simpa [blk] using hk)) hE (fun k hk => .inl (by simpa [blk] using hk))
             have hcb := hcl wE sE.only))
        go_roundw
        case rel => exact ⟨j, q, rfl, by omega, hq8, sE, by
          show R = _
          rw [hr.out]
          show numGo u (bitL 8 bs j :: bitsR 8 bs j) acc = _
          rw [hbit, ← hQ]
          rfl⟩
        case measure => simp [intOf]
      | true =>
        rw [hbit] at hcd
        go_wp2_with (first
          | (refine wpList_store_blk rfl 362 _ _ rfl Ob (c8 q) rfl rfl hOF (by simp [c8_len ha8, c8_len hq8]) (by rw [c8_len hq8]; kernel_rfl) (c8_one _) ?_; intro wE oE hE
             have sE : Sep w wE [blk Ob (c8 q) 362, blk Rb (c8 z) 362] := sF.step (L := [Ob]) oE (fun k hk => .inl (by simpa [blk] using hk)) hE (fun k hk => .inl (by simpa [blk] using hk))
             have hcb := hcl wE sE.only)
          | (refine wpList_load_blk rfl 362 _ rfl Ob rfl (c8 q) _ hE Tryz.underlying362 (by rfl) (by rw [c8_len hq8]; kernel_rfl) ?_)
          | (refine wpList_build_eq rfl 362 #[(0, .const (.int .u32 1))] rfl (c8 u).toArray (by simp only [List.map_toArray, List.map_cons, List.map_nil]; exact hbd) ?_))
        refine (add8_v hq8 hu _).mono ?_
        rintro e wG ⟨rfl, oG⟩
        have sG := sE.quiet oG
        have hOG := sG.head
        have hq9 := hq8.add hu
        generalize hQ2 : addS8 nA q u = q2 at *
        clear hcb hcd hE hOF
        go_wp2_with (first
          | (refine wpList_store_blk rfl 362 _ _ rfl Ob (c8 q2) rfl rfl hOG (by simp [c8_len hq8, c8_len hq9]) (by rw [c8_len hq9]; kernel_rfl) (c8_one _) ?_; intro wH oH hH
             have sH : Sep w wH [blk Ob (c8 q2) 362, blk Rb (c8 z) 362] := sG.step (L := [Ob]) oH (fun k hk => .inl (by simpa [blk] using hk)) hH (fun k hk => .inl (by simpa [blk] using hk))))
        go_roundw
        case rel => exact ⟨j, q2, rfl, by omega, hq9, sH, by
          show R = _
          rw [hr.out]
          show numGo u (bitL 8 bs j :: bitsR 8 bs j) acc = _
          rw [hbit, ← hQ2, ← hQ]
          rfl⟩
        case measure => simp [intOf]
theorem number_any (bs : List Nat) (hlen : bs.length ≤ 64) (hb : ∀ x ∈ bs, x < 256) (B of T c : Nat) (w : World) (hrow : RowAt w B of T bs) : Calls Tryz.prog 245 #[.slice (some ⟨B, of, none⟩) bs.length c] w fun e w' => e = .returned (v8 (numGo oneL (bitsR 8 bs (8 * bs.length)) zeroL)) ∧ Pw.Only w w' [] :=
  number_gen zeroL oneL zero_8 one_8 bs hlen hb B of T c w hrow (fun w => by kernel_rfl) (by kernel_rfl) _ (Lib.hid rfl)
noncomputable def gNum (args : List AV) (bs : List Nat) : Option AV := match args with
  | [_] => bif Nat.ble (lenL bs) 64 then some (.agg (back32 (numK oneL (bitsR 8 bs (Nat.mul 8 (lenL bs))) zeroL))) else none
  | _ => none
theorem number_fn : fnOf Tryz.prog 245 = some (ntOf Tryz.prog 245, bodyOf Tryz.prog 245, resultsOf Tryz.prog 245) := by kernel_rfl
theorem number_good : HkGood Tryz.prog (rdHook 245 0 [] gNum) := by
  obtain ⟨fn, h1, _, h3, _⟩ := fnOf_ok number_fn
  refine rdHook_good rfl rfl ⟨fn, _, h1, h3⟩ fun args v bs σ us w id off len cp l T E hj hg hd hl hlen hb hr ht => ?_
  unfold gNum at hg
  split at hg
  · cases h64 : Nat.ble (lenL bs) 64 with
    | false => rw [h64] at hg; cases hg
    | true =>
      rw [h64] at hg
      obtain rfl := Option.some.inj hg
      have h64 := Nat.le_of_ble_eq_true h64
      rw [lenL_eq2] at h64 ⊢
      obtain ⟨u, l1, rfl, hx, hd⟩ := denL_cons hd
      obtain rfl := denL_nil hd
      obtain rfl := Option.some.inj hj
      simp only [den, hl, Option.map_some, Option.some.injEq] at hx
      subst hx
      subst hlen
      refine ⟨v8 (numGo oneL (bitsR 8 bs (8 * bs.length)) zeroL), ?_, (number_any bs h64 hb l.blk (l.base + off) T _ w hr).mono fun e w' h => ⟨h.1, onlyB_of h.2⟩⟩
      rw [numK_eq]
      simp only [den, back32_den]
      rfl
  · cases hg
noncomputable def gProd : List AV → Option AV
  | [.agg x, .agg y] => match eight x, eight y with
    | some a, some b => some (.agg (back32 (numK b (bitsR 32 a 256) zeroL)))
    | _, _ => none
  | _ => none
theorem prod_fn : fnOf Tryz.prog 253 = some (ntOf Tryz.prog 253, bodyOf Tryz.prog 253, resultsOf Tryz.prog 253) := by kernel_rfl
theorem prod_good : HkGood Tryz.prog (pureHook 253 gProd) := by
  obtain ⟨fn, h1, _, h3, _⟩ := fnOf_ok prod_fn
  refine fHook_good ⟨fn, _, h1, h3⟩ fun args v σ us w hg hd => ?_
  unfold gProd at hg
  split at hg
  · split at hg
    · rename_i a b ha hb
      obtain rfl := Option.some.inj hg
      obtain ⟨u, l1, rfl, hx, hd⟩ := denL_cons hd
      obtain ⟨u', l2, rfl, hy, hd⟩ := denL_cons hd
      obtain rfl := denL_nil hd
      simp only [den] at hx hy
      split at hx
      · rename_i us1 hl1
        obtain rfl := Option.some.inj hx
        split at hy
        · rename_i us2 hl2
          obtain rfl := Option.some.inj hy
          obtain ⟨rfl, a0, a1, a2, a3, a4, a5, a6, a7, rfl, la⟩ := eight_den ha hl1
          obtain ⟨rfl, b0, b1, b2, b3, b4, b5, b6, b7, rfl, lb⟩ := eight_den hb hl2
          refine ⟨v8 (numGo [b0, b1, b2, b3, b4, b5, b6, b7] (bitsR 32 [a0, a1, a2, a3, a4, a5, a6, a7] 256) zeroL), ?_, (prod_any _ _ ⟨rfl, la⟩ ⟨rfl, lb⟩ w).mono fun e w' h => ⟨h.1, onlyB_of h.2⟩⟩
          rw [numK_eq]
          simp only [den, back32_den]
          rfl
        · cases hy
      · cases hx
    · cases hg
  · cases hg
noncomputable def hCN : Hk := hor hC (hor (pureHook 248 gTimes) (hor (rdHook 245 0 [] gNum) (pureHook 253 gProd)))
theorem hCN_good : HkGood Tryz.prog hCN := HkGood.or hC_good (HkGood.or times_good (HkGood.or number_good prod_good))
end Go.Proofs.YtfkbookaceckhaaGreatDoor
end

section
set_option linter.all false
open Go Go.Sx Go.Proofs Go.RowKit
set_option linter.all false
namespace Go.Proofs.YtfkbookaceckhaaGreatDoor
set_option maxRecDepth 1000000
def eqLs : List Nat → List Nat → Bool
  | [], [] => true
  | a :: l, b :: m => match Nat.beq a b with
    | true => eqLs l m
    | false => false
  | _, _ => false
theorem eqLs_eq : ∀ {l m : List Nat}, eqLs l m = true → l = m
  | [], [], _ => rfl
  | a :: l, b :: m, h => by
    unfold eqLs at h
    split at h
    · rename_i hb
      rw [nbeq hb, eqLs_eq h]
    · cases h
structure ME where
  s : List Nat
  p : List Nat
  o : List Nat
def ME.ok (e : ME) : Prop := e.s.length = 32 ∧ e.p.length = 32 ∧ ∀ (c1 c2 T U : Nat), rowRes2 5 (xcall Tryz.prog okT hCN dhC 1000 60 256 [.slc 200 0 32 (.lit c1), .slc 201 0 32 (.lit c2)] (st2 T U (byAV e.s) (byAV e.p))) = some e.o
noncomputable def look : List ME → List Nat → List Nat → Option (List Nat)
  | [], _, _ => none
  | e :: l, s, p => match eqLs s e.s && eqLs p e.p with
    | true => some e.o
    | false => look l s p
theorem look_ok {s p o : List Nat} : ∀ {l : List ME}, look l s p = some o → ∃ e ∈ l, e.s = s ∧ e.p = p ∧ e.o = o
  | [], h => by cases h
  | e :: l, h => by
    unfold look at h
    split at h
    · rename_i hb
      obtain ⟨h1, h2⟩ := and3 hb
      exact ⟨e, List.mem_cons_self .., (eqLs_eq h1).symm, (eqLs_eq h2).symm, Option.some.inj h⟩
    · obtain ⟨e', h1, h2⟩ := look_ok h
      exact ⟨e', List.mem_cons_of_mem _ h1, h2⟩
noncomputable def gLook (tbl : List ME) (args : List AV) (st : St) : Option (List Nat) := match args with
  | [.slc i o 32 _, .slc j p 32 _] => match Nat.beq i j with
    | true => none
    | false => match rowOf st i o 32, rowOf st j p 32 with
      | some s, some q => look tbl s q
      | _, _ => none
  | _ => none
theorem xmul_fn : fnOf Tryz.prog 256 = some (ntOf Tryz.prog 256, bodyOf Tryz.prog 256, resultsOf Tryz.prog 256) := by kernel_rfl
theorem look_good {tbl : List ME} (h : ∀ e ∈ tbl, e.ok) : HkGood Tryz.prog (nsHook 256 5 (gLook tbl)) := by
  obtain ⟨fn, h1, _, h3, _⟩ := fnOf_ok xmul_fn
  refine nsHook_good ⟨fn, _, h1, h3⟩ fun args st bs σ us w hg hr hd => ?_
  unfold gLook at hg
  split at hg
  · rename_i i o c j p c'
    split at hg
    · cases hg
    · rename_i hij
      split at hg
      · rename_i s q hs hq
        obtain ⟨e, he, rfl, rfl, rfl⟩ := look_ok hg
        obtain ⟨k1, k2, k3⟩ := h e he
        obtain ⟨l, T, m1, m2, m3, m4⟩ := rowOf_at hr hs
        obtain ⟨m, U, n1, n2, n3, n4⟩ := rowOf_at hr hq
        have hne : l.blk ≠ m.blk := fun e' => by
          unfold rowOf at hs hq
          split at hs
          · rename_i e1 s1 c1 g1
            split at hq
            · rename_i e2 s2 c2 g2
              have := hr.inj i j _ _ _ _ g1 g2 m1 n1 e'
              subst this
              simp at hij
            · cases hq
          · cases hs
        obtain ⟨u, l1, rfl, hx, hd⟩ := denL_cons hd
        obtain ⟨u', l2, rfl, hy, hd⟩ := denL_cons hd
        obtain rfl := denL_nil hd
        simp only [den, m1, n1, Option.map_some, Option.some.injEq] at hx hy
        subst hx
        subst hy
        have := two_calls okt callsOK mixed hCN_good dhC_good (l := ⟨l.blk, l.base + o, 0⟩) (m := ⟨m.blk, m.base + p, 0⟩) (c1 := capDen l c) (c2 := capDen m c') (T := T) (U := U) (xs := e.s) (ys := e.p) (by kernel_rfl) m4 n4 hne (by rw [k1, k2]; exact k3 _ _ _ _)
        rw [k1, k2] at this
        exact this
      · cases hg
  · cases hg
end Go.Proofs.YtfkbookaceckhaaGreatDoor
end
