/- Resources: what the call's own blocks hold, and that they are apart. No program. -/
import Derived.Test.YtjfmelmiegnmjaaGreatDoorBase
namespace Go.Pw
open Go.RowKit
set_option linter.all false

theorem Only.drewN (w : World) (n : Nat) (L : List Nat) : Only w (w.drewN n) L := ⟨rfl, rfl, rfl, Nat.le_refl _, fun _ _ _ => rfl⟩

/-- A resource: its blocks, and what they hold. -/
structure Res where
  fp : List Nat
  ok : World → Prop
  loc : ∀ w w', (∀ k ∈ fp, w'.heap[k]? = w.heap[k]?) → ok w → ok w'
  lt : ∀ w, ok w → ∀ k ∈ fp, k < w.heap.size

/-- Since w0 nothing that was there has turned; beyond it these resources, apart from one another. -/
structure Sep (w0 w : World) (rs : List Res) : Prop where
  only : Only w0 w []
  ok : ∀ r ∈ rs, r.ok w
  new : ∀ r ∈ rs, ∀ k ∈ r.fp, w0.heap.size ≤ k
  apart : rs.Pairwise fun a b => ∀ k ∈ a.fp, k ∉ b.fp

theorem Res.only {r : Res} {w w' : World} {L : List Nat} (h : r.ok w) (ho : Only w w' L) (hd : ∀ k ∈ r.fp, k ∉ L) : r.ok w' :=
  r.loc w w' (fun k hk => ho.block k (r.lt w h k hk) (hd k hk)) h

theorem Sep.nil (w : World) : Sep w w [] := ⟨Only.refl _ _, by simp, by simp, List.Pairwise.nil⟩

theorem Sep.perm {w0 w : World} {rs rs' : List Res} (h : Sep w0 w rs) (hp : rs.Perm rs') : Sep w0 w rs' :=
  ⟨h.only, fun r hr => h.ok r (hp.mem_iff.2 hr), fun r hr => h.new r (hp.mem_iff.2 hr), h.apart.perm hp (fun hab k hb ha => hab k ha hb)⟩

theorem Sep.head {w0 w : World} {r : Res} {rs : List Res} (h : Sep w0 w (r :: rs)) : r.ok w := h.ok r (by simp)
theorem Sep.tail {w0 w : World} {r : Res} {rs : List Res} (h : Sep w0 w (r :: rs)) : Sep w0 w rs :=
  ⟨h.only, fun x hx => h.ok x (by simp [hx]), fun x hx => h.new x (by simp [hx]), (List.pairwise_cons.1 h.apart).2⟩
theorem Sep.get {w0 w : World} {rs : List Res} (h : Sep w0 w rs) (i : Nat) {r : Res} (hr : rs[i]? = some r) : r.ok w := h.ok r (List.mem_of_getElem? hr)
theorem up_perm {α : Type} : ∀ (l : List α) (i : Nat) (h : i < l.length), l.Perm (l[i] :: l.eraseIdx i)
  | a :: l, 0, _ => List.Perm.refl _
  | a :: l, i + 1, h => by
    have := up_perm l i (by simpa using h)
    exact (this.cons a).trans (List.Perm.swap _ _ _)
/-- The i-th to the head. -/
theorem Sep.up {w0 w : World} {rs : List Res} (h : Sep w0 w rs) (i : Nat) (hi : i < rs.length) : Sep w0 w (rs[i] :: rs.eraseIdx i) :=
  h.perm (up_perm rs i hi)

/-- One resource's blocks are written, and new ones: what it is behind that. -/
theorem Sep.step {w0 w w' : World} {a b : Res} {rs : List Res} {L : List Nat} (h : Sep w0 w (a :: rs)) (ho : Only w w' L) (hL : ∀ k ∈ L, k ∈ a.fp ∨ w.heap.size ≤ k) (hb : b.ok w') (hf : ∀ k ∈ b.fp, k ∈ a.fp ∨ w.heap.size ≤ k) : Sep w0 w' (b :: rs) := by
  have ha : ∀ k ∈ a.fp, w0.heap.size ≤ k := h.new a (by simp)
  have hp := List.pairwise_cons.1 h.apart
  refine ⟨h.only.new ho fun k hk => ?_, fun r hr => ?_, fun r hr => ?_, List.pairwise_cons.2 ⟨fun r hr k hk hkr => ?_, hp.2⟩⟩
  · rcases hL k hk with h1 | h1
    · exact ha k h1
    · have := h.only.size; omega
  · rcases List.mem_cons.1 hr with rfl | hr
    · exact hb
    · have hk := h.ok r (by simp [hr])
      refine Res.only hk ho fun k h1 h2 => ?_
      rcases hL k h2 with h3 | h3
      · exact hp.1 r hr k h3 h1
      · have := r.lt w hk k h1; omega
  · rcases List.mem_cons.1 hr with rfl | hr
    · intro k hk
      rcases hf k hk with h1 | h1
      · exact ha k h1
      · have := h.only.size; omega
    · exact h.new r (by simp [hr])
  · rcases hf k hk with h1 | h1
    · exact hp.1 r hr k h1 hkr
    · have := r.lt w (h.ok r (by simp [hr])) k hkr; omega

/-- Nothing is written. -/
theorem Sep.quiet {w0 w w' : World} {rs : List Res} (h : Sep w0 w rs) (ho : Only w w' []) : Sep w0 w' rs :=
  ⟨h.only.trans ho, fun r hr => Res.only (h.ok r hr) ho (by simp), h.new, h.apart⟩

/-- A new resource. -/
theorem Sep.add {w0 w w' : World} {b : Res} {rs : List Res} (h : Sep w0 w rs) (ho : Only w w' []) (hb : b.ok w') (hf : ∀ k ∈ b.fp, w.heap.size ≤ k) : Sep w0 w' (b :: rs) :=
  ⟨h.only.trans ho, fun r hr => by rcases List.mem_cons.1 hr with rfl | hr; exact hb; exact Res.only (h.ok r hr) ho (by simp),
   fun r hr => by rcases List.mem_cons.1 hr with rfl | hr; exact fun k hk => Nat.le_trans h.only.size (hf k hk); exact h.new r hr,
   List.pairwise_cons.2 ⟨fun r hr k hk hkr => by have := r.lt w (h.ok r hr) k hkr; have := hf k hk; omega, h.apart⟩⟩

/-- What was there at the beginning reads as it did. -/
theorem Sep.src {w0 w : World} {rs : List Res} (h : Sep w0 w rs) {x : Value} {size m : Nat} {news : List Value} (hs : Src w0 x size m news) : Src w x size m news := hs.off h.only (fun _ _ _ => by simp)

/-- A block known whole. -/
def blk (B : Nat) (cs : List Value) (T : TypeId) : Res where
  fp := [B]
  ok w := w.heap[B]? = some (.cells cs.toArray T (0, 0))
  loc w w' h k := (h B (by simp)).trans k
  lt w h k hk := by obtain rfl : k = B := by simpa using hk
                    exact (Array.getElem?_eq_some_iff.1 h).1
/-- A row of the call's own. -/
def row (e size : Nat) (v : Value) (n : Nat) (xs : List Value) : Res where
  fp := v.ownBlock.toList
  ok w := w.ownsRow 0 e size v n xs
  loc w w' h k := ⟨k.1, by
    rcases k.2 with hn | ⟨g, cap, cur, rfl, hb, hg, rest⟩
    · exact .inl hn
    · exact .inr ⟨g, cap, cur, rfl, hb, (h g (by simp [Value.ownBlock])).trans hg, rest⟩⟩
  lt w h k hk := (h.lt k (by simpa using hk)).2
/-- Two resources as one. -/
def two (a b : Res) : Res where
  fp := a.fp ++ b.fp
  ok w := a.ok w ∧ b.ok w ∧ ∀ k ∈ a.fp, k ∉ b.fp
  loc w w' h k := ⟨a.loc w w' (fun i hi => h i (by simp [hi])) k.1, b.loc w w' (fun i hi => h i (by simp [hi])) k.2.1, k.2.2⟩
  lt w h k hk := by
    rcases List.mem_append.1 hk with hk | hk
    · exact a.lt w h.1 k hk
    · exact b.lt w h.2.1 k hk
/-- Many. -/
def many (l : List Res) : Res where
  fp := l.flatMap Res.fp
  ok w := (∀ r ∈ l, r.ok w) ∧ l.Pairwise fun (a b : Res) => ∀ k ∈ a.fp, k ∉ b.fp
  loc w w' h k := ⟨fun r hr => r.loc w w' (fun i hi => h i (List.mem_flatMap.2 ⟨r, hr, hi⟩)) (k.1 r hr), k.2⟩
  lt w h k hk := by
    obtain ⟨r, hr, hk⟩ := List.mem_flatMap.1 hk
    exact r.lt w (h.1 r hr) k hk

theorem Sep.join {w0 w : World} {a b : Res} {rs : List Res} (h : Sep w0 w (a :: b :: rs)) : Sep w0 w (two a b :: rs) := by
  have hp := List.pairwise_cons.1 h.apart
  have hq := List.pairwise_cons.1 hp.2
  refine ⟨h.only, fun r hr => ?_, fun r hr k hk => ?_, List.pairwise_cons.2 ⟨fun r hr k hk => ?_, hq.2⟩⟩
  · rcases List.mem_cons.1 hr with rfl | hr
    · exact ⟨h.ok a (by simp), h.ok b (by simp), hp.1 b (by simp)⟩
    · exact h.ok r (by simp [hr])
  · rcases List.mem_cons.1 hr with rfl | hr
    · rcases List.mem_append.1 hk with hk | hk
      · exact h.new a (by simp) k hk
      · exact h.new b (by simp) k hk
    · exact h.new r (by simp [hr]) k hk
  · rcases List.mem_append.1 hk with hk | hk
    · exact hp.1 r (by simp [hr]) k hk
    · exact hq.1 r hr k hk
theorem Sep.split {w0 w : World} {a b : Res} {rs : List Res} (h : Sep w0 w (two a b :: rs)) : Sep w0 w (a :: b :: rs) := by
  have hp := List.pairwise_cons.1 h.apart
  have ht : (two a b).ok w := h.head
  refine ⟨h.only, fun r hr => ?_, fun r hr k hk => ?_, List.pairwise_cons.2 ⟨fun r hr k hk => ?_, List.pairwise_cons.2 ⟨fun r hr k hk => ?_, hp.2⟩⟩⟩
  · rcases List.mem_cons.1 hr with rfl | hr
    · exact ht.1
    · rcases List.mem_cons.1 hr with rfl | hr
      · exact ht.2.1
      · exact h.ok r (by simp [hr])
  · rcases List.mem_cons.1 hr with rfl | hr
    · exact h.new (two r b) (by simp) k (List.mem_append.2 (.inl hk))
    · rcases List.mem_cons.1 hr with rfl | hr
      · exact h.new (two a r) (by simp) k (List.mem_append.2 (.inr hk))
      · exact h.new r (by simp [hr]) k hk
  · rcases List.mem_cons.1 hr with rfl | hr
    · exact ht.2.2 k hk
    · exact hp.1 r hr k (List.mem_append.2 (.inl hk))
  · exact hp.1 r hr k (List.mem_append.2 (.inr hk))

theorem many_ok {l : List Res} {w : World} (h : (many l).ok w) {r : Res} (hr : r ∈ l) : r.ok w := h.1 r hr
theorem Sep.many_nil {w0 w : World} {rs : List Res} (h : Sep w0 w rs) : Sep w0 w (many [] :: rs) :=
  h.add (Only.refl _ _) ⟨by simp, List.Pairwise.nil⟩ (fun k hk => by simp [many] at hk)
theorem Sep.many_snoc {w0 w : World} {l : List Res} {a : Res} {rs : List Res} (h : Sep w0 w (many l :: a :: rs)) : Sep w0 w (many (l ++ [a]) :: rs) := by
  have hp := List.pairwise_cons.1 h.apart
  have hq := List.pairwise_cons.1 hp.2
  have hm : (many l).ok w := h.head
  refine ⟨h.only, fun r hr => ?_, fun r hr k hk => ?_, List.pairwise_cons.2 ⟨fun r hr k hk => ?_, hq.2⟩⟩
  · rcases List.mem_cons.1 hr with rfl | hr
    · refine ⟨fun r hr => ?_, List.pairwise_append.2 ⟨hm.2, List.pairwise_singleton _ _, fun x hx y hy k hk => ?_⟩⟩
      · rcases List.mem_append.1 hr with hr | hr
        · exact hm.1 r hr
        · obtain rfl : r = a := by simpa using hr
          exact h.ok r (by simp)
      · obtain rfl : y = a := by simpa using hy
        exact hp.1 y (by simp) k (List.mem_flatMap.2 ⟨x, hx, hk⟩)
    · exact h.ok r (by simp [hr])
  · rcases List.mem_cons.1 hr with rfl | hr
    · have hk' : k ∈ (l ++ [a]).flatMap Res.fp := hk
      rw [List.flatMap_append, List.mem_append] at hk'
      rcases hk' with hk | hk
      · exact h.new (many l) (by simp) k hk
      · exact h.new a (by simp) k (by simpa using hk)
    · exact h.new r (by simp [hr]) k hk
  · have hk' : k ∈ (l ++ [a]).flatMap Res.fp := hk
    rw [List.flatMap_append, List.mem_append] at hk'
    rcases hk' with hk | hk
    · exact hp.1 r (by simp [hr]) k hk
    · exact hq.1 r hr k (by simpa using hk)
/-- Of many resources some are left: what a list's parts are. -/
theorem many_sub {l l' : List Res} {w : World} (h : (many l).ok w) (hs : l'.Sublist l) : (many l').ok w :=
  ⟨fun r hr => h.1 r (hs.subset hr), h.2.sublist hs⟩
theorem many_fp_sub {l l' : List Res} (hs : l'.Sublist l) : ∀ k ∈ (many l').fp, k ∈ (many l).fp := fun k hk => by
  obtain ⟨r, hr, hk⟩ := List.mem_flatMap.1 hk
  exact List.mem_flatMap.2 ⟨r, hs.subset hr, hk⟩

/-- The elements that the translation lays for append's last argument. -/
theorem src_lit (w : World) (cs : List Value) (E : TypeId) (m size : Nat) (h : cs.length = m * size) (hm : m ≤ maxLen := by decide) : Src (w.alloc (.cells cs.toArray E)) (.slice (some ⟨w.heap.size, 0, none⟩) m m) size m cs :=
  ⟨_, _, rfl, Nat.le_refl _, hm, h, by simp, fun b hb j u hj => by
    obtain rfl : b = ⟨w.heap.size, 0, none⟩ := by simpa using hb.symm
    rw [Addr.add_lit, Pw.cell_in (heap_alloc_new w _)]
    simpa using hj⟩
theorem src_litF (w : World) (cs : List Value) (E : TypeId) (fr : Nat × Nat) (m size : Nat) (h : cs.length = m * size) (hm : m ≤ maxLen := by decide) : Src (w.alloc (.cells cs.toArray E fr)) (.slice (some ⟨w.heap.size, 0, none⟩) m m) size m cs :=
  ⟨_, _, rfl, Nat.le_refl _, hm, h, by simp, fun b hb j u hj => by
    obtain rfl : b = ⟨w.heap.size, 0, none⟩ := by simpa using hb.symm
    rw [Addr.add_lit, Pw.cell_in (heap_alloc_new w _)]
    simpa using hj⟩
theorem cell_two0 {w : World} {b : Nat} {u v : Value} {t : TypeId} (h : w.heap[b]? = some (.cells #[u, v] t (0, 0))) : w.cell? ⟨b, 0, none⟩ = some u := by simp [World.cell?, h]
theorem cell_two1 {w : World} {b : Nat} {u v : Value} {t : TypeId} (h : w.heap[b]? = some (.cells #[u, v] t (0, 0))) : w.cell? ⟨b, 1, none⟩ = some v := by simp [World.cell?, h]
theorem free_two {w : World} {b : Nat} {u v : Value} {t : TypeId} (h : w.heap[b]? = some (.cells #[u, v] t (0, 0))) (i : Nat) : w.frozen? ⟨b, i, none⟩ = false := by simp [World.frozen?, h]

/-- An element of a slice that is read. -/
theorem src_at {w : World} {ao : Option Addr} {n c : Nat} {cs : List Value} (h : Src w (.slice ao n c) 1 n cs) {k : Nat} (hk : k < n) : ∃ b o, ao = some ⟨b, o, none⟩ ∧ ∀ j u, cs[j]? = some u → w.cell? ⟨b, o + j, none⟩ = some u := by
  obtain ⟨ao', c', he, hc1, hc2, hc3, hc4, hc5⟩ := h
  simp only [Value.slice.injEq] at he
  obtain ⟨rfl, _, rfl⟩ := he
  cases ao with
  | none => have := (hc4 rfl).1; omega
  | some ad =>
    obtain ⟨b, o, sp⟩ := ad
    have hl : 0 < cs.length := by rw [hc3]; omega
    have hcz := hc5 _ rfl 0 cs[0] (by simp)
    have hsp : sp = none := by simpa [Addr.add] using World.cell?_spot hcz
    subst hsp
    exact ⟨b, o, rfl, fun j u hj => by have := hc5 _ rfl j u hj; rwa [Addr.add_lit] at this⟩
theorem src_new {w : World} {ao : Option Addr} {n c : Nat} {cs : List Value} (h : Src w (.slice ao n c) 1 n cs) {k : Nat} (hk : k < n) : ∃ b o, ao = some ⟨b, o, none⟩ ∧ ∀ w', Only w w' [] → ∀ j u, cs[j]? = some u → w'.cell? ⟨b, o + j, none⟩ = some u := by
  obtain ⟨b, o, rfl, _⟩ := src_at h hk
  refine ⟨b, o, rfl, fun w' ho j u hj => ?_⟩
  obtain ⟨b', o', e, hc⟩ := src_at (h.off ho (fun _ _ _ => by simp)) hk
  cases e
  exact hc j u hj
/-- An append whose run is known. -/
theorem wpList_append_run {P : Program} {w : World} {ops : Array Oper} {rest : List Oper} {o : Oper} {a : Act} {Q : Exit → Act → World → Prop} (hgd : o.guard = none) (s x : Operand) (t : TypeId)
    (ho : o.op = .call { callee := .builtin .append, args := #[s, x], argTypes := #[t, t] }) (v xv : Value) (hs : a.eval s = v) (hx : a.eval x = xv) {v' : Value} {w' : World}
    (hrun : (Builtin.append_ #[t, t] o.type #[v, xv]).run P w = .ok v' w') (h : wpList P ops Q rest (a.put o.dst v') w') : wpList P ops Q (o :: rest) a w :=
  wpList_plain hgd fun _ hK => by
    unfold Oper.wp
    simp [execOp, ho, resolve, invoke, builtin, hs, hx, hrun, Result.andThen]
    exact hK _ _ h
/-- A new block. -/
theorem Sep.box {w0 w : World} {rs : List Res} (h : Sep w0 w rs) (cs : List Value) (T : TypeId) : Sep w0 (w.alloc (.cells cs.toArray T)) (blk w.heap.size cs T :: rs) :=
  h.add (Only.alloc _ _ _) (heap_alloc_new w _) (fun k hk => by simp [blk] at hk; omega)
/-- A cell of a block is written. -/
theorem Sep.put {w0 w : World} {rs : List Res} {B : Nat} {cs : List Value} {T : TypeId} (h : Sep w0 w (blk B cs T :: rs)) (i : Nat) (u : Value) : Sep w0 (w.setCell ⟨B, i, none⟩ u) (blk B (cs.set i u) T :: rs) :=
  h.step (L := [B]) (Only.setCell _ _ _ _ (by simp)) (fun k hk => .inl hk) (by
    have := set_at (i := i) (show w.heap[B]? = _ from h.head) u
    simpa [blk] using this) (fun k hk => .inl hk)
/-- Something is appended to a row. -/
theorem Sep.app {w0 w w' : World} {rs : List Res} {e size n m : Nat} {v v' : Value} {xs news : List Value} (h : Sep w0 w (row e size v n xs :: rs)) (h1 : w'.ownsRow 0 e size v' (n + m) (xs ++ news)) (h2 : w.grownBy w' v.ownBlock) (h3 : SoN w v v') : Sep w0 w' (row e size v' (n + m) (xs ++ news) :: rs) :=
  h.step (L := v.ownBlock.toList) (Only.grown h2 (fun k hk => by simp [hk])) (fun k hk => .inl hk) h1 (fun k hk => h3.toList k hk)
/-- A new row. -/
theorem Sep.row0 {w0 w w' : World} {rs : List Res} {e size n : Nat} {v : Value} {xs : List Value} (h : Sep w0 w rs) (h1 : w'.ownsRow 0 e size v n xs) (h3 : SoN w (.slice none 0 0) v) (h2 : Only w w' []) : Sep w0 w' (row e size v n xs :: rs) :=
  h.add h2 h1 (fun k hk => by
    rcases h3.toList k hk with h | h
    · simp [Value.ownBlock] at h
    · exact h)
theorem Sep.rown {w0 w : World} {rs : List Res} (h : Sep w0 w rs) (e size : Nat) : Sep w0 w (row e size (.slice none 0 0) 0 [] :: rs) :=
  h.add (Only.refl _ _) (World.ownsRow_nil _ _ _ _) (fun k hk => by simp [row, Value.ownBlock] at hk)
end Go.Pw
