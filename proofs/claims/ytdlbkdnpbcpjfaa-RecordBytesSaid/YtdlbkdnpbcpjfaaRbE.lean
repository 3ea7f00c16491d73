/- What is read, as plain functions; a row whose elements lie apart from it (RecordBytes). No walk. -/
import Derived.Test.YtdlbkdnpbcpjfaaRb6
set_option linter.unusedSimpArgs false
set_option linter.unusedVariables false
namespace Go.Proofs.Ytdlbkdnpbcpjfaa
open Go.RowKit Go.Pw
set_option linter.unusedVariables false

/-- Reading skipped keys: none: one is there twice. -/
def pSk (s : List Int × Bool) : KD × List Int × Bool :=
  let a := pB s
  let n := pN a.2
  let k := pB n.2
  (⟨a.1, n.1, k.1⟩, k.2)
def pSks : Nat → List KD → List Int × Bool → Option (List KD) × List Int × Bool
  | 0, acc, s => (some acc, s)
  | c + 1, acc, s => if acc.any (sameK (pSk s).1.of (pSk s).1.n) then (none, (pSk s).2) else pSks c (acc ++ [(pSk s).1]) (pSk s).2
/-- What a reading with a check of the reader's fault tells. -/
def fin {α : Type} (r : Option α × List Int × Bool) : Option α × List Int × Bool := (if r.2.2 then none else r.1, r.2)
def pStore (s : List Int × Bool) : Option (List KD) × List Int × Bool := fin (pSks (pC 32 s).1.toNat [] (pC 32 s).2)
def pSta (s : List Int × Bool) : Option TD × List Int × Bool :=
  let o := pB s
  let t := pB o.2
  let r := pB t.2
  let k := pB r.2
  let kn := pN k.2
  let j := pB kn.2
  let jn := pN j.2
  let p := pN jn.2
  let l := pStore p.2
  (l.1.map fun l => ⟨o.1, t.1, r.1, k.1, kn.1, j.1, jn.1, p.1, l⟩, l.2)
/-- A session: none: it is none, or its name is among those that there are. -/
def pSe (s : List Int × Bool) : Option ED × List Int × Bool :=
  let i := pB s
  let w := pB i.2
  let f := pF w.2
  let b := pB f.2
  let h := pH (b.1, false)
  let t := pSta b.2
  (if Ends h.2 then t.1.map fun t => ⟨i.1, w.1, f.1, h.1, t⟩ else none, t.2)
def nextSe (k : List ED → List Int × Bool → Option (List ED) × List Int × Bool) (acc : List ED) (r : Option ED × List Int × Bool) : Option (List ED) × List Int × Bool := match r.1 with
  | none => (none, r.2)
  | some e => if acc.any (fun x => decide (x.id = e.id)) then (none, r.2) else k (acc ++ [e]) r.2
def pSes : Nat → List ED → List Int × Bool → Option (List ED) × List Int × Bool
  | 0, acc, s => (some acc, s)
  | c + 1, acc, s => nextSe (pSes c) acc (pSe s)
theorem pSes_zero (acc : List ED) (s : List Int × Bool) : pSes 0 acc s = (some acc, s) := rfl
theorem pSes_succ (c : Nat) (acc : List ED) (s : List Int × Bool) : pSes (c + 1) acc s = nextSe (pSes c) acc (pSe s) := rfl
theorem pSes_none {c : Nat} {acc : List ED} {s s' : List Int × Bool} (h : pSe s = (none, s')) : pSes (c + 1) acc s = (none, s') := by
  rw [pSes_succ, h]
  rfl
theorem pSes_dup {c : Nat} {acc : List ED} {s s' : List Int × Bool} {e : ED} (h : pSe s = (some e, s')) (hd : acc.any (fun x => decide (x.id = e.id)) = true) : pSes (c + 1) acc s = (none, s') := by
  rw [pSes_succ, h]
  exact if_pos hd
theorem pSes_more {c : Nat} {acc : List ED} {s s' : List Int × Bool} {e : ED} (h : pSe s = (some e, s')) (hd : acc.any (fun x => decide (x.id = e.id)) = false) : pSes (c + 1) acc s = pSes c (acc ++ [e]) s' := by
  rw [pSes_succ, h]
  exact if_neg (by simp [hd])
theorem fin_none {α : Type} (s : List Int × Bool) : fin ((none : Option α), s) = (none, s) := by
  unfold fin
  split <;> rfl
def pQu (s : List Int × Bool) : Option (List ED) × List Int × Bool := fin (pSes (pC 4 s).1.toNat [] (pC 4 s).2)

/-- What holds of blocks between a and b. -/
structure Kp (P : Nat → Nat → World → Prop) : Prop where
  keep : ∀ {a b : Nat} {w w' : World} {L : List Nat}, P a b w → Only w w' L → (∀ k ∈ L, k < a ∨ b ≤ k) → P a b w'
  wide : ∀ {a b a' b' : Nat} {w : World}, P a b w → a' ≤ a → b ≤ b' → P a' b' w
/-- It holds apart from the row v and the block S, of blocks from a0 on. -/
def EI (a0 : Nat) (v : Value) (S : Nat) (w : World) (P : Nat → Nat → World → Prop) : Prop := ∃ a b, a0 ≤ a ∧ b ≤ w.heap.size ∧ (∀ k, v.ownBlock = some k → k < a ∨ b ≤ k) ∧ (S < a ∨ b ≤ S) ∧ P a b w
theorem EI.keep {a0 S : Nat} {v : Value} {w w' : World} {P : Nat → Nat → World → Prop} {L : List Nat} (hP : Kp P) (h : EI a0 v S w P) (ho : Only w w' L) (hL : ∀ k ∈ L, k < a0 ∨ v.ownBlock = some k ∨ k = S ∨ w.heap.size ≤ k) : EI a0 v S w' P := by
  obtain ⟨a, b, h1, h2, h3, h4, h5⟩ := h
  refine ⟨a, b, h1, Nat.le_trans h2 ho.size, h3, h4, hP.keep h5 ho fun k hk => ?_⟩
  rcases hL k hk with e | e | e | e
  · exact .inl (by omega)
  · exact h3 k e
  · rw [e]; exact h4
  · exact .inr (by omega)
/-- The row has grown. -/
theorem EI.app {a0 S : Nat} {v v' : Value} {w w' w0 : World} {P : Nat → Nat → World → Prop} {L : List Nat} (hP : Kp P) (h : EI a0 v S w P) (ho : Only w w' L) (hL : ∀ k ∈ L, k < a0 ∨ v.ownBlock = some k ∨ k = S ∨ w.heap.size ≤ k) (hs : SoN w0 v v') (hw : w.heap.size ≤ w0.heap.size) : EI a0 v' S w' P := by
  obtain ⟨a, b, h1, h2, h3, h4, h5⟩ := h
  refine ⟨a, b, h1, Nat.le_trans h2 ho.size, fun k hk => ?_, h4, hP.keep h5 ho fun k hk => ?_⟩
  · rcases hs k hk with e | e
    · exact h3 k e
    · exact .inr (by omega)
  · rcases hL k hk with e | e | e | e
    · exact .inl (by omega)
    · exact h3 k e
    · rw [e]; exact h4
    · exact .inr (by omega)
theorem EI.mono {a0 a1 S : Nat} {v : Value} {w : World} {P : Nat → Nat → World → Prop} (h : EI a0 v S w P) (h1 : a1 ≤ a0) : EI a1 v S w P := by
  obtain ⟨a, b, q, h⟩ := h
  exact ⟨a, b, Nat.le_trans h1 q, h⟩
theorem EI.fin {a0 S : Nat} {v : Value} {w : World} {P : Nat → Nat → World → Prop} (hP : Kp P) (h : EI a0 v S w P) : P a0 w.heap.size w := by
  obtain ⟨a, b, h1, h2, h3, h4, h5⟩ := h
  exact hP.wide h5 h1 h2
theorem EI.mk {a0 S a b : Nat} {v : Value} {w : World} {P : Nat → Nat → World → Prop} (h : P a b w) (h1 : a0 ≤ a) (h2 : b ≤ w.heap.size) (h3 : ∀ k, v.ownBlock = some k → k < a) (h4 : S < a) : EI a0 v S w P :=
  ⟨a, b, h1, h2, fun k hk => .inl (h3 k hk), .inl h4, h⟩
theorem kp_sk (x : Sk) : Kp fun a b w => SkI a b w x := ⟨fun h ho hL => h.keep ho hL, fun h ha hb => h.wide ha hb⟩
theorem kp_se (x : Se) : Kp fun a b w => SeI a b w x := ⟨fun h ho hL => h.keep ho hL, fun h ha hb => h.wide ha hb⟩
theorem kp_rv (x : Rv) : Kp fun a b w => RvI a b w x := ⟨fun h ho hL => h.keep ho hL, fun h ha hb => h.wide ha hb⟩
theorem pC_nat {m : Int} {s s' : List Int × Bool} {n : Nat} (h : pC m s = ((n : Int), s')) : (pC m s).1.toNat = n ∧ (pC m s).2 = s' := by rw [h]; simp
/-- A row that is written in one cell. -/
theorem own_lt {w : World} {e size n : Nat} {v : Value} {xs : List Value} (h : w.ownsRow 0 e size v n xs) : ∀ k, v.ownBlock = some k → k < w.heap.size := fun k hk => (h.lt k hk).2
theorem set_one {w : World} {B : Nat} {u v : Value} {t : TypeId} (h : w.heap[B]? = some (.cells #[u] t (0, 0))) : (w.setCell ⟨B, 0, none⟩ v).heap[B]? = some (.cells #[v] t (0, 0)) := one_setCell h
end Go.Proofs.Ytdlbkdnpbcpjfaa
