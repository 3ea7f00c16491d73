/- Several texts in one: Env, EnvW, EnvR, EnvR2, EnvR3, EnvP, EnvH, EnvB, EnvDd. -/
import Derived.Test.YticojdepepkdlaaRef09b
set_option linter.unusedSimpArgs false
set_option linter.unusedVariables false
/- A Writer of layer 9 through a chain of calls: its state against the world in which the chain began. -/
namespace Go.Proofs.Yticojdepepkdlaa
open Go.RowKit Go.Pw
set_option linter.unusedVariables false

theorem isw_new {T E B : Nat} {v : Value} {xs : List Int} {w w' : World} (h : IsW T E B v xs w) (ho : Only w w' []) : IsW T E B v xs w' := ⟨ho.at h.1 (by simp), own_new h.2 ho (by simp)⟩
theorem off_next {B : Nat} {v0 v1 p : Value} {W : World} {ps : List Int} (hp : Rd W p ps) (ho : Off p (B :: v0.ownBlock.toList)) (h : SoN W v0 v1) : Off p (B :: v1.ownBlock.toList) := fun hm k hk hkL => by
  rcases own_list h k hkL with h1 | h1
  · exact ho hm k hk h1
  · have := Src.lt hp (by decide) hm k hk; omega

theorem isw_apart {T E B X : Nat} {v : Value} {xs : List Int} {w : World} (h : IsW T E B v xs w) (hX : w.heap.size ≤ X) : X ∉ B :: v.ownBlock.toList := by
  intro hm
  have h1 := (Array.getElem?_eq_some_iff.1 h.1).1
  rcases List.mem_cons.1 hm with rfl | hm
  · omega
  · have := (h.2.lt X (by simpa using hm)).2
    omega
end Go.Proofs.Yticojdepepkdlaa

/- The contracts of package envelope's writing side: who, ident, hello, front, Hello, Front, Encode, EncodeInner, EncodeBundle lay the document's bytes, for parts shorter than the bounds that each contract names. -/
namespace Go.Proofs.Yticojdepepkdlaa
open Go.RowKit Go.Pw
set_option linter.unusedVariables false

/-- The Writer's bytes, done: a row of the call's own. -/
theorem fresh_done {B : Nat} {w W w1 w2 : World} {e : Ending} {xs ys : List Int} (h : Fresh ys w1 e w2) (hoW : Only w W []) (hB : w.heap.size ≤ B) (h1 : Only W w1 (B :: (Value.slice none 0 0).ownBlock.toList)) (he : ys = xs) : Fresh xs w e w2 := by
  subst he
  obtain ⟨v, rfl, g1, g2, g3⟩ := h
  have ho : Only w w1 [] := hoW.new h1 (by simp [Value.ownBlock]; omega)
  exact ⟨v, rfl, g1, g2.weaken ho.size, ho.trans g3⟩

end Go.Proofs.Yticojdepepkdlaa

/- The contracts of package envelope's reading side: readWho, readIdent, readHello, ReadHello, Decode, DecodeInner, DecodeBundle at any bytes, fewer than 1000000001 of them. -/
namespace Go.Proofs.Yticojdepepkdlaa
open Go.RowKit Go.Pw
set_option linter.unusedVariables false

/-- What is read next: a number of four bytes, bytes, a truth; and what is left: the rest, the fault. -/
def pN (s : List Int × Bool) : Int × List Int × Bool := RN 4 s.1 s.2
def pB (s : List Int × Bool) : List Int × List Int × Bool :=
  let r := RN 4 s.1 s.2
  let f := BF r.2.2 65536 r.1 r.2.1.length
  (BV f r.1 r.2.1, BR f r.1 r.2.1, f)
def pF (s : List Int × Bool) : Bool × List Int × Bool :=
  let r := RN 1 s.1 s.2
  (FV r.1, r.2.1, FB r.2.2 1 r.1)

/-- A slice that the call has made since W, which reads as xs. -/
def Got (W w : World) (v : Value) (xs : List Int) : Prop := (∃ ao c, v = .slice ao xs.length c) ∧ Rd w v xs ∧ (∀ k, v.ownBlock = some k → W.heap.size ≤ k) ∧ Byt xs

theorem Got.next {W w w' : World} {v : Value} {xs : List Int} {L : List Nat} (h : Got W w v xs) (ho : Only w w' L) (hL : ∀ k ∈ L, k < W.heap.size) : Got W w' v xs := by
  obtain ⟨h1, h2, h3, h4⟩ := h
  exact ⟨h1, Src.off h2 ho (fun _ k hk hm => by have := h3 k hk; have := hL k hm; omega), h3, h4⟩
theorem Got.mono {W W' w : World} {v : Value} {xs : List Int} (h : Got W w v xs) (hs : W'.heap.size ≤ W.heap.size) : Got W' w v xs := ⟨h.1, h.2.1, fun k hk => Nat.le_trans hs (h.2.2.1 k hk), h.2.2.2⟩
theorem got_nil (W w : World) : Got W w (.slice none 0 0) [] := ⟨⟨none, 0, rfl⟩, Rd.nil w, fun k hk => by simp [Value.ownBlock] at hk, fun x hx => by simp at hx⟩

/-- A Reader against the world W in which a chain began. -/
structure RT (R : Nat) (p : Value) (s : List Int × Bool) (W w : World) : Prop where
  rs : RS R p s.1 s.2 W w
  len : s.1.length ≤ 1000000000
  le : s.1.length ≤ slen p
  plt : 0 < slen p → ∀ k, p.ownBlock = some k → k < W.heap.size
  rlt : R < W.heap.size

theorem RT.only {R : Nat} {p : Value} {s : List Int × Bool} {W w : World} (h : RT R p s W w) : Only W w [R] := h.rs.2
theorem RT.step {R : Nat} {p p1 : Value} {s s' : List Int × Bool} {W w1 w2 : World} (h0 : RT R p s W w1) (hp : p1.ownBlock = p.ownBlock) (h : RS R p1 s'.1 s'.2 w1 w2) (hs : s'.1.length ≤ s.1.length) : RT R p s' W w2 := by
  obtain ⟨⟨p', h1, h2⟩, h3⟩ := h
  have := h0.len
  have := h0.le
  exact ⟨⟨⟨p', h1.trans hp, h2⟩, h0.only.trans h3⟩, by omega, by omega, h0.plt, h0.rlt⟩
theorem rs_new {R : Nat} {p : Value} {s : List Int × Bool} {w w' : World} {L : List Nat} (h : ∃ p', p'.ownBlock = p.ownBlock ∧ IsR 151 R p' s.1 s.2 w) (hl : s.1.length ≤ slen p) (ho : Only w w' L) (hR : R ∉ L) (hp : Off p L) : ∃ p', p'.ownBlock = p.ownBlock ∧ IsR 151 R p' s.1 s.2 w' := by
  obtain ⟨p', h1, h2, h3, h4⟩ := h
  refine ⟨p', h1, ho.at h2 hR, ?_, h4⟩
  refine Src.off h3 ho (fun hm k hk hkL => ?_)
  obtain ⟨ao, c, rfl, _⟩ := id h3
  exact hp (Nat.lt_of_lt_of_le hm hl) k (h1 ▸ hk) hkL
/-- Other blocks are written, new ones since W. -/
theorem RT.keep {R : Nat} {p : Value} {s : List Int × Bool} {W w w' : World} {L : List Nat} (h : RT R p s W w) (ho : Only w w' L) (hL : ∀ k ∈ L, W.heap.size ≤ k) : RT R p s W w' := by
  have hR : R ∉ L := fun hm => by have := hL R hm; have := h.rlt; omega
  have hp : Off p L := fun hm k hk hkL => by have := h.plt hm k hk; have := hL k hkL; omega
  exact ⟨⟨rs_new h.rs.1 h.le ho hR hp, h.only.step ho (fun i hi => .inr (hL i hi))⟩, h.len, h.le, h.plt, h.rlt⟩
theorem RT.new {R : Nat} {p : Value} {s : List Int × Bool} {W w w' : World} (h : RT R p s W w) (ho : Only w w' []) : RT R p s W w' := h.keep ho (by simp)
/-- The chain begun anew, at the world at hand. -/
theorem RT.here {R : Nat} {p : Value} {s : List Int × Bool} {W w : World} (h : RT R p s W w) : RT R p s w w :=
  ⟨⟨h.rs.1, Only.refl _ _⟩, h.len, h.le, fun hm k hk => Nat.lt_of_lt_of_le (h.plt hm k hk) h.only.size, Nat.lt_of_lt_of_le h.rlt h.only.size⟩
/-- A chain that was begun anew, seen from where the first began. -/
theorem RT.back {R : Nat} {p : Value} {s s' : List Int × Bool} {W w w' : World} (h : RT R p s W w) (k : RT R p s' w w') : RT R p s' W w' :=
  ⟨⟨k.rs.1, h.only.trans k.only⟩, k.len, k.le, h.plt, h.rlt⟩

theorem rnum_rt {R : Nat} {p : Value} {s : List Int × Bool} {W w : World} (h : RT R p s W w) :
    Calls Try.prog 74 #[.pointer (some ⟨R, 0, none⟩), .int .i64 4] w fun e w' => ∃ n s', Hid (pN s = (n, s')) ∧ e = .returned (.int .u64 n) ∧ 0 ≤ n ∧ n < 4294967296 ∧ RT R p s' W w' := by
  obtain ⟨⟨p1, h1, h2⟩, h3⟩ := id h.rs
  have h4 := h.len
  have hb := RN_bd 4 s.1 s.2 h2.2.2
  refine (rnum_any R p1 s.1 s.2 4 w h2 h4 (by decide)).mono ?_
  rintro e w' ⟨rfl, k⟩
  refine ⟨_, (RN 4 s.1 s.2).2, rfl, rfl, hb.1, by have := hb.2.1; rw [pow4] at this; exact this, RT.step h h1 k hb.2.2.1⟩

theorem rflag_rt {R : Nat} {p : Value} {s : List Int × Bool} {W w : World} (h : RT R p s W w) :
    Calls Try.prog 72 #[.pointer (some ⟨R, 0, none⟩)] w fun e w' => ∃ b s', Hid (pF s = (b, s')) ∧ e = .returned (.bool b) ∧ RT R p s' W w' := by
  obtain ⟨⟨p1, h1, h2⟩, h3⟩ := id h.rs
  have h4 := h.len
  have hb := RN_bd 1 s.1 s.2 h2.2.2
  refine (rflag_any R p1 s.1 s.2 w h2 h4).mono ?_
  rintro e w' ⟨rfl, k⟩
  exact ⟨_, (pF s).2, rfl, rfl, RT.step h h1 k hb.2.2.1⟩

theorem rbytes_rt {R : Nat} {p : Value} {s : List Int × Bool} {W w : World} (h : RT R p s W w) :
    Calls Try.prog 71 #[.pointer (some ⟨R, 0, none⟩), .int .i64 65536] w fun e w' => ∃ v xs s', Hid (pB s = (xs, s')) ∧ e = .returned v ∧ Got W w' v xs ∧ xs.length ≤ 65536 ∧ RT R p s' W w' := by
  obtain ⟨⟨p1, h1, h2⟩, h3⟩ := id h.rs
  have h4 := h.len
  have hb := RN_bd 4 s.1 s.2 h2.2.2
  refine (rbytes_any R p1 s.1 s.2 65536 w h2 h4 (by decide)).mono ?_
  rintro e w' ⟨v, rfl, g1, g2, k⟩
  obtain ⟨ao, c, rfl⟩ := own_slice g1
  have hl : (pB s).2.1.length ≤ s.1.length ∧ (pB s).1.length ≤ 65536 ∧ Byt (pB s).1 := by
    unfold pB
    simp only
    generalize hr : RN 4 s.1 s.2 = r at *
    cases hf : BF r.2.2 65536 r.1 r.2.1.length
    · simp only [BF, Bool.or_eq_false_iff, decide_eq_false_iff_not] at hf
      refine ⟨?_, ?_, fun y hy => hb.2.2.2 y ?_⟩
      · simp [BR]; omega
      · simp [BV]; omega
      · simp [BV] at hy; exact List.mem_of_mem_take hy
    · exact ⟨by simp [BR]; omega, by simp [BV], fun y hy => by simp [BV] at hy⟩
  refine ⟨_, (pB s).1, (pB s).2, rfl, rfl, ⟨⟨_, _, rfl⟩, own_rd g1, fun k hk => ?_, hl.2.2⟩, hl.2.1, RT.step h h1 k hl.1⟩
  rcases g2 k hk with h | h
  · simp [Value.ownBlock] at h
  · exact Nat.le_trans h3.size h

/-- A device; what is public of one; a Hello; as they are read. -/
def pW (s : List Int × Bool) : (Int × Int) × List Int × Bool :=
  let a := pN s
  let b := pN a.2
  ((a.1, b.1), b.2)
def pI (s : List Int × Bool) : (List Int × List Int) × List Int × Bool :=
  let a := pB s
  let b := pB a.2
  ((a.1, b.1), b.2)

/-- What a step of reading leaves: its answer r, and the Reader. -/
def Ans {α : Type} (f : List Int × Bool → α × List Int × Bool) (R : Nat) (p : Value) (s : List Int × Bool) (W : World) (ok : α → Value → World → Prop) (e : Ending) (w' : World) : Prop :=
  ∃ a s' v, f s = (a, s') ∧ e = .returned v ∧ ok a v w' ∧ RT R p s' W w'

def OkWho (a : Int × Int) (v : Value) (_ : World) : Prop := v = .agg #[.int .i64 a.1, .int .i64 a.2] ∧ U32 a.1 ∧ U32 a.2

set_option maxHeartbeats 800000 in
theorem readwho_rt {R : Nat} {p : Value} {s : List Int × Bool} {W w : World} (h : RT R p s W w) :
    Calls Try.prog 70 #[.pointer (some ⟨R, 0, none⟩)] w (Ans pW R p s W OkWho) := by
  go_enter Try.func70, Try.ntmps70
  go_wp2_with fail
  obtain ⟨W0, X, hW, hX, hb, hoW, hX1, hX2⟩ := new_block w (.cells #[.int .i64 0, .int .i64 0] 27)
  rw [← hW, ← hX]
  clear hW hX
  have hWX : W.heap.size ≤ X := Nat.le_trans h.only.size hX1
  have hRX : X ∉ [R] := by have := h.rlt; simp; omega
  refine (rnum_rt (h.new hoW).here).mono ?_
  rintro e w1 ⟨n1, s1, H1, rfl, lo1, hi1, r1⟩
  go_wp2_with fail
  refine (rnum_rt r1).mono ?_
  rintro e w2 ⟨n2, s2, H2, rfl, lo2, hi2, r2⟩
  have hb2 := r2.only.at hb hRX
  have c0 := cell_in hb2 0
  have c1 := cell_in hb2 1
  have f0 := free_in hb2 0
  have f1 := free_in hb2 1
  go_wp2_with fail
  have hb3 := set_at (i := 1) (set_at (i := 0) hb2 (.int .i64 n1)) (.int .i64 n2)
  have d0 := cell_in hb3 0
  have d1 := cell_in hb3 1
  have ho : Only w2 ((w2.setCell ⟨X, 0, none⟩ (.int .i64 n1)).setCell ⟨X, 1, none⟩ (.int .i64 n2)) [X] := (Only.setCell _ _ _ _ (by simp)).trans (Only.setCell _ _ _ _ (by simp))
  generalize (w2.setCell ⟨X, 0, none⟩ (.int .i64 n1)).setCell ⟨X, 1, none⟩ (.int .i64 n2) = w3 at *
  simp at d0 d1
  refine bodyPost_ret (v := .agg #[.int .i64 n1, .int .i64 n2]) (by simp [results, Try.results70, go_sem, d0, d1]) rfl ?_
  exact ⟨(n1, n2), s2, _, by simp [pW, H1.out, H2.out], rfl, ⟨rfl, ⟨lo1, hi1⟩, lo2, hi2⟩, ((h.new hoW).back r2).keep ho (by simpa using hWX)⟩
end Go.Proofs.Yticojdepepkdlaa

/- The contracts of package envelope's reading side, second part: readIdent, readHello, ReadHello, DecodeInner, DecodeBundle, Decode at any bytes, fewer than 1000000001 of them. -/
namespace Go.Proofs.Yticojdepepkdlaa
open Go.RowKit Go.Pw
set_option linter.unusedVariables false

/-- A row of cells stored, one behind the other. -/
def setAll (w : World) (X : Nat) : Nat → List Value → World
  | _, [] => w
  | i, v :: vs => setAll (w.setCell ⟨X, i, none⟩ v) X (i + 1) vs
def putAll (cs : Array Value) : Nat → List Value → Array Value
  | _, [] => cs
  | i, v :: vs => putAll (cs.setIfInBounds i v) (i + 1) vs
theorem setAll_only (X : Nat) (vs : List Value) : ∀ (w : World) (i : Nat), Only w (setAll w X i vs) [X] := by
  induction vs with
  | nil => intro w i; exact Only.refl _ _
  | cons v vs ih => intro w i; exact (Only.setCell w ⟨X, i, none⟩ v [X] (by simp)).trans (ih _ _)
theorem setAll_at {X : Nat} {T : TypeId} {fr : Nat × Nat} (vs : List Value) : ∀ {w : World} {cs : Array Value} (i : Nat), w.heap[X]? = some (.cells cs T fr) → (setAll w X i vs).heap[X]? = some (.cells (putAll cs i vs) T fr) := by
  induction vs with
  | nil => intro w cs i h; exact h
  | cons v vs ih => intro w cs i h; exact ih (i + 1) (set_at h v)

def OkIdent (W : World) (a : List Int × List Int) (v : Value) (w : World) : Prop := ∃ va vs, v = .agg #[va, vs] ∧ Got W w va a.1 ∧ Got W w vs a.2 ∧ a.1.length ≤ 65536 ∧ a.2.length ≤ 65536

set_option maxHeartbeats 800000 in
theorem readident_rt {R : Nat} {p : Value} {s : List Int × Bool} {W w : World} (h : RT R p s W w) :
    Calls Try.prog 89 #[.pointer (some ⟨R, 0, none⟩)] w (Ans pI R p s W (OkIdent w)) := by
  go_enter Try.func89, Try.ntmps89
  go_wp2_with fail
  obtain ⟨W0, X, hW, hX, hb, hoW, hX1, hX2⟩ := new_block w (.cells #[.slice none 0 0, .slice none 0 0] 35)
  rw [← hW, ← hX]
  clear hW hX
  have hWX : W.heap.size ≤ X := Nat.le_trans h.only.size hX1
  have hRX : X ∉ [R] := by have := h.rlt; simp; omega
  refine (rbytes_rt (h.new hoW).here).mono ?_
  rintro e w1 ⟨v1, x1, s1, H1, rfl, g1, l1, r1⟩
  obtain ⟨⟨a1, c1, rfl⟩, _⟩ := id g1
  go_wp2_with fail
  refine (rbytes_rt r1.here).mono ?_
  rintro e w2 ⟨v2, x2, s2, H2, rfl, g2, l2, r2⟩
  obtain ⟨⟨a2, c2, rfl⟩, _⟩ := id g2
  have hb2 := (r1.back r2).only.at hb hRX
  have k1 := g1.next r2.only (by have := (h.new hoW).here.rlt; simpa using this)
  have e0 := cell_in hb2 0
  have e1 := cell_in hb2 1
  have f0 := free_in hb2 0
  have f1 := free_in hb2 1
  go_wp2_with fail
  have hb3 := (set_at (i := 1) (set_at (i := 0) hb2 (.slice a1 x1.length c1)) (.slice a2 x2.length c2))
  have d0 := cell_in hb3 0
  have d1 := cell_in hb3 1
  have ho : Only w2 ((w2.setCell ⟨X, 0, none⟩ (.slice a1 x1.length c1)).setCell ⟨X, 1, none⟩ (.slice a2 x2.length c2)) [X] := by repeat (first | exact Only.setCell _ _ _ _ (by simp) | refine Only.trans ?_ (Only.setCell _ _ _ _ (by simp)))
  generalize ((w2.setCell ⟨X, 0, none⟩ (.slice a1 x1.length c1)).setCell ⟨X, 1, none⟩ (.slice a2 x2.length c2)) = w3 at *
  simp at d0 d1
  have hX0 : ∀ k ∈ [X], k < W0.heap.size := by simpa using hX2
  refine bodyPost_ret (v := .agg #[.slice a1 x1.length c1, .slice a2 x2.length c2]) (by simp [results, Try.results89, go_sem, d0, d1]) rfl ?_
  refine ⟨(x1, x2), s2, _, by simp [pI, H1.out, H2.out], rfl, ⟨_, _, rfl, (k1.next ho hX0).mono hoW.size, ((g2.mono r1.only.size).next ho hX0).mono hoW.size, l1, l2⟩, ((h.new hoW).back (r1.back r2)).keep ho (by simpa using hWX)⟩

/-- What is read of a Hello. -/
structure HelloD where
  ag : List Int
  sg : List Int
  key : List Int
  signed : Int
  has : Bool
  once : Int

def pH (s : List Int × Bool) : HelloD × List Int × Bool :=
  let i := pI s
  let k := pB i.2
  let g := pN k.2
  let h := pF g.2
  if h.1 then let o := pN h.2; (⟨i.1.1, i.1.2, k.1, g.1, true, o.1⟩, o.2) else (⟨i.1.1, i.1.2, k.1, g.1, false, 0⟩, h.2)

structure GotH (W w : World) (a : HelloD) (va vs vk : Value) : Prop where
  ga : Got W w va a.ag
  gs : Got W w vs a.sg
  gk : Got W w vk a.key
  la : a.ag.length ≤ 65536
  ls : a.sg.length ≤ 65536
  lk : a.key.length ≤ 65536
  us : U32 a.signed
  uo : U32 a.once
theorem GotH.next {W w w' : World} {a : HelloD} {va vs vk : Value} {L : List Nat} (h : GotH W w a va vs vk) (ho : Only w w' L) (hL : ∀ k ∈ L, k < W.heap.size) : GotH W w' a va vs vk :=
  ⟨h.ga.next ho hL, h.gs.next ho hL, h.gk.next ho hL, h.la, h.ls, h.lk, h.us, h.uo⟩
theorem Got.keep {W w w' : World} {v : Value} {xs : List Int} {L : List Nat} (h : Got W w v xs) (ho : Only w w' L) (hL : ∀ k ∈ L, k < W.heap.size ∨ w.heap.size ≤ k) : Got W w' v xs := by
  obtain ⟨h1, h2, h3, h4⟩ := h
  refine ⟨h1, Src.off h2 ho (fun hm k hk hkL => ?_), h3, h4⟩
  have a1 := h3 k hk
  have a2 := Src.lt h2 (by decide) hm k hk
  rcases hL k hkL with h | h <;> omega
theorem GotH.keep {W w w' : World} {a : HelloD} {va vs vk : Value} {L : List Nat} (h : GotH W w a va vs vk) (ho : Only w w' L) (hL : ∀ k ∈ L, k < W.heap.size ∨ w.heap.size ≤ k) : GotH W w' a va vs vk :=
  ⟨h.ga.keep ho hL, h.gs.keep ho hL, h.gk.keep ho hL, h.la, h.ls, h.lk, h.us, h.uo⟩
theorem GotH.mono {W W' w : World} {a : HelloD} {va vs vk : Value} (h : GotH W w a va vs vk) (hs : W'.heap.size ≤ W.heap.size) : GotH W' w a va vs vk :=
  ⟨h.ga.mono hs, h.gs.mono hs, h.gk.mono hs, h.la, h.ls, h.lk, h.us, h.uo⟩
def OkHello (W : World) (a : HelloD) (v : Value) (w : World) : Prop := ∃ va vs vk, v = .agg #[va, vs, vk, .int .u32 a.signed, .bool a.has, .int .u32 a.once] ∧ GotH W w a va vs vk

set_option maxRecDepth 100000 in
set_option maxHeartbeats 1600000 in
theorem readhello_rt {R : Nat} {p : Value} {s : List Int × Bool} {W w : World} (h : RT R p s W w) :
    Calls Try.prog 73 #[.pointer (some ⟨R, 0, none⟩)] w (Ans pH R p s W (OkHello w)) := by
  go_enter Try.func73, Try.ntmps73
  go_wp2_with fail
  obtain ⟨W0, X, hW, hX, hb, hoW, hX1, hX2⟩ := new_block w (.cells #[.slice none 0 0, .slice none 0 0, .slice none 0 0, .int .u32 0, .bool false, .int .u32 0] 37)
  rw [← hW, ← hX]
  clear hW hX
  have hWX : W.heap.size ≤ X := Nat.le_trans h.only.size hX1
  have hRX : X ∉ [R] := by have := h.rlt; simp; omega
  refine (readident_rt (h.new hoW).here).mono ?_
  rintro e w1 ⟨⟨x1, x2⟩, s1, v1, H1, rfl, ⟨va, vs, rfl, g1, g2, l1, l2⟩, r1⟩
  obtain ⟨⟨a1, c1, rfl⟩, _⟩ := id g1
  obtain ⟨⟨a2, c2, rfl⟩, _⟩ := id g2
  have H1 := Lib.hid H1
  go_wp2_with fail
  refine (rbytes_rt r1.here).mono ?_
  rintro e w2 ⟨v3, x3, s2, H2, rfl, g3, l3, r2⟩
  obtain ⟨⟨a3, c3, rfl⟩, _⟩ := id g3
  go_wp2_with fail
  refine (rnum_rt r2.here).mono ?_
  rintro e w3 ⟨n4, s3, H3, rfl, lo4, hi4, r3⟩
  go_wp2_with fail
  refine (rflag_rt r3.here).mono ?_
  rintro e w4 ⟨b5, s4, H4, rfl, r4⟩
  have r04 : RT R p s4 W0 w4 := ((r1.back r2).back r3).back r4
  have hR0 : ∀ k ∈ [R], k < W0.heap.size := by have := (h.new hoW).here.rlt; simpa using this
  have g1 := ((g1.next r2.only hR0).next r3.only hR0).next r4.only hR0
  have g2 := ((g2.next r2.only hR0).next r3.only hR0).next r4.only hR0
  have g3 := ((g3.mono r1.only.size).next r3.only hR0).next r4.only hR0
  have hb4 := r04.only.at hb hRX
  cases b5
  · have e0 := cell_al (cell_in hb4 0)
    have e1 := cell_al (cell_in hb4 1)
    have e2 := cell_al (cell_in hb4 2)
    have e3 := cell_al (cell_in hb4 3)
    have e4 := cell_al (cell_in hb4 4)
    have e5 := cell_al (cell_in hb4 5)
    have f0 := free_al (cell_in hb4 0) (free_in hb4 0)
    have f1 := free_al (cell_in hb4 1) (free_in hb4 1)
    have f2 := free_al (cell_in hb4 2) (free_in hb4 2)
    have f3 := free_al (cell_in hb4 3) (free_in hb4 3)
    have f4 := free_al (cell_in hb4 4) (free_in hb4 4)
    have f5 := free_al (cell_in hb4 5) (free_in hb4 5)
    go_wp2_with fail
    have hbV := (Only.alloc w4 (.cells #[.slice a1 x1.length c1, .slice a2 x2.length c2, .slice a3 x3.length c3, .int .u32 n4, .bool false, .int .u32 0] 37) []).at hb4 (by simp)
    have hoV := Only.alloc w4 (.cells #[.slice a1 x1.length c1, .slice a2 x2.length c2, .slice a3 x3.length c3, .int .u32 n4, .bool false, .int .u32 0] 37) []
    generalize hE : (((((((w4.alloc (.cells #[.slice a1 x1.length c1, .slice a2 x2.length c2, .slice a3 x3.length c3, .int .u32 n4, .bool false, .int .u32 0] 37)).setCell ⟨X, 0, none⟩ (.slice a1 x1.length c1)).setCell ⟨X, 1, none⟩ (.slice a2 x2.length c2)).setCell ⟨X, 2, none⟩ (.slice a3 x3.length c3)).setCell ⟨X, 3, none⟩ (.int .u32 n4)).setCell ⟨X, 4, none⟩ (.bool false)).setCell ⟨X, 5, none⟩ (.int .u32 0)) = wE
    have hE0 : wE = setAll (w4.alloc (.cells #[.slice a1 x1.length c1, .slice a2 x2.length c2, .slice a3 x3.length c3, .int .u32 n4, .bool false, .int .u32 0] 37)) X 0 [.slice a1 x1.length c1, .slice a2 x2.length c2, .slice a3 x3.length c3, .int .u32 n4, .bool false, .int .u32 0] := hE.symm
    clear hE
    have hoE : Only (w4.alloc (.cells #[.slice a1 x1.length c1, .slice a2 x2.length c2, .slice a3 x3.length c3, .int .u32 n4, .bool false, .int .u32 0] 37)) wE [X] := hE0 ▸ setAll_only _ _ _ _
    have hbE : wE.heap[X]? = _ := hE0 ▸ setAll_at _ 0 hbV
    have d0 : wE.cell? ⟨X, 0, none⟩ = some (.slice a1 x1.length c1) := (cell_in hbE 0).trans rfl
    have d1 : wE.cell? ⟨X, 1, none⟩ = some (.slice a2 x2.length c2) := (cell_in hbE 1).trans rfl
    have d2 : wE.cell? ⟨X, 2, none⟩ = some (.slice a3 x3.length c3) := (cell_in hbE 2).trans rfl
    have d3 : wE.cell? ⟨X, 3, none⟩ = some (.int .u32 n4) := (cell_in hbE 3).trans rfl
    have d4 : wE.cell? ⟨X, 4, none⟩ = some (.bool false) := (cell_in hbE 4).trans rfl
    have d5 : wE.cell? ⟨X, 5, none⟩ = some (.int .u32 0) := (cell_in hbE 5).trans rfl
    clear hE0
    have hX0 : ∀ k ∈ [X], k < W0.heap.size := by simpa using hX2
    refine bodyPost_ret (v := .agg #[.slice a1 x1.length c1, .slice a2 x2.length c2, .slice a3 x3.length c3, .int .u32 n4, .bool false, .int .u32 0]) (by simp [results, Try.results73, go_sem, d0, d1, d2, d3, d4, d5]) rfl ?_
    refine ⟨⟨x1, x2, x3, n4, false, 0⟩, s4, _, by simp [pH, H1.out, H2.out, H3.out, H4.out], rfl, ⟨_, _, _, rfl, ((GotH.next (L := []) ⟨g1, g2, g3, l1, l2, l3, ⟨lo4, hi4⟩, by simp [U32]⟩ hoV (by simp)).next hoE hX0).mono hoW.size⟩, (((h.new hoW).back r04).new hoV).keep hoE (by simpa using hWX)⟩
  · go_wp2_with fail
    obtain ⟨W5, Y, hW, hY, hy, hoY, hY1, hY2⟩ := new_block w4 (.cells #[.slice a1 x1.length c1, .slice a2 x2.length c2, .slice a3 x3.length c3, .int .u32 n4, .bool true, .int .u32 0] 37)
    rw [← hW, ← hY]
    clear hW hY
    have hRY : Y ∉ [R] := by have := r4.here.rlt; simp; omega
    refine (rnum_rt (r4.here.new hoY).here).mono ?_
    rintro e w5 ⟨n6, s5, H5, rfl, lo6, hi6, r5⟩
    have hy5 := r5.only.at hy hRY
    have hb5 := r5.only.at (hoY.at hb4 (by simp)) hRX
    have hne : X ≠ Y := by have := (Array.getElem?_eq_some_iff.1 hb4).1; omega
    have hne' : Y ≠ X := fun h => hne h.symm
    have y0 := cell_in hy5 0
    have y1 := cell_in hy5 1
    have y2 := cell_in hy5 2
    have y3 := cell_in hy5 3
    have y4 := cell_in hy5 4
    have y5 := cell_in hy5 5
    have yf0 := free_in hy5 0
    have yf1 := free_in hy5 1
    have yf2 := free_in hy5 2
    have yf3 := free_in hy5 3
    have yf4 := free_in hy5 4
    have yf5 := free_in hy5 5
    have x_0 := cell_in hb5 0
    have x_1 := cell_in hb5 1
    have x_2 := cell_in hb5 2
    have x_3 := cell_in hb5 3
    have x_4 := cell_in hb5 4
    have x_5 := cell_in hb5 5
    have xf0 := free_in hb5 0
    have xf1 := free_in hb5 1
    have xf2 := free_in hb5 2
    have xf3 := free_in hb5 3
    have xf4 := free_in hb5 4
    have xf5 := free_in hb5 5
    go_wp2_with fail
    have hoV : Only w5 (w5.setCell ⟨Y, 5, none⟩ (.int .u32 n6)) [Y] := Only.setCell _ _ _ _ (by simp)
    have hbV := hoV.at hb5 (by simpa using hne)
    generalize hE : (((((((w5.setCell ⟨Y, 5, none⟩ (.int .u32 n6)).setCell ⟨X, 0, none⟩ (.slice a1 x1.length c1)).setCell ⟨X, 1, none⟩ (.slice a2 x2.length c2)).setCell ⟨X, 2, none⟩ (.slice a3 x3.length c3)).setCell ⟨X, 3, none⟩ (.int .u32 n4)).setCell ⟨X, 4, none⟩ (.bool true)).setCell ⟨X, 5, none⟩ (.int .u32 n6)) = wE
    have hE0 : wE = setAll (w5.setCell ⟨Y, 5, none⟩ (.int .u32 n6)) X 0 [.slice a1 x1.length c1, .slice a2 x2.length c2, .slice a3 x3.length c3, .int .u32 n4, .bool true, .int .u32 n6] := hE.symm
    clear hE
    have hoE : Only (w5.setCell ⟨Y, 5, none⟩ (.int .u32 n6)) wE [X] := hE0 ▸ setAll_only _ _ _ _
    have hbE : wE.heap[X]? = _ := hE0 ▸ setAll_at _ 0 hbV
    have d0 : wE.cell? ⟨X, 0, none⟩ = some (.slice a1 x1.length c1) := (cell_in hbE 0).trans rfl
    have d1 : wE.cell? ⟨X, 1, none⟩ = some (.slice a2 x2.length c2) := (cell_in hbE 1).trans rfl
    have d2 : wE.cell? ⟨X, 2, none⟩ = some (.slice a3 x3.length c3) := (cell_in hbE 2).trans rfl
    have d3 : wE.cell? ⟨X, 3, none⟩ = some (.int .u32 n4) := (cell_in hbE 3).trans rfl
    have d4 : wE.cell? ⟨X, 4, none⟩ = some (.bool true) := (cell_in hbE 4).trans rfl
    have d5 : wE.cell? ⟨X, 5, none⟩ = some (.int .u32 n6) := (cell_in hbE 5).trans rfl
    clear hE0
    have hX0 : ∀ k ∈ [X], k < W0.heap.size := by simpa using hX2
    refine bodyPost_ret (v := .agg #[.slice a1 x1.length c1, .slice a2 x2.length c2, .slice a3 x3.length c3, .int .u32 n4, .bool true, .int .u32 n6]) (by simp [results, Try.results73, go_sem, d0, d1, d2, d3, d4, d5]) rfl ?_
    have hWY : ∀ k ∈ [Y], W0.heap.size ≤ k := by have := r04.only.size; simp; omega
    have hRr := hR0 R (by simp)
    have hoT : Only w4 wE [R, Y, X] := (((hoY.mono (by simp)).trans (r5.only.mono (fun k _ hk => by simp at hk; simp [hk]))).trans (hoV.mono (fun k _ hk => by simp at hk; simp [hk]))).trans (hoE.mono (fun k _ hk => by simp at hk; simp [hk]))
    have k2 := (GotH.mk (W := W0) (w := w4) (a := ⟨x1, x2, x3, n4, true, n6⟩) g1 g2 g3 l1 l2 l3 ⟨lo4, hi4⟩ ⟨lo6, hi6⟩).keep hoT (by simp; omega)
    exact ⟨⟨x1, x2, x3, n4, true, n6⟩, s5, _, by simp [pH, H1.out, H2.out, H3.out, H4.out, H5.out], rfl, ⟨_, _, _, rfl, k2.mono hoW.size⟩, ((((h.new hoW).back r04).back ((r4.here.new hoY).back r5)).keep hoV (fun k hk => Nat.le_trans (Nat.le_trans h.only.size hoW.size) (hWY k hk))).keep hoE (by simpa using hWX)⟩

end Go.Proofs.Yticojdepepkdlaa

/- The contract of package envelope's DecodeInner at any bytes, fewer than 1000000001 of them. -/
namespace Go.Proofs.Yticojdepepkdlaa
open Go.RowKit Go.Pw
set_option linter.unusedVariables false

theorem rend_rt {R : Nat} {p : Value} {s : List Int × Bool} {W w : World} (h : RT R p s W w) :
    Calls Try.prog 75 #[.pointer (some ⟨R, 0, none⟩)] w fun e w' => e = .returned (.bool (!s.2 && decide (s.1.length = 0))) ∧ w = w' := by
  obtain ⟨⟨p1, h1, h2⟩, h3⟩ := id h.rs
  exact rend_any R p1 s.1 s.2 w h2

/-- A Reader made anew. -/
theorem rt_new {w w' : World} {R : Nat} {ao : Option Addr} {c : Nat} {ps : List Int} (h : Rd w (.slice ao ps.length c) ps) (hb : Byt ps) (hl : ps.length ≤ 1000000000) (ho : Only w w' []) (hR : w'.heap[R]? = some (.cells #[.slice ao ps.length c, .bool false] 151 (0, 0))) : RT R (.slice ao ps.length c) (ps, false) w' w' :=
  ⟨⟨⟨_, rfl, hR, h.new ho, hb⟩, Only.refl _ _⟩, hl, Nat.le_refl _, fun hm k hk => Nat.lt_of_lt_of_le (Src.lt h (by decide) hm k hk) ho.size, (Array.getElem?_eq_some_iff.1 hR).1⟩

/-- All was read, without a fault. -/
def Ends (s : List Int × Bool) : Bool := !s.2 && decide (s.1.length = 0)

def pInner (s : List Int × Bool) : (Int × Int × List Int) × List Int × Bool :=
  let a := pN s
  let b := pN a.2
  let c := pB b.2
  ((a.1, b.1, c.1), c.2)

/-- What DecodeInner answers. -/
def DecI (ps : List Int) (w : World) (e : Ending) (w' : World) : Prop :=
  ∃ u n ts s, pInner (ps, false) = ((u, n, ts), s) ∧ U32 u ∧ U32 n ∧ Byt ts ∧ Only w w' [] ∧
    ((Ends s = true ∧ ts.length ≤ 256 ∧ ∃ vt, e = .returned (.tuple #[.agg #[.int .i64 u, .int .u32 n, vt], .int .i64 0]) ∧ Got w w' vt ts) ∨
     (Ends s = true ∧ 256 < ts.length ∧ e = .returned (.tuple #[.agg #[.int .i64 0, .int .u32 0, .slice none 0 0], .int .i64 5])) ∨
     (Ends s = false ∧ e = .returned (.tuple #[.agg #[.int .i64 0, .int .u32 0, .slice none 0 0], .int .i64 4])))

end Go.Proofs.Yticojdepepkdlaa

/- Plain laws of layer 14: what is laid is read back. -/
namespace Go.Proofs.Yticojdepepkdlaa
open Go.RowKit Go.Pw
set_option linter.unusedVariables false

theorem pN_be (n : Int) (l : List Int) (h : U32 n) : pN (be n 4 ++ l, false) = (n, l, false) := RN_be n 4 l h.1 (by rw [pow4]; exact h.2) (by decide)
theorem pB_be (ps l : List Int) (h : ps.length ≤ 65536) : pB (be ps.length 4 ++ ps ++ l, false) = (ps, l, false) := by
  obtain ⟨h1, h2, h3, h4⟩ := RB_be ps l 65536 (by omega) (by omega)
  unfold pB
  simp only
  rw [h1]
  simp only
  rw [h2, h3, h4]
theorem pB_be0 (ps : List Int) (h : ps.length ≤ 65536) : pB (be ps.length 4 ++ ps, false) = (ps, [], false) := by
  have := pB_be ps [] h
  simpa using this
theorem be_one (n : Int) (h0 : 0 ≤ n) (h1 : n < 256) : be n 1 = [n] := by
  simp [be]; omega
theorem pF_be (b : Bool) (l : List Int) : pF ([if b then 1 else 0] ++ l, false) = (b, l, false) := by
  have h : RN 1 ([if b then 1 else 0] ++ l) false = ((if b then 1 else 0), l, false) := by
    have := RN_be (if b then 1 else 0) 1 l (by cases b <;> decide) (by cases b <;> decide) (by decide)
    rwa [be_one _ (by cases b <;> decide) (by cases b <;> decide)] at this
  unfold pF
  simp only
  rw [h]
  cases b <;> rfl

theorem u32_u (u : Int) : U32 (IntKind.u32.wrap u) := ⟨u32_lo u, by simp [IntKind.wrap, IntKind.bits, IntKind.signed]; omega⟩

theorem pInner_be (u n : Int) (ts : List Int) (hn : U32 n) (ht : ts.length ≤ 65536) : pInner (innerB u n ts, false) = ((IntKind.u32.wrap u, n, ts), [], false) := by
  have e : innerB u n ts = be (IntKind.u32.wrap u) 4 ++ (be n 4 ++ (be ts.length 4 ++ ts)) := by simp [innerB]
  unfold pInner
  rw [e]
  simp only
  rw [pN_be _ _ (u32_u u)]
  simp only
  rw [pN_be _ _ hn]
  simp only
  rw [pB_be0 ts ht]

theorem innerB_byt (u n : Int) (ts : List Int) (h : Byt ts) : Byt (innerB u n ts) := (((be_byt _ _).app (be_byt _ _)).app (be_byt _ _)).app h
theorem innerB_len (u n : Int) (ts : List Int) : (innerB u n ts).length = ts.length + 12 := by simp [innerB, be_len]; omega
end Go.Proofs.Yticojdepepkdlaa

/- The contract of envelope.ReadHello at any bytes; what Hello has laid is read back. -/
namespace Go.Proofs.Yticojdepepkdlaa
open Go.RowKit Go.Pw
set_option linter.unusedVariables false

/-- What ReadHello answers. -/
def DecH (ps : List Int) (w : World) (e : Ending) (w' : World) : Prop :=
  ∃ a s, pH (ps, false) = (a, s) ∧ Only w w' [] ∧
    ((Ends s = true ∧ ∃ va vs vk, e = .returned (.tuple #[.agg #[va, vs, vk, .int .u32 a.signed, .bool a.has, .int .u32 a.once], .int .i64 0]) ∧ GotH w w' a va vs vk) ∨
     (Ends s = false ∧ e = .returned (.tuple #[.agg #[.slice none 0 0, .slice none 0 0, .slice none 0 0, .int .u32 0, .bool false, .int .u32 0], .int .i64 4])))

/-- What Hello has laid is read back. -/
theorem pI_be (a s l : List Int) (ha : a.length ≤ 65536) (hs : s.length ≤ 65536) : pI (identB a s ++ l, false) = ((a, s), l, false) := by
  have e : identB a s ++ l = be a.length 4 ++ a ++ (be s.length 4 ++ s ++ l) := by simp [identB]
  unfold pI
  rw [e]
  simp only
  rw [pB_be a _ ha]
  simp only
  rw [pB_be s _ hs]
theorem pH_be (a s k l : List Int) (sg : Int) (has : Bool) (on : Int) (ha : a.length ≤ 65536) (hs : s.length ≤ 65536) (hk : k.length ≤ 65536) (hsg : U32 sg) (hon : U32 on) :
    pH (helloB a s k sg has on ++ l, false) = (⟨a, s, k, sg, has, if has then on else 0⟩, l, false) := by
  have e : helloB a s k sg has on ++ l = identB a s ++ (be k.length 4 ++ k ++ (be sg 4 ++ ([if has then 1 else 0] ++ ((if has then be on 4 else []) ++ l)))) := by simp [helloB]
  unfold pH
  rw [e]
  simp only
  rw [pI_be a s _ ha hs]
  simp only
  rw [pB_be k _ hk]
  simp only
  rw [pN_be sg _ hsg]
  simp only
  rw [pF_be has]
  cases has
  · simp
  · simp only [if_true]
    rw [pN_be on _ hon]
end Go.Proofs.Yticojdepepkdlaa

/- The contract of envelope.DecodeBundle at any bytes; what EncodeBundle has laid is read back. -/
namespace Go.Proofs.Yticojdepepkdlaa
open Go.RowKit Go.Pw
set_option linter.unusedVariables false

theorem putAll_at (vs : List Value) : ∀ (cs : Array Value) (i j : Nat), i + vs.length ≤ cs.size → (putAll cs i vs)[j]? = if i ≤ j ∧ j < i + vs.length then vs[j - i]? else cs[j]? := by
  induction vs with
  | nil => intro cs i j _; simp [putAll]; omega
  | cons v vs ih =>
    intro cs i j h
    simp only [List.length_cons] at h
    rw [putAll, ih _ _ _ (by simp; omega), Array.getElem?_setIfInBounds]
    by_cases e : i = j
    · subst e
      have g1 : ¬ (i + 1 ≤ i ∧ i < i + 1 + vs.length) := by omega
      have g2 : i ≤ i ∧ i < i + (v :: vs).length := by simp only [List.length_cons]; omega
      rw [if_neg g1, if_pos rfl, if_pos (by omega), if_pos g2, Nat.sub_self]
      rfl
    · by_cases g : i + 1 ≤ j ∧ j < i + 1 + vs.length
      · have g2 : i ≤ j ∧ j < i + (v :: vs).length := by simp only [List.length_cons]; omega
        rw [if_pos g, if_pos g2, show j - i = (j - (i + 1)) + 1 by omega]
        simp
      · have g2 : ¬ (i ≤ j ∧ j < i + (v :: vs).length) := by simp only [List.length_cons]; omega
        rw [if_neg g, if_neg g2, if_neg e]
theorem setAll_lit {X : Nat} {T : TypeId} {fr : Nat × Nat} {w : World} {cs : Array Value} (vs : List Value) (h : w.heap[X]? = some (.cells cs T fr)) (hz : cs.size = vs.length) : (setAll w X 0 vs).heap[X]? = some (.cells vs.toArray T fr) := by
  rw [setAll_at vs 0 h]
  congr 2
  apply Array.ext_getElem?
  intro j
  rw [putAll_at vs cs 0 j (by omega)]
  by_cases g : j < vs.length
  · simp [g]
  · simp [g]
    omega

structure BundD where
  u : Int
  d : Int
  ag : List Int
  sg : List Int
  signed : Int
  key : List Int
  sig : List Int
  has : Bool
  once : Int
  oncek : List Int

def pBd (s : List Int × Bool) : BundD × List Int × Bool :=
  let a := pW s
  let i := pI a.2
  let n := pN i.2
  let k := pB n.2
  let q := pB k.2
  let h := pF q.2
  if h.1 then
    let o := pN h.2
    let y := pB o.2
    (⟨a.1.1, a.1.2, i.1.1, i.1.2, n.1, k.1, q.1, true, o.1, y.1⟩, y.2)
  else (⟨a.1.1, a.1.2, i.1.1, i.1.2, n.1, k.1, q.1, false, 0, []⟩, h.2)

structure GotB (W w : World) (a : BundD) (va vs vk vq vo : Value) : Prop where
  ga : Got W w va a.ag
  gs : Got W w vs a.sg
  gk : Got W w vk a.key
  gq : Got W w vq a.sig
  go : Got W w vo a.oncek
  la : a.ag.length ≤ 65536
  ls : a.sg.length ≤ 65536
  lk : a.key.length ≤ 65536
  lq : a.sig.length ≤ 65536
  lo : a.oncek.length ≤ 65536
  uu : U32 a.u
  ud : U32 a.d
  us : U32 a.signed
  uo : U32 a.once
theorem GotB.next {W w w' : World} {a : BundD} {va vs vk vq vo : Value} {L : List Nat} (h : GotB W w a va vs vk vq vo) (ho : Only w w' L) (hL : ∀ k ∈ L, k < W.heap.size) : GotB W w' a va vs vk vq vo :=
  ⟨h.ga.next ho hL, h.gs.next ho hL, h.gk.next ho hL, h.gq.next ho hL, h.go.next ho hL, h.la, h.ls, h.lk, h.lq, h.lo, h.uu, h.ud, h.us, h.uo⟩
theorem GotB.keep {W w w' : World} {a : BundD} {va vs vk vq vo : Value} {L : List Nat} (h : GotB W w a va vs vk vq vo) (ho : Only w w' L) (hL : ∀ k ∈ L, k < W.heap.size ∨ w.heap.size ≤ k) : GotB W w' a va vs vk vq vo :=
  ⟨h.ga.keep ho hL, h.gs.keep ho hL, h.gk.keep ho hL, h.gq.keep ho hL, h.go.keep ho hL, h.la, h.ls, h.lk, h.lq, h.lo, h.uu, h.ud, h.us, h.uo⟩
theorem GotB.mono {W W' w : World} {a : BundD} {va vs vk vq vo : Value} (h : GotB W w a va vs vk vq vo) (hs : W'.heap.size ≤ W.heap.size) : GotB W' w a va vs vk vq vo :=
  ⟨h.ga.mono hs, h.gs.mono hs, h.gk.mono hs, h.gq.mono hs, h.go.mono hs, h.la, h.ls, h.lk, h.lq, h.lo, h.uu, h.ud, h.us, h.uo⟩

/-- A bundle, as a value. -/
def bdV (a : BundD) (va vs vk vq vo : Value) : Value := .agg #[.int .i64 a.u, .int .i64 a.d, va, vs, .int .u32 a.signed, vk, vq, .bool a.has, .int .u32 a.once, vo]
def bd0 : Value := .agg #[.int .i64 0, .int .i64 0, .slice none 0 0, .slice none 0 0, .int .u32 0, .slice none 0 0, .slice none 0 0, .bool false, .int .u32 0, .slice none 0 0]

/-- What DecodeBundle answers. -/
def DecB (ps : List Int) (w : World) (e : Ending) (w' : World) : Prop :=
  ∃ a s, pBd (ps, false) = (a, s) ∧ Only w w' [] ∧
    ((Ends s = true ∧ ∃ va vs vk vq vo, e = .returned (.tuple #[bdV a va vs vk vq vo, .int .i64 0]) ∧ GotB w w' a va vs vk vq vo) ∨
     (Ends s = false ∧ e = .returned (.tuple #[bd0, .int .i64 4])))

theorem pW_be (u d : Int) (l : List Int) : pW (whoB u d ++ l, false) = ((IntKind.u32.wrap u, IntKind.u32.wrap d), l, false) := by
  have e : whoB u d ++ l = be (IntKind.u32.wrap u) 4 ++ (be (IntKind.u32.wrap d) 4 ++ l) := by simp [whoB]
  unfold pW
  rw [e]
  simp only
  rw [pN_be _ _ (u32_u u)]
  simp only
  rw [pN_be _ _ (u32_u d)]
theorem pBd_be (u d : Int) (a s : List Int) (sg : Int) (k q : List Int) (has : Bool) (on : Int) (os : List Int) (ha : a.length ≤ 65536) (hs : s.length ≤ 65536) (hk : k.length ≤ 65536) (hq : q.length ≤ 65536) (ho : os.length ≤ 65536) (hsg : U32 sg) (hon : U32 on) :
    pBd (bundleB u d a s sg k q has on os, false) = (⟨IntKind.u32.wrap u, IntKind.u32.wrap d, a, s, sg, k, q, has, if has then on else 0, if has then os else []⟩, [], false) := by
  have e : bundleB u d a s sg k q has on os = whoB u d ++ (identB a s ++ (be sg 4 ++ (be k.length 4 ++ k ++ (be q.length 4 ++ q ++ ([if has then 1 else 0] ++ if has then be on 4 ++ (be os.length 4 ++ os) else []))))) := by simp [bundleB]
  unfold pBd
  rw [e]
  simp only
  rw [pW_be]
  simp only
  rw [pI_be a s _ ha hs]
  simp only
  rw [pN_be sg _ hsg]
  simp only
  rw [pB_be k _ hk]
  simp only
  rw [pB_be q _ hq]
  simp only
  rw [pF_be has]
  cases has
  · simp
  · simp only [if_true]
    rw [pN_be on _ hon]
    simp only
    rw [pB_be0 os ho]
end Go.Proofs.Yticojdepepkdlaa

/- The contract of envelope.Decode at any bytes; what Encode has laid is read back. -/
namespace Go.Proofs.Yticojdepepkdlaa
open Go.RowKit Go.Pw
set_option linter.unusedVariables false

structure EnvD where
  fu : Int
  fd : Int
  tu : Int
  td : Int
  ss : List Int
  has : Bool
  h : HelloD
  dks : List Int
  dp : Int
  dn : Int
  sls : List Int

def h0 : HelloD := ⟨[], [], [], 0, false, 0⟩
def pOH (b : Bool) (s : List Int × Bool) : HelloD × List Int × Bool := if b then pH s else (h0, s)
def pEnv (s : List Int × Bool) : EnvD × List Int × Bool :=
  let a := pW s
  let b := pW a.2
  let t := pB b.2
  let h := pF t.2
  let l := pOH h.1 h.2
  let k := pB l.2
  let p := pN k.2
  let n := pN p.2
  let z := pB n.2
  (⟨a.1.1, a.1.2, b.1.1, b.1.2, t.1, h.1, l.1, k.1, p.1, n.1, z.1⟩, z.2)

structure GotE (W w : World) (a : EnvD) (vs va vg vk vd vz : Value) : Prop where
  gs : Got W w vs a.ss
  gh : GotH W w a.h va vg vk
  gd : Got W w vd a.dks
  gz : Got W w vz a.sls
  ls : a.ss.length ≤ 65536
  ld : a.dks.length ≤ 65536
  lz : a.sls.length ≤ 65536
  ufu : U32 a.fu
  ufd : U32 a.fd
  utu : U32 a.tu
  utd : U32 a.td
  udp : U32 a.dp
  udn : U32 a.dn
theorem GotE.next {W w w' : World} {a : EnvD} {vs va vg vk vd vz : Value} {L : List Nat} (h : GotE W w a vs va vg vk vd vz) (ho : Only w w' L) (hL : ∀ k ∈ L, k < W.heap.size) : GotE W w' a vs va vg vk vd vz :=
  ⟨h.gs.next ho hL, h.gh.next ho hL, h.gd.next ho hL, h.gz.next ho hL, h.ls, h.ld, h.lz, h.ufu, h.ufd, h.utu, h.utd, h.udp, h.udn⟩
theorem GotE.mono {W W' w : World} {a : EnvD} {vs va vg vk vd vz : Value} (h : GotE W w a vs va vg vk vd vz) (hs : W'.heap.size ≤ W.heap.size) : GotE W' w a vs va vg vk vd vz :=
  ⟨h.gs.mono hs, h.gh.mono hs, h.gd.mono hs, h.gz.mono hs, h.ls, h.ld, h.lz, h.ufu, h.ufd, h.utu, h.utd, h.udp, h.udn⟩
theorem goth_nil (W w : World) : GotH W w h0 (.slice none 0 0) (.slice none 0 0) (.slice none 0 0) :=
  ⟨got_nil W w, got_nil W w, got_nil W w, by simp [h0], by simp [h0], by simp [h0], ⟨by simp [h0], by simp [h0]⟩, ⟨by simp [h0], by simp [h0]⟩⟩

def enV (a : EnvD) (vs va vg vk vd vz : Value) : Value := .agg #[.int .i64 a.fu, .int .i64 a.fd, .int .i64 a.tu, .int .i64 a.td, vs, .bool a.has, va, vg, vk, .int .u32 a.h.signed, .bool a.h.has, .int .u32 a.h.once, vd, .int .u32 a.dp, .int .u32 a.dn, vz]
def en0 : Value := .agg #[.int .i64 0, .int .i64 0, .int .i64 0, .int .i64 0, .slice none 0 0, .bool false, .slice none 0 0, .slice none 0 0, .slice none 0 0, .int .u32 0, .bool false, .int .u32 0, .slice none 0 0, .int .u32 0, .int .u32 0, .slice none 0 0]
def DecE (ps : List Int) (w : World) (e : Ending) (w' : World) : Prop :=
  ∃ a s, pEnv (ps, false) = (a, s) ∧ Only w w' [] ∧
    ((Ends s = true ∧ ∃ vs va vg vk vd vz, e = .returned (.tuple #[enV a vs va vg vk vd vz, .int .i64 0]) ∧ GotE w w' a vs va vg vk vd vz) ∨
     (Ends s = false ∧ e = .returned (.tuple #[en0, .int .i64 4])))


end Go.Proofs.Yticojdepepkdlaa

