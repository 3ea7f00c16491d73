/- The contracts of package envelope's reading side: readWho, readIdent, readHello, ReadHello, Decode, DecodeInner, DecodeBundle at any bytes, fewer than 1000000001 of them. -/
import Derived.Test.YtemlpjfngaemdaaEnvW
namespace Go.Proofs.Ytemlpjfngaemdaa
open Go.RowKit Go.Pw
set_option linter.unusedVariables false

/-- What is read next: a number of four bytes, bytes, a truth; and what is left: the rest, the fault. -/
def pN (s : List Int × Bool) : Int × List Int × Bool := RN 4 s.1 s.2
def pB (s : List Int × Bool) : List Int × List Int × Bool :=
  let r := RN 4 s.1 s.2
  let f := BF r.2.2 65536 r.1 r.2.1.length
  (BV f r.1 r.2.1, BR f r.1 r.2.1, f)
def pF (s : List Int × Bool) : Bool × List Int × Bool :=
  let r := RN 1 s.1 s.2
  (FV r.1, r.2.1, FB r.2.2 1 r.1)

/-- A slice that the call has made since W, which reads as xs. -/
def Got (W w : World) (v : Value) (xs : List Int) : Prop := (∃ ao c, v = .slice ao xs.length c) ∧ Rd w v xs ∧ (∀ k, v.ownBlock = some k → W.heap.size ≤ k) ∧ Byt xs

theorem Got.next {W w w' : World} {v : Value} {xs : List Int} {L : List Nat} (h : Got W w v xs) (ho : Only w w' L) (hL : ∀ k ∈ L, k < W.heap.size) : Got W w' v xs := by
  obtain ⟨h1, h2, h3, h4⟩ := h
  exact ⟨h1, Src.off h2 ho (fun _ k hk hm => by have := h3 k hk; have := hL k hm; omega), h3, h4⟩
theorem Got.mono {W W' w : World} {v : Value} {xs : List Int} (h : Got W w v xs) (hs : W'.heap.size ≤ W.heap.size) : Got W' w v xs := ⟨h.1, h.2.1, fun k hk => Nat.le_trans hs (h.2.2.1 k hk), h.2.2.2⟩
theorem got_nil (W w : World) : Got W w (.slice none 0 0) [] := ⟨⟨none, 0, rfl⟩, Rd.nil w, fun k hk => by simp [Value.ownBlock] at hk, fun x hx => by simp at hx⟩

/-- A Reader against the world W in which a chain began. -/
structure RT (R : Nat) (p : Value) (s : List Int × Bool) (W w : World) : Prop where
  rs : RS R p s.1 s.2 W w
  len : s.1.length ≤ 1000000000
  le : s.1.length ≤ slen p
  plt : 0 < slen p → ∀ k, p.ownBlock = some k → k < W.heap.size
  rlt : R < W.heap.size

theorem RT.only {R : Nat} {p : Value} {s : List Int × Bool} {W w : World} (h : RT R p s W w) : Only W w [R] := h.rs.2
theorem RT.step {R : Nat} {p p1 : Value} {s s' : List Int × Bool} {W w1 w2 : World} (h0 : RT R p s W w1) (hp : p1.ownBlock = p.ownBlock) (h : RS R p1 s'.1 s'.2 w1 w2) (hs : s'.1.length ≤ s.1.length) : RT R p s' W w2 := by
  obtain ⟨⟨p', h1, h2⟩, h3⟩ := h
  have := h0.len
  have := h0.le
  exact ⟨⟨⟨p', h1.trans hp, h2⟩, h0.only.trans h3⟩, by omega, by omega, h0.plt, h0.rlt⟩
theorem rs_new {R : Nat} {p : Value} {s : List Int × Bool} {w w' : World} {L : List Nat} (h : ∃ p', p'.ownBlock = p.ownBlock ∧ IsR 87 R p' s.1 s.2 w) (hl : s.1.length ≤ slen p) (ho : Only w w' L) (hR : R ∉ L) (hp : Off p L) : ∃ p', p'.ownBlock = p.ownBlock ∧ IsR 87 R p' s.1 s.2 w' := by
  obtain ⟨p', h1, h2, h3, h4⟩ := h
  refine ⟨p', h1, ho.at h2 hR, ?_, h4⟩
  refine Src.off h3 ho (fun hm k hk hkL => ?_)
  obtain ⟨ao, c, rfl, _⟩ := id h3
  exact hp (Nat.lt_of_lt_of_le hm hl) k (h1 ▸ hk) hkL
/-- Other blocks are written, new ones since W. -/
theorem RT.keep {R : Nat} {p : Value} {s : List Int × Bool} {W w w' : World} {L : List Nat} (h : RT R p s W w) (ho : Only w w' L) (hL : ∀ k ∈ L, W.heap.size ≤ k) : RT R p s W w' := by
  have hR : R ∉ L := fun hm => by have := hL R hm; have := h.rlt; omega
  have hp : Off p L := fun hm k hk hkL => by have := h.plt hm k hk; have := hL k hkL; omega
  exact ⟨⟨rs_new h.rs.1 h.le ho hR hp, h.only.step ho (fun i hi => .inr (hL i hi))⟩, h.len, h.le, h.plt, h.rlt⟩
theorem RT.new {R : Nat} {p : Value} {s : List Int × Bool} {W w w' : World} (h : RT R p s W w) (ho : Only w w' []) : RT R p s W w' := h.keep ho (by simp)
/-- The chain begun anew, at the world at hand. -/
theorem RT.here {R : Nat} {p : Value} {s : List Int × Bool} {W w : World} (h : RT R p s W w) : RT R p s w w :=
  ⟨⟨h.rs.1, Only.refl _ _⟩, h.len, h.le, fun hm k hk => Nat.lt_of_lt_of_le (h.plt hm k hk) h.only.size, Nat.lt_of_lt_of_le h.rlt h.only.size⟩
/-- A chain that was begun anew, seen from where the first began. -/
theorem RT.back {R : Nat} {p : Value} {s s' : List Int × Bool} {W w w' : World} (h : RT R p s W w) (k : RT R p s' w w') : RT R p s' W w' :=
  ⟨⟨k.rs.1, h.only.trans k.only⟩, k.len, k.le, h.plt, h.rlt⟩

theorem rnum_rt {R : Nat} {p : Value} {s : List Int × Bool} {W w : World} (h : RT R p s W w) :
    Calls Try.prog 25 #[.pointer (some ⟨R, 0, none⟩), .int .i64 4] w fun e w' => ∃ n s', Hid (pN s = (n, s')) ∧ e = .returned (.int .u64 n) ∧ 0 ≤ n ∧ n < 4294967296 ∧ RT R p s' W w' := by
  obtain ⟨⟨p1, h1, h2⟩, h3⟩ := id h.rs
  have h4 := h.len
  have hb := RN_bd 4 s.1 s.2 h2.2.2
  refine (rnum_any R p1 s.1 s.2 4 w h2 h4 (by decide)).mono ?_
  rintro e w' ⟨rfl, k⟩
  refine ⟨_, (RN 4 s.1 s.2).2, rfl, rfl, hb.1, by have := hb.2.1; rw [pow4] at this; exact this, RT.step h h1 k hb.2.2.1⟩

theorem rflag_rt {R : Nat} {p : Value} {s : List Int × Bool} {W w : World} (h : RT R p s W w) :
    Calls Try.prog 26 #[.pointer (some ⟨R, 0, none⟩)] w fun e w' => ∃ b s', Hid (pF s = (b, s')) ∧ e = .returned (.bool b) ∧ RT R p s' W w' := by
  obtain ⟨⟨p1, h1, h2⟩, h3⟩ := id h.rs
  have h4 := h.len
  have hb := RN_bd 1 s.1 s.2 h2.2.2
  refine (rflag_any R p1 s.1 s.2 w h2 h4).mono ?_
  rintro e w' ⟨rfl, k⟩
  exact ⟨_, (pF s).2, rfl, rfl, RT.step h h1 k hb.2.2.1⟩

theorem rbytes_rt {R : Nat} {p : Value} {s : List Int × Bool} {W w : World} (h : RT R p s W w) :
    Calls Try.prog 17 #[.pointer (some ⟨R, 0, none⟩), .int .i64 65536] w fun e w' => ∃ v xs s', Hid (pB s = (xs, s')) ∧ e = .returned v ∧ Got W w' v xs ∧ xs.length ≤ 65536 ∧ RT R p s' W w' := by
  obtain ⟨⟨p1, h1, h2⟩, h3⟩ := id h.rs
  have h4 := h.len
  have hb := RN_bd 4 s.1 s.2 h2.2.2
  refine (rbytes_any R p1 s.1 s.2 65536 w h2 h4 (by decide)).mono ?_
  rintro e w' ⟨v, rfl, g1, g2, k⟩
  obtain ⟨ao, c, rfl⟩ := own_slice g1
  have hl : (pB s).2.1.length ≤ s.1.length ∧ (pB s).1.length ≤ 65536 ∧ Byt (pB s).1 := by
    unfold pB
    simp only
    generalize hr : RN 4 s.1 s.2 = r at *
    cases hf : BF r.2.2 65536 r.1 r.2.1.length
    · simp only [BF, Bool.or_eq_false_iff, decide_eq_false_iff_not] at hf
      refine ⟨?_, ?_, fun y hy => hb.2.2.2 y ?_⟩
      · simp [BR]; omega
      · simp [BV]; omega
      · simp [BV] at hy; exact List.mem_of_mem_take hy
    · exact ⟨by simp [BR]; omega, by simp [BV], fun y hy => by simp [BV] at hy⟩
  refine ⟨_, (pB s).1, (pB s).2, rfl, rfl, ⟨⟨_, _, rfl⟩, own_rd g1, fun k hk => ?_, hl.2.2⟩, hl.2.1, RT.step h h1 k hl.1⟩
  rcases g2 k hk with h | h
  · simp [Value.ownBlock] at h
  · exact Nat.le_trans h3.size h

/-- A device; what is public of one; a Hello; as they are read. -/
def pW (s : List Int × Bool) : (Int × Int) × List Int × Bool :=
  let a := pN s
  let b := pN a.2
  ((a.1, b.1), b.2)
def pI (s : List Int × Bool) : (List Int × List Int) × List Int × Bool :=
  let a := pB s
  let b := pB a.2
  ((a.1, b.1), b.2)

/-- What a step of reading leaves: its answer r, and the Reader. -/
def Ans {α : Type} (f : List Int × Bool → α × List Int × Bool) (R : Nat) (p : Value) (s : List Int × Bool) (W : World) (ok : α → Value → World → Prop) (e : Ending) (w' : World) : Prop :=
  ∃ a s' v, f s = (a, s') ∧ e = .returned v ∧ ok a v w' ∧ RT R p s' W w'

def OkWho (a : Int × Int) (v : Value) (_ : World) : Prop := v = .agg #[.int .i64 a.1, .int .i64 a.2] ∧ U32 a.1 ∧ U32 a.2

set_option maxHeartbeats 800000 in
theorem readwho_rt {R : Nat} {p : Value} {s : List Int × Bool} {W w : World} (h : RT R p s W w) :
    Calls Try.prog 55 #[.pointer (some ⟨R, 0, none⟩)] w (Ans pW R p s W OkWho) := by
  go_enter Try.func55, Try.ntmps55
  go_wp2_with fail
  obtain ⟨W0, X, hW, hX, hb, hoW, hX1, hX2⟩ := new_block w (.cells #[.int .i64 0, .int .i64 0] 34)
  rw [← hW, ← hX]
  clear hW hX
  have hWX : W.heap.size ≤ X := Nat.le_trans h.only.size hX1
  have hRX : X ∉ [R] := by have := h.rlt; simp; omega
  refine (rnum_rt (h.new hoW).here).mono ?_
  rintro e w1 ⟨n1, s1, H1, rfl, lo1, hi1, r1⟩
  go_wp2_with fail
  refine (rnum_rt r1).mono ?_
  rintro e w2 ⟨n2, s2, H2, rfl, lo2, hi2, r2⟩
  have hb2 := r2.only.at hb hRX
  have c0 := cell_in hb2 0
  have c1 := cell_in hb2 1
  have f0 := free_in hb2 0
  have f1 := free_in hb2 1
  go_wp2_with fail
  have hb3 := set_at (i := 1) (set_at (i := 0) hb2 (.int .i64 n1)) (.int .i64 n2)
  have d0 := cell_in hb3 0
  have d1 := cell_in hb3 1
  have ho : Only w2 ((w2.setCell ⟨X, 0, none⟩ (.int .i64 n1)).setCell ⟨X, 1, none⟩ (.int .i64 n2)) [X] := (Only.setCell _ _ _ _ (by simp)).trans (Only.setCell _ _ _ _ (by simp))
  generalize (w2.setCell ⟨X, 0, none⟩ (.int .i64 n1)).setCell ⟨X, 1, none⟩ (.int .i64 n2) = w3 at *
  simp at d0 d1
  refine bodyPost_ret (v := .agg #[.int .i64 n1, .int .i64 n2]) (by simp [results, Try.results55, go_sem, d0, d1]) rfl ?_
  exact ⟨(n1, n2), s2, _, by simp [pW, H1.out, H2.out], rfl, ⟨rfl, ⟨lo1, hi1⟩, lo2, hi2⟩, ((h.new hoW).back r2).keep ho (by simpa using hWX)⟩
end Go.Proofs.Ytemlpjfngaemdaa
