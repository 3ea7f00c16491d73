/- Layer 5 (chacha): sixteen words in a block; a quarter of a round, in the program and in its reference. -/
import Derived.Test.YtemmdhfmdgpfmaaRows
import Derived.Test.YtemmdhfmdgpfmaaBase
import Derived.StillTailTactics
namespace Go.Proofs.Ytemmdhfmdgpfmaa
open Go.RowKit Go.Pw
set_option linter.unusedVariables false

/-- A word of 32 bits. -/
def W32 (x : Int) : Prop := 0 ≤ x ∧ x < 4294967296
def xor32 (x y : Int) : Int := bits .xor .u32 x y
def rol (x : Int) (k : Nat) : Int := bits .or .u32 (x * 2 ^ k % 4294967296) (x / 2 ^ (32 - k))
def gt (l : List Int) (i : Nat) : Int := l.getD i 0
def addAt (l : List Int) (a b : Nat) : List Int := l.set a ((gt l a + gt l b) % 4294967296)
def xrl (l : List Int) (d a k : Nat) : List Int := l.set d (rol (xor32 (gt l d) (gt l a)) k)
/-- A quarter of a round. -/
def qr (l : List Int) (a b c d : Nat) : List Int := xrl (addAt (xrl (addAt (xrl (addAt (xrl (addAt l a b) d a 16) c d) b c 12) a b) d a 8) c d) b c 7

/-- A block of words. -/
def Arr (R T : Nat) (n : Nat) (l : List Int) (w : World) : Prop := w.heap[R]? = some (.cells ((l.map (Value.int .u32)).toArray) T (0, 0)) ∧ l.length = n ∧ ∀ x ∈ l, W32 x

theorem Arr.cell {R T n : Nat} {l : List Int} {w : World} (h : Arr R T n l w) (i : Nat) (hi : i < n) : w.cell? ⟨R, i, none⟩ = some (.int .u32 (gt l i)) := by
  rw [cell_in h.1 i]
  simp [gt, List.getD_eq_getElem?_getD, List.getElem?_eq_getElem (show i < l.length by rw [h.2.1]; exact hi)]
theorem Arr.free {R T n : Nat} {l : List Int} {w : World} (h : Arr R T n l w) (i : Nat) : w.frozen? ⟨R, i, none⟩ = false := free_in h.1 i
theorem Arr.bd {R T n : Nat} {l : List Int} {w : World} (h : Arr R T n l w) (i : Nat) (hi : i < n) : W32 (gt l i) := by
  have : gt l i = l[i]'(by rw [h.2.1]; exact hi) := by simp [gt, List.getD_eq_getElem?_getD, List.getElem?_eq_getElem (show i < l.length by rw [h.2.1]; exact hi)]
  rw [this]
  exact h.2.2 _ (List.getElem_mem _)
theorem Arr.set {R T n : Nat} {l : List Int} {w : World} (h : Arr R T n l w) (i : Nat) (x : Int) (hx : W32 x) : Arr R T n (l.set i x) (w.setCell ⟨R, i, none⟩ (.int .u32 x)) := by
  obtain ⟨h1, h2, h3⟩ := h
  refine ⟨?_, by simpa using h2, fun y hy => ?_⟩
  · rw [set_at h1]
    congr 2
    apply Array.ext'
    simp [List.map_set]
  · rcases List.mem_or_eq_of_mem_set hy with h | h
    · exact h3 y h
    · rw [h]; exact hx
theorem Arr.drew {R T n : Nat} {l : List Int} {w : World} (h : Arr R T n l w) : Arr R T n l w.drew := h
theorem Arr.only {R T n : Nat} {l : List Int} {w w' : World} {L : List Nat} (h : Arr R T n l w) (ho : Only w w' L) (hR : R ∉ L) : Arr R T n l w' := ⟨ho.at h.1 hR, h.2⟩

theorem w32_mod (x : Int) : W32 (x % 4294967296) := by unfold W32; omega
theorem xor32_bd {x y : Int} (hx : W32 x) (hy : W32 y) : W32 (xor32 x y) := by
  unfold xor32 W32 at *
  rw [u32_xor x y hx.1 hx.2 hy.1 hy.2]
  have : x.toNat ^^^ y.toNat < 2 ^ 32 := Nat.xor_lt_two_pow (by omega) (by omega)
  omega
theorem rol_bd {x : Int} (k : Nat) (hx : W32 x) : W32 (rol x k) := by
  unfold rol W32 at *
  have hp : (0 : Int) < 2 ^ (32 - k) := Int.pow_pos (by decide)
  have h1 : 0 ≤ x / 2 ^ (32 - k) := Int.ediv_nonneg hx.1 (Int.le_of_lt hp)
  have h2 : x / 2 ^ (32 - k) ≤ x := Int.ediv_le_self _ hx.1
  rw [u32_or _ _ (by omega) (by omega) h1 (by omega)]
  have : (x * 2 ^ k % 4294967296).toNat ||| (x / 2 ^ (32 - k)).toNat < 2 ^ 32 := Nat.or_lt_two_pow (by omega) (by omega)
  omega

theorem and31 (k : Nat) (hk : k < 32) : bits .and .u64 (k : Int) 31 = (k : Int) := by
  rw [show (31 : Int) = ((31 : Nat) : Int) from rfl, u64_and_nat _ _ (by omega) (by decide)]
  have := Nat.and_two_pow_sub_one_eq_mod k 5
  have e : k &&& 31 = k % 32 := by simpa using this
  rw [e, Nat.mod_eq_of_lt hk]

set_option maxHeartbeats 400000 in
theorem rotate_any (x : Int) (k : Nat) (hk0 : 0 < k) (hk : k < 32) (hx : W32 x) (w : World) :
    Calls Try.prog 39 #[.int .u32 x, .int .i64 k] w fun e w' => e = .returned (.int .u32 (rol x k)) ∧ w' = w := by
  obtain ⟨hx0, hx1⟩ := hx
  have ha := and31 k hk
  have k0 : (0 : Int) ≤ k := by omega
  have k1 : (k : Int) < 32 := by omega
  have hw : IntKind.u64.wrap (32 - (k : Int)) = ((32 - k : Nat) : Int) := by simp [IntKind.wrap, IntKind.bits, IntKind.signed]; omega
  go_enter Try.func39, Try.ntmps39
  go_wp2_with fail
  go_ret
  exact ⟨rfl, rfl⟩

set_option maxHeartbeats 400000 in
theorem left_any (x : Int) (k : Nat) (hk0 : 0 < k) (hk : k < 32) (hx : W32 x) (w : World) :
    Calls Try.prog 40 #[.int .u32 x, .int .i64 k] w fun e w' => e = .returned (.int .u32 (rol x k)) ∧ ∃ n, w' = w.drewN n := by
  obtain ⟨hx0, hx1⟩ := hx
  go_enter Try.func40, Try.ntmps40
  go_wp2_with fail
  go_quiet (fail)
  go_wp2
  go_ret
  exact ⟨rfl, _, rfl⟩

set_option maxRecDepth 100000 in
set_option maxHeartbeats 1600000 in
theorem turn_any (R T : Nat) (l : List Int) (a b c d : Nat) (w : World) (h : Arr R T 16 l w) (ha : a < 16) (hb : b < 16) (hc : c < 16) (hd : d < 16) :
    Calls Try.prog 29 #[.pointer (some ⟨R, 0, none⟩), .int .i64 a, .int .i64 b, .int .i64 c, .int .i64 d] w fun e w' => e = .returned (.tuple #[]) ∧ Arr R T 16 (qr l a b c d) w' ∧ Only w w' [R] := by
  have ka0 : (0 : Int) ≤ a := by omega
  have kb0 : (0 : Int) ≤ b := by omega
  have kc0 : (0 : Int) ≤ c := by omega
  have kd0 : (0 : Int) ≤ d := by omega
  have ka1 : (a : Int) < 16 := by omega
  have kb1 : (b : Int) < 16 := by omega
  have kc1 : (c : Int) < 16 := by omega
  have kd1 : (d : Int) < 16 := by omega
  have o0 : Only w w [R] := Only.refl _ _
  go_enter Try.func29, Try.ntmps29
  go_wp2_with fail
  have c1 := h.drew.cell a ha
  have c2 := h.drew.cell b hb
  have f1 := h.drew.free a
  have e1 := (h.bd a ha).1
  have e2 := (h.bd a ha).2
  have e3 := (h.bd b hb).1
  have e4 := (h.bd b hb).2
  have g := h.drew
  have og : Only w w.drew [R] := o0.trans (Only.drew _ _)
  go_still_tail 13, (by kernel_rfl)
  change wpList _ _ _ _ _ w.drew
  generalize w.drew = w1 at *
  go_wp2_with fail
  have h1 : Arr R T 16 (addAt l a b) (w1.setCell ⟨R, a, none⟩ (.int .u32 ((gt l a + gt l b) % 4294967296))) := g.set a _ (w32_mod _)
  have o1 : Only w (w1.setCell ⟨R, a, none⟩ (.int .u32 ((gt l a + gt l b) % 4294967296))) [R] := og.trans (Only.setCell _ _ _ _ (by simp))
  clear c1 c2 f1 e1 e2 e3 e4 g og
  generalize w1.setCell ⟨R, a, none⟩ (.int .u32 ((gt l a + gt l b) % 4294967296)) = w2 at *
  obtain ⟨l1, hq⟩ : ∃ z, z = addAt l a b := ⟨_, rfl⟩
  rw [← hq] at h1
  have Q1 := Lib.hid hq
  clear hq
  have c1 := h1.drew.cell d hd
  have c2 := h1.drew.cell a ha
  have f1 := h1.drew.free d
  have e1 := (h1.bd d hd).1
  have e2 := (h1.bd d hd).2
  have e3 := (h1.bd a ha).1
  have e4 := (h1.bd a ha).2
  have hxb := xor32_bd (h1.bd d hd) (h1.bd a ha)
  have g := h1.drew
  have og : Only w w2.drew [R] := o1.trans (Only.drew _ _)
  go_still_tail 16, (by kernel_rfl)
  still_call (rotate_any _ 16 (by decide) (by decide) hxb _)
  repeat still_step
  refine wpStill_nil ?_
  change wpList _ _ _ _ _ w2.drew
  generalize w2.drew = w3 at *
  go_wp2_with fail
  have h2 : Arr R T 16 (xrl l1 d a 16) (w3.setCell ⟨R, d, none⟩ (.int .u32 (rol (xor32 (gt l1 d) (gt l1 a)) 16))) := g.set d _ (rol_bd _ hxb)
  have o2 : Only w (w3.setCell ⟨R, d, none⟩ (.int .u32 (rol (xor32 (gt l1 d) (gt l1 a)) 16))) [R] := og.trans (Only.setCell _ _ _ _ (by simp))
  clear c1 c2 f1 e1 e2 e3 e4 g og hxb
  generalize w3.setCell ⟨R, d, none⟩ (.int .u32 (rol (xor32 (gt l1 d) (gt l1 a)) 16)) = w4 at *
  obtain ⟨l2, hq⟩ : ∃ z, z = xrl l1 d a 16 := ⟨_, rfl⟩
  rw [← hq] at h2
  have Q2 := Lib.hid hq
  clear hq
  have c1 := h2.drew.cell c hc
  have c2 := h2.drew.cell d hd
  have f1 := h2.drew.free c
  have e1 := (h2.bd c hc).1
  have e2 := (h2.bd c hc).2
  have e3 := (h2.bd d hd).1
  have e4 := (h2.bd d hd).2
  have g := h2.drew
  have og : Only w w4.drew [R] := o2.trans (Only.drew _ _)
  go_still_tail 13, (by kernel_rfl)
  change wpList _ _ _ _ _ w4.drew
  generalize w4.drew = w5 at *
  go_wp2_with fail
  have h3 : Arr R T 16 (addAt l2 c d) (w5.setCell ⟨R, c, none⟩ (.int .u32 ((gt l2 c + gt l2 d) % 4294967296))) := g.set c _ (w32_mod _)
  have o3 : Only w (w5.setCell ⟨R, c, none⟩ (.int .u32 ((gt l2 c + gt l2 d) % 4294967296))) [R] := og.trans (Only.setCell _ _ _ _ (by simp))
  clear c1 c2 f1 e1 e2 e3 e4 g og
  generalize w5.setCell ⟨R, c, none⟩ (.int .u32 ((gt l2 c + gt l2 d) % 4294967296)) = w6 at *
  obtain ⟨l3, hq⟩ : ∃ z, z = addAt l2 c d := ⟨_, rfl⟩
  rw [← hq] at h3
  have Q3 := Lib.hid hq
  clear hq
  have c1 := h3.drew.cell b hb
  have c2 := h3.drew.cell c hc
  have f1 := h3.drew.free b
  have e1 := (h3.bd b hb).1
  have e2 := (h3.bd b hb).2
  have e3 := (h3.bd c hc).1
  have e4 := (h3.bd c hc).2
  have hxb := xor32_bd (h3.bd b hb) (h3.bd c hc)
  have g := h3.drew
  have og : Only w w6.drew [R] := o3.trans (Only.drew _ _)
  go_still_tail 16, (by kernel_rfl)
  still_call (rotate_any _ 12 (by decide) (by decide) hxb _)
  repeat still_step
  refine wpStill_nil ?_
  change wpList _ _ _ _ _ w6.drew
  generalize w6.drew = w7 at *
  go_wp2_with fail
  have h4 : Arr R T 16 (xrl l3 b c 12) (w7.setCell ⟨R, b, none⟩ (.int .u32 (rol (xor32 (gt l3 b) (gt l3 c)) 12))) := g.set b _ (rol_bd _ hxb)
  have o4 : Only w (w7.setCell ⟨R, b, none⟩ (.int .u32 (rol (xor32 (gt l3 b) (gt l3 c)) 12))) [R] := og.trans (Only.setCell _ _ _ _ (by simp))
  clear c1 c2 f1 e1 e2 e3 e4 g og hxb
  generalize w7.setCell ⟨R, b, none⟩ (.int .u32 (rol (xor32 (gt l3 b) (gt l3 c)) 12)) = w8 at *
  obtain ⟨l4, hq⟩ : ∃ z, z = xrl l3 b c 12 := ⟨_, rfl⟩
  rw [← hq] at h4
  have Q4 := Lib.hid hq
  clear hq
  have c1 := h4.drew.cell a ha
  have c2 := h4.drew.cell b hb
  have f1 := h4.drew.free a
  have e1 := (h4.bd a ha).1
  have e2 := (h4.bd a ha).2
  have e3 := (h4.bd b hb).1
  have e4 := (h4.bd b hb).2
  have g := h4.drew
  have og : Only w w8.drew [R] := o4.trans (Only.drew _ _)
  go_still_tail 13, (by kernel_rfl)
  change wpList _ _ _ _ _ w8.drew
  generalize w8.drew = w9 at *
  go_wp2_with fail
  have h5 : Arr R T 16 (addAt l4 a b) (w9.setCell ⟨R, a, none⟩ (.int .u32 ((gt l4 a + gt l4 b) % 4294967296))) := g.set a _ (w32_mod _)
  have o5 : Only w (w9.setCell ⟨R, a, none⟩ (.int .u32 ((gt l4 a + gt l4 b) % 4294967296))) [R] := og.trans (Only.setCell _ _ _ _ (by simp))
  clear c1 c2 f1 e1 e2 e3 e4 g og
  generalize w9.setCell ⟨R, a, none⟩ (.int .u32 ((gt l4 a + gt l4 b) % 4294967296)) = w10 at *
  obtain ⟨l5, hq⟩ : ∃ z, z = addAt l4 a b := ⟨_, rfl⟩
  rw [← hq] at h5
  have Q5 := Lib.hid hq
  clear hq
  have c1 := h5.drew.cell d hd
  have c2 := h5.drew.cell a ha
  have f1 := h5.drew.free d
  have e1 := (h5.bd d hd).1
  have e2 := (h5.bd d hd).2
  have e3 := (h5.bd a ha).1
  have e4 := (h5.bd a ha).2
  have hxb := xor32_bd (h5.bd d hd) (h5.bd a ha)
  have g := h5.drew
  have og : Only w w10.drew [R] := o5.trans (Only.drew _ _)
  go_still_tail 16, (by kernel_rfl)
  still_call (rotate_any _ 8 (by decide) (by decide) hxb _)
  repeat still_step
  refine wpStill_nil ?_
  change wpList _ _ _ _ _ w10.drew
  generalize w10.drew = w11 at *
  go_wp2_with fail
  have h6 : Arr R T 16 (xrl l5 d a 8) (w11.setCell ⟨R, d, none⟩ (.int .u32 (rol (xor32 (gt l5 d) (gt l5 a)) 8))) := g.set d _ (rol_bd _ hxb)
  have o6 : Only w (w11.setCell ⟨R, d, none⟩ (.int .u32 (rol (xor32 (gt l5 d) (gt l5 a)) 8))) [R] := og.trans (Only.setCell _ _ _ _ (by simp))
  clear c1 c2 f1 e1 e2 e3 e4 g og hxb
  generalize w11.setCell ⟨R, d, none⟩ (.int .u32 (rol (xor32 (gt l5 d) (gt l5 a)) 8)) = w12 at *
  obtain ⟨l6, hq⟩ : ∃ z, z = xrl l5 d a 8 := ⟨_, rfl⟩
  rw [← hq] at h6
  have Q6 := Lib.hid hq
  clear hq
  have c1 := h6.drew.cell c hc
  have c2 := h6.drew.cell d hd
  have f1 := h6.drew.free c
  have e1 := (h6.bd c hc).1
  have e2 := (h6.bd c hc).2
  have e3 := (h6.bd d hd).1
  have e4 := (h6.bd d hd).2
  have g := h6.drew
  have og : Only w w12.drew [R] := o6.trans (Only.drew _ _)
  go_still_tail 13, (by kernel_rfl)
  change wpList _ _ _ _ _ w12.drew
  generalize w12.drew = w13 at *
  go_wp2_with fail
  have h7 : Arr R T 16 (addAt l6 c d) (w13.setCell ⟨R, c, none⟩ (.int .u32 ((gt l6 c + gt l6 d) % 4294967296))) := g.set c _ (w32_mod _)
  have o7 : Only w (w13.setCell ⟨R, c, none⟩ (.int .u32 ((gt l6 c + gt l6 d) % 4294967296))) [R] := og.trans (Only.setCell _ _ _ _ (by simp))
  clear c1 c2 f1 e1 e2 e3 e4 g og
  generalize w13.setCell ⟨R, c, none⟩ (.int .u32 ((gt l6 c + gt l6 d) % 4294967296)) = w14 at *
  obtain ⟨l7, hq⟩ : ∃ z, z = addAt l6 c d := ⟨_, rfl⟩
  rw [← hq] at h7
  have Q7 := Lib.hid hq
  clear hq
  have c1 := h7.drew.cell b hb
  have c2 := h7.drew.cell c hc
  have f1 := h7.drew.free b
  have e1 := (h7.bd b hb).1
  have e2 := (h7.bd b hb).2
  have e3 := (h7.bd c hc).1
  have e4 := (h7.bd c hc).2
  have hxb := xor32_bd (h7.bd b hb) (h7.bd c hc)
  have g := h7.drew
  have og : Only w w14.drew [R] := o7.trans (Only.drew _ _)
  go_still_tail 16, (by kernel_rfl)
  still_call (rotate_any _ 7 (by decide) (by decide) hxb _)
  repeat still_step
  refine wpStill_nil ?_
  change wpList _ _ _ _ _ w14.drew
  generalize w14.drew = w15 at *
  go_wp2_with fail
  have h8 : Arr R T 16 (xrl l7 b c 7) (w15.setCell ⟨R, b, none⟩ (.int .u32 (rol (xor32 (gt l7 b) (gt l7 c)) 7))) := g.set b _ (rol_bd _ hxb)
  have o8 : Only w (w15.setCell ⟨R, b, none⟩ (.int .u32 (rol (xor32 (gt l7 b) (gt l7 c)) 7))) [R] := og.trans (Only.setCell _ _ _ _ (by simp))
  clear c1 c2 f1 e1 e2 e3 e4 g og hxb
  generalize w15.setCell ⟨R, b, none⟩ (.int .u32 (rol (xor32 (gt l7 b) (gt l7 c)) 7)) = w16 at *
  obtain ⟨l8, hq⟩ : ∃ z, z = xrl l7 b c 7 := ⟨_, rfl⟩
  rw [← hq] at h8
  have Q8 := Lib.hid hq
  clear hq
  go_end0
  refine ⟨rfl, ?_, o8⟩
  rw [qr, ← Q1.out, ← Q2.out, ← Q3.out, ← Q4.out, ← Q5.out, ← Q6.out, ← Q7.out, ← Q8.out]
  exact h8

end Go.Proofs.Ytemmdhfmdgpfmaa
