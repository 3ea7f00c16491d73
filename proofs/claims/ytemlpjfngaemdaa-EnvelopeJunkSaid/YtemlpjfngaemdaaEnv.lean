/- A Writer of layer 9 through a chain of calls: its state against the world in which the chain began. -/
import Derived.Test.YtemlpjfngaemdaaRef09b
namespace Go.Proofs.Ytemlpjfngaemdaa
open Go.RowKit Go.Pw
set_option linter.unusedVariables false

/-- The Writer at B, which had the row v0 in the world W, has laid ys by the world w'. -/
def St (B : Nat) (v0 : Value) (W w' : World) (ys : List Int) : Prop :=
  ∃ v, IsW 26 5 B v ys w' ∧ SoN W v0 v ∧ Only W w' (B :: v0.ownBlock.toList)

theorem St.start {B : Nat} {v0 : Value} {W : World} {xs : List Int} (h : IsW 26 5 B v0 xs W) : St B v0 W W xs := ⟨v0, h, SoN.refl _ _, Only.refl _ _⟩
theorem St.only {B : Nat} {v0 : Value} {W w' : World} {ys : List Int} (h : St B v0 W w' ys) : Only W w' (B :: v0.ownBlock.toList) := h.choose_spec.2.2
theorem isw_new {T E B : Nat} {v : Value} {xs : List Int} {w w' : World} (h : IsW T E B v xs w) (ho : Only w w' []) : IsW T E B v xs w' := ⟨ho.at h.1 (by simp), own_new h.2 ho (by simp)⟩
theorem St.new {B : Nat} {v0 : Value} {W w1 w2 : World} {ys : List Int} (h : St B v0 W w1 ys) (ho : Only w1 w2 []) : St B v0 W w2 ys := by
  obtain ⟨v, h1, h2, h3⟩ := h
  exact ⟨v, isw_new h1 ho, h2, h3.trans (ho.mono (by simp))⟩
theorem St.drew {B : Nat} {v0 : Value} {W w1 : World} {ys : List Int} (h : St B v0 W w1 ys) : St B v0 W w1.drew ys := h.new (Only.drew _ _)
theorem St.trans {B : Nat} {v0 v1 : Value} {W w1 w2 : World} {zs : List Int} (h2 : SoN W v0 v1) (h3 : Only W w1 (B :: v0.ownBlock.toList)) (h : St B v1 w1 w2 zs) : St B v0 W w2 zs := by
  obtain ⟨v, k1, k2, k3⟩ := h
  exact ⟨v, k1, h2.trans k2 h3.size, h3.step k3 (own_list h2)⟩
theorem off_next {B : Nat} {v0 v1 p : Value} {W : World} {ps : List Int} (hp : Rd W p ps) (ho : Off p (B :: v0.ownBlock.toList)) (h : SoN W v0 v1) : Off p (B :: v1.ownBlock.toList) := fun hm k hk hkL => by
  rcases own_list h k hkL with h1 | h1
  · exact ho hm k hk h1
  · have := Src.lt hp (by decide) hm k hk; omega

/-- A step of the chain: a call that goes on from the Writer's state at hand. -/
theorem St.step {B f : Nat} {v0 r : Value} {args : Array Value} {W w1 : World} {ys zs : List Int} (h : St B v0 W w1 ys)
    (hc : ∀ v1, IsW 26 5 B v1 ys w1 → SoN W v0 v1 → Calls Try.prog f args w1 fun e w2 => e = .returned r ∧ St B v1 w1 w2 zs) :
    Calls Try.prog f args w1 fun e w2 => e = .returned r ∧ St B v0 W w2 zs := by
  obtain ⟨v1, h1, h2, h3⟩ := h
  refine (hc v1 h1 h2).mono ?_
  rintro e w2 ⟨rfl, k⟩
  exact ⟨rfl, k.trans h2 h3⟩

theorem wnum4_st {B : Nat} {v0 : Value} {W w1 : World} {ys : List Int} (h : St B v0 W w1 ys) (n : Int) (hl : ys.length ≤ 1000000) (hn0 : 0 ≤ n) (hn1 : n < 18446744073709551616) :
    Calls Try.prog 32 #[.pointer (some ⟨B, 0, none⟩), .int .u64 n, .int .i64 4] w1 fun e w2 => e = .returned (.pointer (some ⟨B, 0, none⟩)) ∧ St B v0 W w2 (ys ++ be n 4) :=
  h.step fun v1 h1 _ => wnum_any B v1 ys n 4 w1 (by decide) hn0 hn1 h1 hl
theorem wflag_st {B : Nat} {v0 : Value} {W w1 : World} {ys : List Int} (h : St B v0 W w1 ys) (b : Bool) (hl : ys.length ≤ 1000000) :
    Calls Try.prog 34 #[.pointer (some ⟨B, 0, none⟩), .bool b] w1 fun e w2 => e = .returned (.pointer (some ⟨B, 0, none⟩)) ∧ St B v0 W w2 (ys ++ [if b then 1 else 0]) :=
  h.step fun v1 h1 _ => wflag_any B v1 ys b w1 h1 hl
theorem wbytes_st {B : Nat} {v0 p : Value} {W w1 : World} {ys ps : List Int} (h : St B v0 W w1 ys) (hp : Rd W p ps) (ho : Off p (B :: v0.ownBlock.toList)) (hl : ys.length ≤ 900000) (hpl : ps.length ≤ 1000000000) :
    Calls Try.prog 14 #[.pointer (some ⟨B, 0, none⟩), p] w1 fun e w2 => e = .returned (.pointer (some ⟨B, 0, none⟩)) ∧ St B v0 W w2 (ys ++ be ps.length 4 ++ ps) :=
  h.step fun v1 h1 h2 => wbytes_any B v1 p ys ps w1 h1 hl (Src.off hp h.only ho) hpl (off_next hp ho h2)
theorem wdone_st {B : Nat} {v0 : Value} {W w1 : World} {ys : List Int} (h : St B v0 W w1 ys) (hl : ys.length ≤ 1000000000) :
    Calls Try.prog 15 #[.pointer (some ⟨B, 0, none⟩)] w1 (Fresh ys w1) := by
  obtain ⟨v1, h1, _, _⟩ := h
  exact wdone_any B v1 ys w1 h1 hl

theorem isw_apart {T E B X : Nat} {v : Value} {xs : List Int} {w : World} (h : IsW T E B v xs w) (hX : w.heap.size ≤ X) : X ∉ B :: v.ownBlock.toList := by
  intro hm
  have h1 := (Array.getElem?_eq_some_iff.1 h.1).1
  rcases List.mem_cons.1 hm with rfl | hm
  · omega
  · have := (h.2.lt X (by simpa using hm)).2
    omega
end Go.Proofs.Ytemlpjfngaemdaa
