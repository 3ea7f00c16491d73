/- For WireWrites: a Writer beside the reference's bytes; elements of slices that came in; what numbers and bytes, laid one behind the other, are. -/
import Derived.Test.YtemlpjfngaemdaaWireA
import Derived.Test.YtemlpjfngaemdaaRef09
import Derived.Test.YtemlpjfngaemdaaOpenM
namespace Go.Proofs.Ytemlpjfngaemdaa
open Go.RowKit Go.Pw
set_option linter.unusedVariables false

/-- An element of a slice that is read. -/
theorem src_at {w : World} {ao : Option Addr} {n c : Nat} {cs : List Value} (h : Src w (.slice ao n c) 1 n cs) {k : Nat} (hk : k < n) : ∃ b o, ao = some ⟨b, o, none⟩ ∧ ∀ j u, cs[j]? = some u → w.cell? ⟨b, o + j, none⟩ = some u := by
  obtain ⟨ao', c', he, hc1, hc2, hc3, hc4, hc5⟩ := h
  simp only [Value.slice.injEq] at he
  obtain ⟨rfl, _, rfl⟩ := he
  cases ao with
  | none => have := (hc4 rfl).1; omega
  | some ad =>
    obtain ⟨b, o, sp⟩ := ad
    have hl : 0 < cs.length := by rw [hc3]; omega
    have hcz := hc5 _ rfl 0 cs[0] (by simp)
    have hsp : sp = none := by simpa [Addr.add] using World.cell?_spot hcz
    subst hsp
    exact ⟨b, o, rfl, fun j u hj => by have := hc5 _ rfl j u hj; rwa [Addr.add_lit] at this⟩

/-- v reads as ys; the Writer at B has zs; since w nothing old has turned. -/
def WR (w : World) (B : Nat) (v : Value) (ys zs : List Int) (wr : World) : Prop :=
  Only w wr [] ∧ Rd wr v ys ∧ ∃ v', IsW 26 5 B v' zs wr ∧ Off v (B :: v'.ownBlock.toList) ∧ ∀ k ∈ B :: v'.ownBlock.toList, w.heap.size ≤ k

theorem WR.write {w wr : World} {B : Nat} {v : Value} {ys zs : List Int} (h : WR w B v ys zs wr) : ∃ v', IsW 26 5 B v' zs wr ∧ Only w wr [] ∧ ∀ v'' w1 zs', IsW 26 5 B v'' zs' w1 → SoN wr v' v'' → Only wr w1 (B :: v'.ownBlock.toList) → WR w B v ys zs' w1 := by
  obtain ⟨h1, h2, v', h3, h4, h5⟩ := h
  refine ⟨v', h3, h1, fun v'' w1 zs' k1 k2 k3 => ⟨h1.new k3 h5, Src.off h2 k3 h4, v'', k1, fun hm k hk hkL => ?_, fun k hk => ?_⟩⟩
  · rcases own_list k2 k hkL with hh | hh
    · exact h4 hm k hk hh
    · have := Src.lt h2 (by decide) hm k hk
      omega
  · rcases own_list k2 k hk with hh | hh
    · exact h5 k hh
    · have := h1.size
      omega

theorem WR.ref {w w1 w2 : World} {B : Nat} {v v2 : Value} {ys zs us : List Int} (h : WR w B v ys zs w1) (g1 : w2.ownsRow 0 5 1 v2 us.length (us.map (Value.int .u8))) (g2 : SoN w1 (.slice none 0 0) v2) (g3 : Only w1 w2 []) : WR w B v2 us zs w2 := by
  obtain ⟨h1, h2, v', h3, h4, h5⟩ := h
  refine ⟨h1.trans g3, own_rd g1, v', ⟨g3.at h3.1 (by simp), own_new h3.2 g3 (by simp)⟩, fun hm k hk hkL => ?_, h5⟩
  have hk1 : w1.heap.size ≤ k := by
    rcases g2 k hk with hh | hh
    · simp [Value.ownBlock] at hh
    · exact hh
  have hB := (Array.getElem?_eq_some_iff.1 h3.1).1
  rcases List.mem_cons.1 hkL with rfl | hm2
  · omega
  · have := (h3.2.lt k (by simpa using hm2)).2
    omega

def gtI (l : List Int) (k : Nat) : Int := l.getD k 0
theorem gtI_get {l : List Int} {k : Nat} (h : k < l.length) : gtI l k = l[k] := by simp [gtI, List.getD_eq_getElem?_getD, List.getElem?_eq_getElem h]
/-- The first numbers' bytes. -/
def nB (ns sz : List Int) : Nat → List Int
  | 0 => []
  | k + 1 => nB ns sz k ++ be (gtI ns k) (gtI sz k % 9).toNat
/-- So many numbers' bytes, from one on. -/
def nR (ns sz : List Int) : Nat → Nat → List Int
  | 0, _ => []
  | m + 1, k => be (gtI ns k) (gtI sz k % 9).toNat ++ nR ns sz m (k + 1)
theorem nB_nR (ns sz : List Int) : ∀ m k, nB ns sz k ++ nR ns sz m k = nB ns sz (k + m)
  | 0, k => by simp [nR]
  | m + 1, k => by
    have := nB_nR ns sz m (k + 1)
    rw [show k + (m + 1) = k + 1 + m by omega, ← this, nB, nR, List.append_assoc]
theorem nB_len (ns sz : List Int) (k : Nat) : (nB ns sz k).length ≤ 8 * k := by
  induction k with
  | zero => simp [nB]
  | succ k ih =>
    rw [nB, List.length_append, be_len]
    omega
theorem nB_byt (ns sz : List Int) (k : Nat) : Byt (nB ns sz k) := by
  induction k with
  | zero => exact Byt.nil
  | succ k ih => exact ih.app (be_byt _ _)
/-- The first slices' bytes, each with a truth behind it. -/
def rw1 (r : List Int) (b : Bool) : List Int := be r.length 4 ++ r ++ [if b then 1 else 0]
def sB (rs : List (List Int)) (b : Bool) : List Int := rs.flatMap fun r => rw1 r b
theorem sB_snoc (rs : List (List Int)) (r : List Int) (b : Bool) : sB (rs ++ [r]) b = sB rs b ++ rw1 r b := by simp [sB]
theorem sB_cons (rs : List (List Int)) (r : List Int) (b : Bool) : sB (r :: rs) b = rw1 r b ++ sB rs b := by simp [sB]
end Go.Proofs.Ytemlpjfngaemdaa
