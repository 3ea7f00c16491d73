/- What is laid is read again: books whose sessions have a name only (RecordBytes). No walk. -/
import Derived.Test.YtdlbkdnpbcpjfaaRbA
set_option linter.unusedSimpArgs false
set_option linter.unusedVariables false
namespace Go.Proofs.Ytdlbkdnpbcpjfaa
open Go.RowKit Go.Pw Go.Pw.Fl
set_option linter.unusedVariables false

theorem fB {xs l : List Int} (h : xs.length ≤ 65536) : pB (lb xs ++ l, false) = (xs, (l, false)) := pB_be xs l h
theorem fN {n : Int} {l : List Int} (h : U32 n) : pN (be n 4 ++ l, false) = (n, (l, false)) := pN_be n l h
theorem f8 {n : Int} {l : List Int} (h0 : 0 ≤ n) (h1 : n < 18446744073709551616) : p8 (be n 8 ++ l, false) = (n, (l, false)) := RN_be n 8 l h0 (by rw [show (256 : Int) ^ 8 = 18446744073709551616 by decide]; exact h1) (by decide)
theorem fC {n : Nat} {m : Int} {l : List Int} (h : (n : Int) ≤ m) (hm : m < 65536) : pC m (be (n : Int) 2 ++ l, false) = ((n : Int), (l, false)) := by
  have e : RN 2 (be (n : Int) 2 ++ l) false = ((n : Int), l, false) := RN_be n 2 l (by omega) (by rw [show (256 : Int) ^ 2 = 65536 by decide]; omega) (by decide)
  unfold pC
  simp only [e, CV, FB]
  rw [if_neg (by omega)]
  simp
  omega
/-- A session of which there is the name alone. -/
def t0 : TD := ⟨[], [], [], [], 0, [], 0, 0, []⟩
def h0D : HelloD := ⟨[], [], [], 0, false, 0⟩
def e0 (id : List Int) : ED := ⟨id, [], false, h0D, t0⟩
theorem u32_0 : U32 0 := ⟨by decide, by decide⟩
theorem fSto {l : List Int} : pStore (stoB [] ++ l, false) = (some [], (l, false)) := by
  have e : pC 32 (stoB [] ++ l, false) = ((0 : Int), (l, false)) := fC (n := 0) (m := 32) (by decide) (by decide)
  unfold pStore
  rw [e]
  rfl
theorem fSta {l : List Int} : pSta (staB t0 ++ l, false) = (some t0, (l, false)) := by
  have e : staB t0 ++ l = lb [] ++ (lb [] ++ (lb [] ++ (lb [] ++ (be 0 4 ++ (lb [] ++ (be 0 4 ++ (be 0 4 ++ (stoB [] ++ l)))))))) := by simp only [staB, t0, List.append_assoc]
  rw [e]
  unfold pSta
  simp only [fB (xs := []) (by simp), fN u32_0, fSto]
  rfl
theorem fH : pH (hB h0D, false) = (h0D, ([], false)) := by
  have := pH_be [] [] [] [] 0 false 0 (by simp) (by simp) (by simp) u32_0 u32_0
  rw [List.append_nil] at this
  exact this
theorem fF {b : Bool} {l : List Int} : pF ([if b then 1 else 0] ++ l, false) = (b, (l, false)) := pF_be b l
theorem fSe {id l : List Int} (h : id.length ≤ 65536) : pSe (seB (e0 id) ++ l, false) = (some (e0 id), (l, false)) := by
  have e : seB (e0 id) ++ l = lb id ++ (lb [] ++ ([if false then 1 else 0] ++ (lb (hB h0D) ++ (staB t0 ++ l)))) := by simp only [seB, e0, List.append_assoc]; rfl
  have hl : (hB h0D).length ≤ 65536 := by decide
  rw [e]
  unfold pSe
  simp only [fB h, fB (xs := []) (by simp), fF, fB hl, fH, fSta]
  rfl
theorem fSes : ∀ (es acc : List (List Int)) (l : List Int), (∀ x ∈ es, x.length ≤ 65536) → (acc ++ es).Nodup → pSes es.length (acc.map e0) ((es.map e0).flatMap seB ++ l, false) = (some ((acc ++ es).map e0), (l, false))
  | [], acc, l, h, hd => by simp [pSes_zero]
  | x :: es, acc, l, h, hd => by
    have e : ((x :: es).map e0).flatMap seB ++ l = seB (e0 x) ++ ((es.map e0).flatMap seB ++ l) := by simp
    rw [e, List.length_cons]
    have hn : x ∉ acc := by
      intro hx
      have := List.nodup_append.1 hd
      exact this.2.2 x hx x (by simp) rfl
    rw [pSes_more (fSe (h x (by simp))) (by
      rw [List.any_map, List.any_eq_false]
      intro y hy
      have : y ≠ x := fun e => hn (e ▸ hy)
      have h2 : decide (y = x) = false := decide_eq_false this
      rw [Bool.not_eq_true]
      exact h2)]
    have := fSes es (acc ++ [x]) l (fun y hy => h y (by simp [hy])) (by simpa using hd)
    simpa using this
theorem fQu {es : List (List Int)} {l : List Int} (h : ∀ x ∈ es, x.length ≤ 65536) (hd : es.Nodup) (hn : es.length ≤ 4) : pQu (quB (es.map e0) ++ l, false) = (some (es.map e0), (l, false)) := by
  have e : pC 4 (quB (es.map e0) ++ l, false) = ((es.length : Int), ((es.map e0).flatMap seB ++ l, false)) := by
    rw [quB, List.append_assoc, List.length_map]
    exact fC (by omega) (by decide)
  unfold pQu
  rw [e]
  have := fSes es [] l h (by simpa using hd)
  simp only [List.map_nil, List.nil_append] at this
  simp only [Int.toNat_natCast, this]
  rfl
/-- What can be read again. -/
structure Gd (x : RD) (es : List (List Int)) : Prop where
  u : U32 x.u
  d : U32 x.d
  ag : x.ag.length ≤ 65536
  sg : x.sg.length ≤ 65536
  k0 : 0 ≤ x.k
  k1 : x.k < 18446744073709551616
  kt : kKey (tTime x.k) = x.k
  q : x.q = es.map e0
  le : ∀ y ∈ es, y.length ≤ 65536
  nd : es.Nodup
  n : es.length ≤ 4
theorem fRc {x : RD} {es : List (List Int)} {l : List Int} (h : Gd x es) : pRc (rcB x ++ l, false) = (some x, (l, false)) := by
  have e : rcB x ++ l = be x.u 4 ++ (be x.d 4 ++ (lb x.ag ++ (lb x.sg ++ ([if x.stale then 1 else 0] ++ (be x.k 8 ++ (quB (es.map e0) ++ l)))))) := by simp only [rcB, h.q, List.append_assoc]
  rw [e]
  unfold pRc
  simp only [fN h.u, fN h.d, fB h.ag, fB h.sg, fF, f8 h.k0 h.k1, fQu h.le h.nd h.n, h.kt]
  rw [← h.q]
  rfl
theorem fRcs : ∀ (xs acc : List RD) (l : List Int), (∀ x ∈ xs, ∃ es, Gd x es) → ((acc ++ xs).Pairwise fun a b => cmpW a.u a.d b.u b.d < 0) → pRcs xs.length acc (xs.flatMap rcB ++ l, false) = (some (acc ++ xs), (l, false))
  | [], acc, l, h, hp => by simp [pRcs_zero]
  | x :: xs, acc, l, h, hp => by
    obtain ⟨es, hg⟩ := h x (by simp)
    have e : (x :: xs).flatMap rcB ++ l = rcB x ++ (xs.flatMap rcB ++ l) := by simp
    rw [e, List.length_cons]
    have hlate : late acc x = false := by
      unfold late
      cases hl : acc.getLast? with
      | none => rfl
      | some y =>
        have hy : y ∈ acc := List.mem_of_getLast? hl
        have := (List.pairwise_append.1 hp).2.2 y hy x (by simp)
        simp
        omega
    rw [pRcs_more (fRc hg) hlate]
    have := fRcs xs (acc ++ [x]) l (fun y hy => h y (by simp [hy])) (by simpa using hp)
    simpa using this
theorem fBk {xs : List RD} (h : ∀ x ∈ xs, ∃ es, Gd x es) (hp : xs.Pairwise fun a b => cmpW a.u a.d b.u b.d < 0) (hn : xs.length ≤ 4096) : pBk (bkB xs) = some xs := by
  have e : pC 4096 (bkB xs, false) = ((xs.length : Int), (xs.flatMap rcB, false)) := fC (by omega) (by decide)
  unfold pBk
  rw [e]
  have := fRcs xs [] [] h (by simpa using hp)
  simp only [List.append_nil, List.nil_append] at this
  simp only [Int.toNat_natCast, this]
  simp [endBk, Ends]
end Go.Proofs.Ytdlbkdnpbcpjfaa
