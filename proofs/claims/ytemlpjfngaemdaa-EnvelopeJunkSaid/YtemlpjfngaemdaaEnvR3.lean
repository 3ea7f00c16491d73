/- The contract of package envelope's DecodeInner at any bytes, fewer than 1000000001 of them. -/
import Derived.Test.YtemlpjfngaemdaaEnvR2
namespace Go.Proofs.Ytemlpjfngaemdaa
open Go.RowKit Go.Pw
set_option linter.unusedVariables false

theorem rend_rt {R : Nat} {p : Value} {s : List Int × Bool} {W w : World} (h : RT R p s W w) :
    Calls Try.prog 30 #[.pointer (some ⟨R, 0, none⟩)] w fun e w' => e = .returned (.bool (!s.2 && decide (s.1.length = 0))) ∧ w = w' := by
  obtain ⟨⟨p1, h1, h2⟩, h3⟩ := id h.rs
  exact rend_any R p1 s.1 s.2 w h2

/-- A Reader made anew. -/
theorem rt_new {w w' : World} {R : Nat} {ao : Option Addr} {c : Nat} {ps : List Int} (h : Rd w (.slice ao ps.length c) ps) (hb : Byt ps) (hl : ps.length ≤ 1000000000) (ho : Only w w' []) (hR : w'.heap[R]? = some (.cells #[.slice ao ps.length c, .bool false] 87 (0, 0))) : RT R (.slice ao ps.length c) (ps, false) w' w' :=
  ⟨⟨⟨_, rfl, hR, h.new ho, hb⟩, Only.refl _ _⟩, hl, Nat.le_refl _, fun hm k hk => Nat.lt_of_lt_of_le (Src.lt h (by decide) hm k hk) ho.size, (Array.getElem?_eq_some_iff.1 hR).1⟩

/-- All was read, without a fault. -/
def Ends (s : List Int × Bool) : Bool := !s.2 && decide (s.1.length = 0)

def pInner (s : List Int × Bool) : (Int × Int × List Int) × List Int × Bool :=
  let a := pN s
  let b := pN a.2
  let c := pB b.2
  ((a.1, b.1, c.1), c.2)

/-- What DecodeInner answers. -/
def DecI (ps : List Int) (w : World) (e : Ending) (w' : World) : Prop :=
  ∃ u n ts s, pInner (ps, false) = ((u, n, ts), s) ∧ U32 u ∧ U32 n ∧ Byt ts ∧ Only w w' [] ∧
    ((Ends s = true ∧ ts.length ≤ 256 ∧ ∃ vt, e = .returned (.tuple #[.agg #[.int .i64 u, .int .u32 n, vt], .int .i64 0]) ∧ Got w w' vt ts) ∨
     (Ends s = true ∧ 256 < ts.length ∧ e = .returned (.tuple #[.agg #[.int .i64 0, .int .u32 0, .slice none 0 0], .int .i64 5])) ∨
     (Ends s = false ∧ e = .returned (.tuple #[.agg #[.int .i64 0, .int .u32 0, .slice none 0 0], .int .i64 4])))

set_option maxRecDepth 100000 in
set_option maxHeartbeats 1600000 in
theorem decinner_any (p : Value) (ps : List Int) (w : World) (hp : Rd w p ps) (hb : Byt ps) (hl : ps.length ≤ 1000000000) :
    Calls Try.prog 23 #[p] w (DecI ps w) := by
  obtain ⟨ao, c, rfl⟩ := hp.slice
  go_enter Try.func23, Try.ntmps23
  go_wp2_with fail
  obtain ⟨W0, X, hW, hX, hbX, hoW, hX1, hX2⟩ := new_block w (.cells #[.int .i64 0, .int .u32 0, .slice none 0 0] 49)
  have hs0 : W0.heap.size = X + 1 := by rw [hW, hX]; simp
  rw [← hW, ← hX]
  clear hW hX
  refine (rread_any _ _ _ _).mono ?_
  rintro e W1' ⟨rfl, rfl⟩
  obtain ⟨W1, R, hW, hR, hbR, hoR, hR1, hR2⟩ := new_block W0 (.cells #[.slice ao ps.length c, .bool false] 87)
  rw [← hW, ← hR]
  clear hW hR
  have r0 := rt_new hp hb hl (hoW.trans hoR) hbR
  have hXR : X ≠ R := by omega
  go_wp2_with fail
  refine (rnum_rt r0).mono ?_
  rintro e w1 ⟨n1, s1, H1, rfl, lo1, hi1, r1⟩
  go_wp2_with fail
  refine (rnum_rt r1).mono ?_
  rintro e w2 ⟨n2, s2, H2, rfl, lo2, hi2, r2⟩
  go_wp2_with fail
  refine (rbytes_rt r2.here).mono ?_
  rintro e w3 ⟨v3, x3, s3, H3, rfl, g3, l3, r3⟩
  obtain ⟨⟨a3, c3, rfl⟩, _, _, hbt⟩ := id g3
  have rr := r2.back r3
  have hX3 := rr.only.at (hoR.at hbX (by simp)) (by simpa using hXR)
  go_wp2_with fail
  obtain ⟨W5, Y, hW, hY, hy, hoY, hY1, hY2⟩ := new_block w3 (.cells #[.int .i64 n1, .int .u32 n2, .slice a3 x3.length c3] 49)
  rw [← hW, ← hY]
  clear hW hY
  have hlt3 := (Array.getElem?_eq_some_iff.1 hX3).1
  have hne : X ≠ Y := by omega
  have hne' : Y ≠ X := fun h => hne h.symm
  have hXV := hoY.at hX3 (by simp)
  refine (rend_rt (rr.new hoY)).mono ?_
  rintro e w5 ⟨rfl, rfl⟩
  have hT : Hid (pInner (ps, false) = ((n1, n2, x3), s3)) := by simp [pInner, H1.out, H2.out, H3.out, Hid]
  have hoT : Only w W5 [] := (((hoW.trans hoR).step rr.only (fun k hk => .inr (by simp at hk; subst hk; exact Nat.le_trans hoW.size hR1))).trans hoY)
  have gT : Got w2 W5 (.slice a3 x3.length c3) x3 := g3.keep hoY (by simp)
  have hX2p : X < w2.heap.size := by have := hoR.size; have := r2.only.size; omega
  have hw2 : w.heap.size ≤ w2.heap.size := Nat.le_trans (hoW.trans hoR).size r2.only.size
  obtain ⟨eb, heb⟩ : ∃ eb, eb = (!s3.2 && decide (s3.1.length = 0)) := ⟨_, rfl⟩
  rw [← heb]
  have Heb := Lib.hid heb
  clear heb hb hp g3 hbX hX3
  have y0 := cell_in hy 0
  have y1 := cell_in hy 1
  have y2 := cell_in hy 2
  have yf0 := free_in hy 0
  have yf1 := free_in hy 1
  have yf2 := free_in hy 2
  have x_0 := cell_in hXV 0
  have x_1 := cell_in hXV 1
  have x_2 := cell_in hXV 2
  have xf0 := free_in hXV 0
  have xf1 := free_in hXV 1
  have xf2 := free_in hXV 2
  cases eb
  · go_wp2_with fail
    generalize hE : (((W5.setCell ⟨X, 0, none⟩ (.int .i64 0)).setCell ⟨X, 1, none⟩ (.int .u32 0)).setCell ⟨X, 2, none⟩ (.slice none 0 0)) = wE
    have hE0 : wE = setAll W5 X 0 [.int .i64 0, .int .u32 0, .slice none 0 0] := hE.symm
    clear hE
    have hoE : Only W5 wE [X] := hE0 ▸ setAll_only _ _ _ _
    have hbE : wE.heap[X]? = _ := hE0 ▸ setAll_at _ 0 hXV
    have d0 : wE.cell? ⟨X, 0, none⟩ = some (.int .i64 0) := (cell_in hbE 0).trans rfl
    have d1 : wE.cell? ⟨X, 1, none⟩ = some (.int .u32 0) := (cell_in hbE 1).trans rfl
    have d2 : wE.cell? ⟨X, 2, none⟩ = some (.slice none 0 0) := (cell_in hbE 2).trans rfl
    clear hE0
    refine bodyPost_ret (v := .tuple #[.agg #[.int .i64 0, .int .u32 0, .slice none 0 0], .int .i64 4]) (by simp [results, Try.results23, go_sem, d0, d1, d2]) rfl ?_
    exact ⟨n1, n2, x3, s3, hT.out, ⟨lo1, hi1⟩, ⟨lo2, hi2⟩, hbt, hoT.new hoE (by simpa using hX1), .inr (.inr ⟨Heb.out.symm, rfl⟩)⟩
  · by_cases h256 : 256 < x3.length
    · have d256 : decide ((256 : Int) < x3.length) = true := by simp; omega
      go_wp2_with fail
      generalize hE : (((W5.setCell ⟨X, 0, none⟩ (.int .i64 0)).setCell ⟨X, 1, none⟩ (.int .u32 0)).setCell ⟨X, 2, none⟩ (.slice none 0 0)) = wE
      have hE0 : wE = setAll W5 X 0 [.int .i64 0, .int .u32 0, .slice none 0 0] := hE.symm
      clear hE
      have hoE : Only W5 wE [X] := hE0 ▸ setAll_only _ _ _ _
      have hbE : wE.heap[X]? = _ := hE0 ▸ setAll_at _ 0 hXV
      have d0 : wE.cell? ⟨X, 0, none⟩ = some (.int .i64 0) := (cell_in hbE 0).trans rfl
      have d1 : wE.cell? ⟨X, 1, none⟩ = some (.int .u32 0) := (cell_in hbE 1).trans rfl
      have d2 : wE.cell? ⟨X, 2, none⟩ = some (.slice none 0 0) := (cell_in hbE 2).trans rfl
      clear hE0
      refine bodyPost_ret (v := .tuple #[.agg #[.int .i64 0, .int .u32 0, .slice none 0 0], .int .i64 5]) (by simp [results, Try.results23, go_sem, d0, d1, d2]) rfl ?_
      exact ⟨n1, n2, x3, s3, hT.out, ⟨lo1, hi1⟩, ⟨lo2, hi2⟩, hbt, hoT.new hoE (by simpa using hX1), .inr (.inl ⟨Heb.out.symm, h256, rfl⟩)⟩
    · have d256 : decide ((256 : Int) < x3.length) = false := by simp; omega
      go_wp2_with fail
      generalize hE : (((W5.setCell ⟨X, 0, none⟩ (.int .i64 n1)).setCell ⟨X, 1, none⟩ (.int .u32 n2)).setCell ⟨X, 2, none⟩ (.slice a3 x3.length c3)) = wE
      have hE0 : wE = setAll W5 X 0 [.int .i64 n1, .int .u32 n2, .slice a3 x3.length c3] := hE.symm
      clear hE
      have hoE : Only W5 wE [X] := hE0 ▸ setAll_only _ _ _ _
      have hbE : wE.heap[X]? = _ := hE0 ▸ setAll_at _ 0 hXV
      have d0 : wE.cell? ⟨X, 0, none⟩ = some (.int .i64 n1) := (cell_in hbE 0).trans rfl
      have d1 : wE.cell? ⟨X, 1, none⟩ = some (.int .u32 n2) := (cell_in hbE 1).trans rfl
      have d2 : wE.cell? ⟨X, 2, none⟩ = some (.slice a3 x3.length c3) := (cell_in hbE 2).trans rfl
      clear hE0
      refine bodyPost_ret (v := .tuple #[.agg #[.int .i64 n1, .int .u32 n2, .slice a3 x3.length c3], .int .i64 0]) (by simp [results, Try.results23, go_sem, d0, d1, d2]) rfl ?_
      exact ⟨n1, n2, x3, s3, hT.out, ⟨lo1, hi1⟩, ⟨lo2, hi2⟩, hbt, hoT.new hoE (by simpa using hX1), .inl ⟨Heb.out.symm, by omega, _, rfl, (gT.next hoE (by simpa using hX2p)).mono hw2⟩⟩

end Go.Proofs.Ytemlpjfngaemdaa
