/- The contracts of package envelope's reading side, second part: readIdent, readHello, ReadHello, DecodeInner, DecodeBundle, Decode at any bytes, fewer than 1000000001 of them. -/
import Derived.Test.YtemlpjfngaemdaaEnvR
namespace Go.Proofs.Ytemlpjfngaemdaa
open Go.RowKit Go.Pw
set_option linter.unusedVariables false

/-- A row of cells stored, one behind the other. -/
def setAll (w : World) (X : Nat) : Nat → List Value → World
  | _, [] => w
  | i, v :: vs => setAll (w.setCell ⟨X, i, none⟩ v) X (i + 1) vs
def putAll (cs : Array Value) : Nat → List Value → Array Value
  | _, [] => cs
  | i, v :: vs => putAll (cs.setIfInBounds i v) (i + 1) vs
theorem setAll_only (X : Nat) (vs : List Value) : ∀ (w : World) (i : Nat), Only w (setAll w X i vs) [X] := by
  induction vs with
  | nil => intro w i; exact Only.refl _ _
  | cons v vs ih => intro w i; exact (Only.setCell w ⟨X, i, none⟩ v [X] (by simp)).trans (ih _ _)
theorem setAll_at {X : Nat} {T : TypeId} {fr : Nat × Nat} (vs : List Value) : ∀ {w : World} {cs : Array Value} (i : Nat), w.heap[X]? = some (.cells cs T fr) → (setAll w X i vs).heap[X]? = some (.cells (putAll cs i vs) T fr) := by
  induction vs with
  | nil => intro w cs i h; exact h
  | cons v vs ih => intro w cs i h; exact ih (i + 1) (set_at h v)

def OkIdent (W : World) (a : List Int × List Int) (v : Value) (w : World) : Prop := ∃ va vs, v = .agg #[va, vs] ∧ Got W w va a.1 ∧ Got W w vs a.2 ∧ a.1.length ≤ 65536 ∧ a.2.length ≤ 65536

set_option maxHeartbeats 800000 in
theorem readident_rt {R : Nat} {p : Value} {s : List Int × Bool} {W w : World} (h : RT R p s W w) :
    Calls Try.prog 56 #[.pointer (some ⟨R, 0, none⟩)] w (Ans pI R p s W (OkIdent w)) := by
  go_enter Try.func56, Try.ntmps56
  go_wp2_with fail
  obtain ⟨W0, X, hW, hX, hb, hoW, hX1, hX2⟩ := new_block w (.cells #[.slice none 0 0, .slice none 0 0] 36)
  rw [← hW, ← hX]
  clear hW hX
  have hWX : W.heap.size ≤ X := Nat.le_trans h.only.size hX1
  have hRX : X ∉ [R] := by have := h.rlt; simp; omega
  refine (rbytes_rt (h.new hoW).here).mono ?_
  rintro e w1 ⟨v1, x1, s1, H1, rfl, g1, l1, r1⟩
  obtain ⟨⟨a1, c1, rfl⟩, _⟩ := id g1
  go_wp2_with fail
  refine (rbytes_rt r1.here).mono ?_
  rintro e w2 ⟨v2, x2, s2, H2, rfl, g2, l2, r2⟩
  obtain ⟨⟨a2, c2, rfl⟩, _⟩ := id g2
  have hb2 := (r1.back r2).only.at hb hRX
  have k1 := g1.next r2.only (by have := (h.new hoW).here.rlt; simpa using this)
  have e0 := cell_in hb2 0
  have e1 := cell_in hb2 1
  have f0 := free_in hb2 0
  have f1 := free_in hb2 1
  go_wp2_with fail
  have hb3 := (set_at (i := 1) (set_at (i := 0) hb2 (.slice a1 x1.length c1)) (.slice a2 x2.length c2))
  have d0 := cell_in hb3 0
  have d1 := cell_in hb3 1
  have ho : Only w2 ((w2.setCell ⟨X, 0, none⟩ (.slice a1 x1.length c1)).setCell ⟨X, 1, none⟩ (.slice a2 x2.length c2)) [X] := by repeat (first | exact Only.setCell _ _ _ _ (by simp) | refine Only.trans ?_ (Only.setCell _ _ _ _ (by simp)))
  generalize ((w2.setCell ⟨X, 0, none⟩ (.slice a1 x1.length c1)).setCell ⟨X, 1, none⟩ (.slice a2 x2.length c2)) = w3 at *
  simp at d0 d1
  have hX0 : ∀ k ∈ [X], k < W0.heap.size := by simpa using hX2
  refine bodyPost_ret (v := .agg #[.slice a1 x1.length c1, .slice a2 x2.length c2]) (by simp [results, Try.results56, go_sem, d0, d1]) rfl ?_
  refine ⟨(x1, x2), s2, _, by simp [pI, H1.out, H2.out], rfl, ⟨_, _, rfl, (k1.next ho hX0).mono hoW.size, ((g2.mono r1.only.size).next ho hX0).mono hoW.size, l1, l2⟩, ((h.new hoW).back (r1.back r2)).keep ho (by simpa using hWX)⟩

/-- What is read of a Hello. -/
structure HelloD where
  ag : List Int
  sg : List Int
  key : List Int
  signed : Int
  has : Bool
  once : Int

def pH (s : List Int × Bool) : HelloD × List Int × Bool :=
  let i := pI s
  let k := pB i.2
  let g := pN k.2
  let h := pF g.2
  if h.1 then let o := pN h.2; (⟨i.1.1, i.1.2, k.1, g.1, true, o.1⟩, o.2) else (⟨i.1.1, i.1.2, k.1, g.1, false, 0⟩, h.2)

structure GotH (W w : World) (a : HelloD) (va vs vk : Value) : Prop where
  ga : Got W w va a.ag
  gs : Got W w vs a.sg
  gk : Got W w vk a.key
  la : a.ag.length ≤ 65536
  ls : a.sg.length ≤ 65536
  lk : a.key.length ≤ 65536
  us : U32 a.signed
  uo : U32 a.once
theorem GotH.next {W w w' : World} {a : HelloD} {va vs vk : Value} {L : List Nat} (h : GotH W w a va vs vk) (ho : Only w w' L) (hL : ∀ k ∈ L, k < W.heap.size) : GotH W w' a va vs vk :=
  ⟨h.ga.next ho hL, h.gs.next ho hL, h.gk.next ho hL, h.la, h.ls, h.lk, h.us, h.uo⟩
theorem Got.keep {W w w' : World} {v : Value} {xs : List Int} {L : List Nat} (h : Got W w v xs) (ho : Only w w' L) (hL : ∀ k ∈ L, k < W.heap.size ∨ w.heap.size ≤ k) : Got W w' v xs := by
  obtain ⟨h1, h2, h3, h4⟩ := h
  refine ⟨h1, Src.off h2 ho (fun hm k hk hkL => ?_), h3, h4⟩
  have a1 := h3 k hk
  have a2 := Src.lt h2 (by decide) hm k hk
  rcases hL k hkL with h | h <;> omega
theorem GotH.keep {W w w' : World} {a : HelloD} {va vs vk : Value} {L : List Nat} (h : GotH W w a va vs vk) (ho : Only w w' L) (hL : ∀ k ∈ L, k < W.heap.size ∨ w.heap.size ≤ k) : GotH W w' a va vs vk :=
  ⟨h.ga.keep ho hL, h.gs.keep ho hL, h.gk.keep ho hL, h.la, h.ls, h.lk, h.us, h.uo⟩
theorem GotH.mono {W W' w : World} {a : HelloD} {va vs vk : Value} (h : GotH W w a va vs vk) (hs : W'.heap.size ≤ W.heap.size) : GotH W' w a va vs vk :=
  ⟨h.ga.mono hs, h.gs.mono hs, h.gk.mono hs, h.la, h.ls, h.lk, h.us, h.uo⟩
def OkHello (W : World) (a : HelloD) (v : Value) (w : World) : Prop := ∃ va vs vk, v = .agg #[va, vs, vk, .int .u32 a.signed, .bool a.has, .int .u32 a.once] ∧ GotH W w a va vs vk

set_option maxRecDepth 100000 in
set_option maxHeartbeats 1600000 in
theorem readhello_rt {R : Nat} {p : Value} {s : List Int × Bool} {W w : World} (h : RT R p s W w) :
    Calls Try.prog 51 #[.pointer (some ⟨R, 0, none⟩)] w (Ans pH R p s W (OkHello w)) := by
  go_enter Try.func51, Try.ntmps51
  go_wp2_with fail
  obtain ⟨W0, X, hW, hX, hb, hoW, hX1, hX2⟩ := new_block w (.cells #[.slice none 0 0, .slice none 0 0, .slice none 0 0, .int .u32 0, .bool false, .int .u32 0] 39)
  rw [← hW, ← hX]
  clear hW hX
  have hWX : W.heap.size ≤ X := Nat.le_trans h.only.size hX1
  have hRX : X ∉ [R] := by have := h.rlt; simp; omega
  refine (readident_rt (h.new hoW).here).mono ?_
  rintro e w1 ⟨⟨x1, x2⟩, s1, v1, H1, rfl, ⟨va, vs, rfl, g1, g2, l1, l2⟩, r1⟩
  obtain ⟨⟨a1, c1, rfl⟩, _⟩ := id g1
  obtain ⟨⟨a2, c2, rfl⟩, _⟩ := id g2
  have H1 := Lib.hid H1
  go_wp2_with fail
  refine (rbytes_rt r1.here).mono ?_
  rintro e w2 ⟨v3, x3, s2, H2, rfl, g3, l3, r2⟩
  obtain ⟨⟨a3, c3, rfl⟩, _⟩ := id g3
  go_wp2_with fail
  refine (rnum_rt r2.here).mono ?_
  rintro e w3 ⟨n4, s3, H3, rfl, lo4, hi4, r3⟩
  go_wp2_with fail
  refine (rflag_rt r3.here).mono ?_
  rintro e w4 ⟨b5, s4, H4, rfl, r4⟩
  have r04 : RT R p s4 W0 w4 := ((r1.back r2).back r3).back r4
  have hR0 : ∀ k ∈ [R], k < W0.heap.size := by have := (h.new hoW).here.rlt; simpa using this
  have g1 := ((g1.next r2.only hR0).next r3.only hR0).next r4.only hR0
  have g2 := ((g2.next r2.only hR0).next r3.only hR0).next r4.only hR0
  have g3 := ((g3.mono r1.only.size).next r3.only hR0).next r4.only hR0
  have hb4 := r04.only.at hb hRX
  cases b5
  · have e0 := cell_al (cell_in hb4 0)
    have e1 := cell_al (cell_in hb4 1)
    have e2 := cell_al (cell_in hb4 2)
    have e3 := cell_al (cell_in hb4 3)
    have e4 := cell_al (cell_in hb4 4)
    have e5 := cell_al (cell_in hb4 5)
    have f0 := free_al (cell_in hb4 0) (free_in hb4 0)
    have f1 := free_al (cell_in hb4 1) (free_in hb4 1)
    have f2 := free_al (cell_in hb4 2) (free_in hb4 2)
    have f3 := free_al (cell_in hb4 3) (free_in hb4 3)
    have f4 := free_al (cell_in hb4 4) (free_in hb4 4)
    have f5 := free_al (cell_in hb4 5) (free_in hb4 5)
    go_wp2_with fail
    have hbV := (Only.alloc w4 (.cells #[.slice a1 x1.length c1, .slice a2 x2.length c2, .slice a3 x3.length c3, .int .u32 n4, .bool false, .int .u32 0] 39) []).at hb4 (by simp)
    have hoV := Only.alloc w4 (.cells #[.slice a1 x1.length c1, .slice a2 x2.length c2, .slice a3 x3.length c3, .int .u32 n4, .bool false, .int .u32 0] 39) []
    generalize hE : (((((((w4.alloc (.cells #[.slice a1 x1.length c1, .slice a2 x2.length c2, .slice a3 x3.length c3, .int .u32 n4, .bool false, .int .u32 0] 39)).setCell ⟨X, 0, none⟩ (.slice a1 x1.length c1)).setCell ⟨X, 1, none⟩ (.slice a2 x2.length c2)).setCell ⟨X, 2, none⟩ (.slice a3 x3.length c3)).setCell ⟨X, 3, none⟩ (.int .u32 n4)).setCell ⟨X, 4, none⟩ (.bool false)).setCell ⟨X, 5, none⟩ (.int .u32 0)) = wE
    have hE0 : wE = setAll (w4.alloc (.cells #[.slice a1 x1.length c1, .slice a2 x2.length c2, .slice a3 x3.length c3, .int .u32 n4, .bool false, .int .u32 0] 39)) X 0 [.slice a1 x1.length c1, .slice a2 x2.length c2, .slice a3 x3.length c3, .int .u32 n4, .bool false, .int .u32 0] := hE.symm
    clear hE
    have hoE : Only (w4.alloc (.cells #[.slice a1 x1.length c1, .slice a2 x2.length c2, .slice a3 x3.length c3, .int .u32 n4, .bool false, .int .u32 0] 39)) wE [X] := hE0 ▸ setAll_only _ _ _ _
    have hbE : wE.heap[X]? = _ := hE0 ▸ setAll_at _ 0 hbV
    have d0 : wE.cell? ⟨X, 0, none⟩ = some (.slice a1 x1.length c1) := (cell_in hbE 0).trans rfl
    have d1 : wE.cell? ⟨X, 1, none⟩ = some (.slice a2 x2.length c2) := (cell_in hbE 1).trans rfl
    have d2 : wE.cell? ⟨X, 2, none⟩ = some (.slice a3 x3.length c3) := (cell_in hbE 2).trans rfl
    have d3 : wE.cell? ⟨X, 3, none⟩ = some (.int .u32 n4) := (cell_in hbE 3).trans rfl
    have d4 : wE.cell? ⟨X, 4, none⟩ = some (.bool false) := (cell_in hbE 4).trans rfl
    have d5 : wE.cell? ⟨X, 5, none⟩ = some (.int .u32 0) := (cell_in hbE 5).trans rfl
    clear hE0
    have hX0 : ∀ k ∈ [X], k < W0.heap.size := by simpa using hX2
    refine bodyPost_ret (v := .agg #[.slice a1 x1.length c1, .slice a2 x2.length c2, .slice a3 x3.length c3, .int .u32 n4, .bool false, .int .u32 0]) (by simp [results, Try.results51, go_sem, d0, d1, d2, d3, d4, d5]) rfl ?_
    refine ⟨⟨x1, x2, x3, n4, false, 0⟩, s4, _, by simp [pH, H1.out, H2.out, H3.out, H4.out], rfl, ⟨_, _, _, rfl, ((GotH.next (L := []) ⟨g1, g2, g3, l1, l2, l3, ⟨lo4, hi4⟩, by simp [U32]⟩ hoV (by simp)).next hoE hX0).mono hoW.size⟩, (((h.new hoW).back r04).new hoV).keep hoE (by simpa using hWX)⟩
  · go_wp2_with fail
    obtain ⟨W5, Y, hW, hY, hy, hoY, hY1, hY2⟩ := new_block w4 (.cells #[.slice a1 x1.length c1, .slice a2 x2.length c2, .slice a3 x3.length c3, .int .u32 n4, .bool true, .int .u32 0] 39)
    rw [← hW, ← hY]
    clear hW hY
    have hRY : Y ∉ [R] := by have := r4.here.rlt; simp; omega
    refine (rnum_rt (r4.here.new hoY).here).mono ?_
    rintro e w5 ⟨n6, s5, H5, rfl, lo6, hi6, r5⟩
    have hy5 := r5.only.at hy hRY
    have hb5 := r5.only.at (hoY.at hb4 (by simp)) hRX
    have hne : X ≠ Y := by have := (Array.getElem?_eq_some_iff.1 hb4).1; omega
    have hne' : Y ≠ X := fun h => hne h.symm
    have y0 := cell_in hy5 0
    have y1 := cell_in hy5 1
    have y2 := cell_in hy5 2
    have y3 := cell_in hy5 3
    have y4 := cell_in hy5 4
    have y5 := cell_in hy5 5
    have yf0 := free_in hy5 0
    have yf1 := free_in hy5 1
    have yf2 := free_in hy5 2
    have yf3 := free_in hy5 3
    have yf4 := free_in hy5 4
    have yf5 := free_in hy5 5
    have x_0 := cell_in hb5 0
    have x_1 := cell_in hb5 1
    have x_2 := cell_in hb5 2
    have x_3 := cell_in hb5 3
    have x_4 := cell_in hb5 4
    have x_5 := cell_in hb5 5
    have xf0 := free_in hb5 0
    have xf1 := free_in hb5 1
    have xf2 := free_in hb5 2
    have xf3 := free_in hb5 3
    have xf4 := free_in hb5 4
    have xf5 := free_in hb5 5
    go_wp2_with fail
    have hoV : Only w5 (w5.setCell ⟨Y, 5, none⟩ (.int .u32 n6)) [Y] := Only.setCell _ _ _ _ (by simp)
    have hbV := hoV.at hb5 (by simpa using hne)
    generalize hE : (((((((w5.setCell ⟨Y, 5, none⟩ (.int .u32 n6)).setCell ⟨X, 0, none⟩ (.slice a1 x1.length c1)).setCell ⟨X, 1, none⟩ (.slice a2 x2.length c2)).setCell ⟨X, 2, none⟩ (.slice a3 x3.length c3)).setCell ⟨X, 3, none⟩ (.int .u32 n4)).setCell ⟨X, 4, none⟩ (.bool true)).setCell ⟨X, 5, none⟩ (.int .u32 n6)) = wE
    have hE0 : wE = setAll (w5.setCell ⟨Y, 5, none⟩ (.int .u32 n6)) X 0 [.slice a1 x1.length c1, .slice a2 x2.length c2, .slice a3 x3.length c3, .int .u32 n4, .bool true, .int .u32 n6] := hE.symm
    clear hE
    have hoE : Only (w5.setCell ⟨Y, 5, none⟩ (.int .u32 n6)) wE [X] := hE0 ▸ setAll_only _ _ _ _
    have hbE : wE.heap[X]? = _ := hE0 ▸ setAll_at _ 0 hbV
    have d0 : wE.cell? ⟨X, 0, none⟩ = some (.slice a1 x1.length c1) := (cell_in hbE 0).trans rfl
    have d1 : wE.cell? ⟨X, 1, none⟩ = some (.slice a2 x2.length c2) := (cell_in hbE 1).trans rfl
    have d2 : wE.cell? ⟨X, 2, none⟩ = some (.slice a3 x3.length c3) := (cell_in hbE 2).trans rfl
    have d3 : wE.cell? ⟨X, 3, none⟩ = some (.int .u32 n4) := (cell_in hbE 3).trans rfl
    have d4 : wE.cell? ⟨X, 4, none⟩ = some (.bool true) := (cell_in hbE 4).trans rfl
    have d5 : wE.cell? ⟨X, 5, none⟩ = some (.int .u32 n6) := (cell_in hbE 5).trans rfl
    clear hE0
    have hX0 : ∀ k ∈ [X], k < W0.heap.size := by simpa using hX2
    refine bodyPost_ret (v := .agg #[.slice a1 x1.length c1, .slice a2 x2.length c2, .slice a3 x3.length c3, .int .u32 n4, .bool true, .int .u32 n6]) (by simp [results, Try.results51, go_sem, d0, d1, d2, d3, d4, d5]) rfl ?_
    have hWY : ∀ k ∈ [Y], W0.heap.size ≤ k := by have := r04.only.size; simp; omega
    have hRr := hR0 R (by simp)
    have hoT : Only w4 wE [R, Y, X] := (((hoY.mono (by simp)).trans (r5.only.mono (fun k _ hk => by simp at hk; simp [hk]))).trans (hoV.mono (fun k _ hk => by simp at hk; simp [hk]))).trans (hoE.mono (fun k _ hk => by simp at hk; simp [hk]))
    have k2 := (GotH.mk (W := W0) (w := w4) (a := ⟨x1, x2, x3, n4, true, n6⟩) g1 g2 g3 l1 l2 l3 ⟨lo4, hi4⟩ ⟨lo6, hi6⟩).keep hoT (by simp; omega)
    exact ⟨⟨x1, x2, x3, n4, true, n6⟩, s5, _, by simp [pH, H1.out, H2.out, H3.out, H4.out, H5.out], rfl, ⟨_, _, _, rfl, k2.mono hoW.size⟩, ((((h.new hoW).back r04).back ((r4.here.new hoY).back r5)).keep hoV (fun k hk => Nat.le_trans (Nat.le_trans h.only.size hoW.size) (hWY k hk))).keep hoE (by simpa using hWX)⟩

end Go.Proofs.Ytemlpjfngaemdaa
