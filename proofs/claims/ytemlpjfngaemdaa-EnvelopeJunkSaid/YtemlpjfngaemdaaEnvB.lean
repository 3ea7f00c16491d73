/- The contract of envelope.DecodeBundle at any bytes; what EncodeBundle has laid is read back. -/
import Derived.Test.YtemlpjfngaemdaaEnvH
namespace Go.Proofs.Ytemlpjfngaemdaa
open Go.RowKit Go.Pw
set_option linter.unusedVariables false

theorem putAll_at (vs : List Value) : ∀ (cs : Array Value) (i j : Nat), i + vs.length ≤ cs.size → (putAll cs i vs)[j]? = if i ≤ j ∧ j < i + vs.length then vs[j - i]? else cs[j]? := by
  induction vs with
  | nil => intro cs i j _; simp [putAll]; omega
  | cons v vs ih =>
    intro cs i j h
    simp only [List.length_cons] at h
    rw [putAll, ih _ _ _ (by simp; omega), Array.getElem?_setIfInBounds]
    by_cases e : i = j
    · subst e
      have g1 : ¬ (i + 1 ≤ i ∧ i < i + 1 + vs.length) := by omega
      have g2 : i ≤ i ∧ i < i + (v :: vs).length := by simp only [List.length_cons]; omega
      rw [if_neg g1, if_pos rfl, if_pos (by omega), if_pos g2, Nat.sub_self]
      rfl
    · by_cases g : i + 1 ≤ j ∧ j < i + 1 + vs.length
      · have g2 : i ≤ j ∧ j < i + (v :: vs).length := by simp only [List.length_cons]; omega
        rw [if_pos g, if_pos g2, show j - i = (j - (i + 1)) + 1 by omega]
        simp
      · have g2 : ¬ (i ≤ j ∧ j < i + (v :: vs).length) := by simp only [List.length_cons]; omega
        rw [if_neg g, if_neg g2, if_neg e]
theorem setAll_lit {X : Nat} {T : TypeId} {fr : Nat × Nat} {w : World} {cs : Array Value} (vs : List Value) (h : w.heap[X]? = some (.cells cs T fr)) (hz : cs.size = vs.length) : (setAll w X 0 vs).heap[X]? = some (.cells vs.toArray T fr) := by
  rw [setAll_at vs 0 h]
  congr 2
  apply Array.ext_getElem?
  intro j
  rw [putAll_at vs cs 0 j (by omega)]
  by_cases g : j < vs.length
  · simp [g]
  · simp [g]
    omega

structure BundD where
  u : Int
  d : Int
  ag : List Int
  sg : List Int
  signed : Int
  key : List Int
  sig : List Int
  has : Bool
  once : Int
  oncek : List Int

def pBd (s : List Int × Bool) : BundD × List Int × Bool :=
  let a := pW s
  let i := pI a.2
  let n := pN i.2
  let k := pB n.2
  let q := pB k.2
  let h := pF q.2
  if h.1 then
    let o := pN h.2
    let y := pB o.2
    (⟨a.1.1, a.1.2, i.1.1, i.1.2, n.1, k.1, q.1, true, o.1, y.1⟩, y.2)
  else (⟨a.1.1, a.1.2, i.1.1, i.1.2, n.1, k.1, q.1, false, 0, []⟩, h.2)

structure GotB (W w : World) (a : BundD) (va vs vk vq vo : Value) : Prop where
  ga : Got W w va a.ag
  gs : Got W w vs a.sg
  gk : Got W w vk a.key
  gq : Got W w vq a.sig
  go : Got W w vo a.oncek
  la : a.ag.length ≤ 65536
  ls : a.sg.length ≤ 65536
  lk : a.key.length ≤ 65536
  lq : a.sig.length ≤ 65536
  lo : a.oncek.length ≤ 65536
  uu : U32 a.u
  ud : U32 a.d
  us : U32 a.signed
  uo : U32 a.once
theorem GotB.next {W w w' : World} {a : BundD} {va vs vk vq vo : Value} {L : List Nat} (h : GotB W w a va vs vk vq vo) (ho : Only w w' L) (hL : ∀ k ∈ L, k < W.heap.size) : GotB W w' a va vs vk vq vo :=
  ⟨h.ga.next ho hL, h.gs.next ho hL, h.gk.next ho hL, h.gq.next ho hL, h.go.next ho hL, h.la, h.ls, h.lk, h.lq, h.lo, h.uu, h.ud, h.us, h.uo⟩
theorem GotB.keep {W w w' : World} {a : BundD} {va vs vk vq vo : Value} {L : List Nat} (h : GotB W w a va vs vk vq vo) (ho : Only w w' L) (hL : ∀ k ∈ L, k < W.heap.size ∨ w.heap.size ≤ k) : GotB W w' a va vs vk vq vo :=
  ⟨h.ga.keep ho hL, h.gs.keep ho hL, h.gk.keep ho hL, h.gq.keep ho hL, h.go.keep ho hL, h.la, h.ls, h.lk, h.lq, h.lo, h.uu, h.ud, h.us, h.uo⟩
theorem GotB.mono {W W' w : World} {a : BundD} {va vs vk vq vo : Value} (h : GotB W w a va vs vk vq vo) (hs : W'.heap.size ≤ W.heap.size) : GotB W' w a va vs vk vq vo :=
  ⟨h.ga.mono hs, h.gs.mono hs, h.gk.mono hs, h.gq.mono hs, h.go.mono hs, h.la, h.ls, h.lk, h.lq, h.lo, h.uu, h.ud, h.us, h.uo⟩

/-- A bundle, as a value. -/
def bdV (a : BundD) (va vs vk vq vo : Value) : Value := .agg #[.int .i64 a.u, .int .i64 a.d, va, vs, .int .u32 a.signed, vk, vq, .bool a.has, .int .u32 a.once, vo]
def bd0 : Value := .agg #[.int .i64 0, .int .i64 0, .slice none 0 0, .slice none 0 0, .int .u32 0, .slice none 0 0, .slice none 0 0, .bool false, .int .u32 0, .slice none 0 0]

/-- What DecodeBundle answers. -/
def DecB (ps : List Int) (w : World) (e : Ending) (w' : World) : Prop :=
  ∃ a s, pBd (ps, false) = (a, s) ∧ Only w w' [] ∧
    ((Ends s = true ∧ ∃ va vs vk vq vo, e = .returned (.tuple #[bdV a va vs vk vq vo, .int .i64 0]) ∧ GotB w w' a va vs vk vq vo) ∨
     (Ends s = false ∧ e = .returned (.tuple #[bd0, .int .i64 4])))

set_option maxRecDepth 100000 in
set_option maxHeartbeats 6400000 in
theorem decbundle_any (p : Value) (ps : List Int) (w : World) (hp : Rd w p ps) (hb : Byt ps) (hl : ps.length ≤ 1000000000) :
    Calls Try.prog 40 #[p] w (DecB ps w) := by
  obtain ⟨ao, c, rfl⟩ := hp.slice
  go_enter Try.func40, Try.ntmps40
  go_wp2_with fail
  obtain ⟨W0, X, hW, hX, hbX, hoW, hX1, hX2⟩ := new_block w (.cells #[.int .i64 0, .int .i64 0, .slice none 0 0, .slice none 0 0, .int .u32 0, .slice none 0 0, .slice none 0 0, .bool false, .int .u32 0, .slice none 0 0] 76)
  rw [← hW, ← hX]
  have hs0 : W0.heap.size = X + 1 := by rw [hW, hX]; simp
  clear hW hX
  refine (rread_any _ _ _ _).mono ?_
  rintro e W1' ⟨rfl, rfl⟩
  obtain ⟨W1, R, hW, hR, hbR, hoR, hR1, hR2⟩ := new_block W0 (.cells #[.slice ao ps.length c, .bool false] 87)
  rw [← hW, ← hR]
  clear hW hR
  have r0 := rt_new hp hb hl (hoW.trans hoR) hbR
  have hXR : X ≠ R := by omega
  have hX0 : X ∉ [R] := by simpa using hXR
  have hX1b := hoR.at hbX (by simp)
  clear hp hb hbX
  go_wp2_with fail
  refine (readwho_rt r0).mono ?_
  rintro e w1 ⟨⟨u, d⟩, s1, v1, H1, rfl, ⟨rfl, uu, ud⟩, r1⟩
  have H1 := Lib.hid H1
  dsimp only at uu ud ⊢
  go_wp2_with fail
  refine (readident_rt r1.here).mono ?_
  rintro e w2 ⟨⟨x1, x2⟩, s2, v2, H2, rfl, ⟨va, vs, rfl, g1, g2, l1, l2⟩, r2⟩
  have H2 := Lib.hid H2
  dsimp only at g1 g2 l1 l2
  obtain ⟨⟨a1, c1, rfl⟩, _⟩ := id g1
  obtain ⟨⟨a2, c2, rfl⟩, _⟩ := id g2
  go_wp2_with fail
  refine (rnum_rt r2.here).mono ?_
  rintro e w3 ⟨n3, s3, H3, rfl, lo3, hi3, r3⟩
  go_wp2_with fail
  refine (rbytes_rt r3.here).mono ?_
  rintro e w4 ⟨v4, x4, s4, H4, rfl, g4, l4, r4⟩
  obtain ⟨⟨a4, c4, rfl⟩, _⟩ := id g4
  go_wp2_with fail
  refine (rbytes_rt r4.here).mono ?_
  rintro e w5 ⟨v5, x5, s5, H5, rfl, g5, l5, r5⟩
  obtain ⟨⟨a5, c5, rfl⟩, _⟩ := id g5
  go_wp2_with fail
  refine (rflag_rt r5.here).mono ?_
  rintro e w6 ⟨b6, s6, H6, rfl, r6⟩
  have r06 : RT R _ s6 W1 w6 := ((((r1.back r2).back r3).back r4).back r5).back r6
  have hRW := r0.rlt
  have z1 := r1.only.size
  have z2 := r2.only.size
  have z3 := r3.only.size
  have z4 := r4.only.size
  have z5 := r5.only.size
  have z6 := r6.only.size
  have hRk : ∀ (W' : World), W1.heap.size ≤ W'.heap.size → ∀ k ∈ [R], k < W'.heap.size := fun W' hz k hk => by simp at hk; subst hk; omega
  have g1 := ((((g1.next r3.only (hRk _ (by omega))).next r4.only (hRk _ (by omega))).next r5.only (hRk _ (by omega))).next r6.only (hRk _ (by omega))).mono (W' := W1) (by omega)
  have g2 := ((((g2.next r3.only (hRk _ (by omega))).next r4.only (hRk _ (by omega))).next r5.only (hRk _ (by omega))).next r6.only (hRk _ (by omega))).mono (W' := W1) (by omega)
  have g4 := ((g4.next r5.only (hRk _ (by omega))).next r6.only (hRk _ (by omega))).mono (W' := W1) (by omega)
  have g5 := (g5.next r6.only (hRk _ (by omega))).mono (W' := W1) (by omega)
  have hX6 := r06.only.at hX1b hX0
  have hzW : W1.heap.size ≤ w6.heap.size := by omega
  have hwW : w.heap.size ≤ W1.heap.size := (hoW.trans hoR).size
  have hXW : X < W1.heap.size := by have := hoR.size; omega
  have hXX : ∀ k ∈ [X], w.heap.size ≤ k := by simpa using hX1
  have hXX' : ∀ k ∈ [X], k < W1.heap.size := by simpa using hXW
  have hX6s := (Array.getElem?_eq_some_iff.1 hX6).1
  clear r1 r2 r3 r4 r5 hRk z1 z2 z3 z4 z5 z6 hX1b
  have ho6 : Only w w6 [] := (hoW.trans hoR).step r06.only (fun k hk => .inr (by simp at hk; subst hk; exact Nat.le_trans hoW.size hR1))
  cases b6
  · go_wp2_with fail
    obtain ⟨V, Y, hW, hY, hyV, hoY, hY1, hY2⟩ := new_block w6 (.cells #[.int .i64 u, .int .i64 d, .slice a1 x1.length c1, .slice a2 x2.length c2, .int .u32 n3, .slice a4 x4.length c4, .slice a5 x5.length c5, .bool false, .int .u32 0, .slice none 0 0] 76)
    rw [← hW, ← hY]
    clear hW hY
    have hXV := hoY.at hX6 (by simp)
    have hne : X ≠ Y := by omega
    have hne' : Y ≠ X := fun h => hne h.symm
    have rV := r06.new hoY
    have hoV := ho6.trans hoY
    have gV : GotB W1 V ⟨u, d, x1, x2, n3, x4, x5, false, 0, []⟩ _ _ _ _ _ := GotB.next (L := []) ⟨g1, g2, g4, g5, got_nil W1 w6, l1, l2, l4, l5, by simp, uu, ud, ⟨lo3, hi3⟩, ⟨by simp, by simp⟩⟩ hoY (by simp)
    have HT : Hid (pBd (ps, false) = (⟨u, d, x1, x2, n3, x4, x5, false, 0, []⟩, s6)) := show _ = _ by simp [pBd, H1.out, H2.out, H3.out, H4.out, H5.out, H6.out]
    clear g1 g2 g4 g5 r06 r6 hX6 hoY hbR
    refine (rend_rt rV).mono ?_
    rintro e wE0 ⟨rfl, rfl⟩
    obtain ⟨eb, heb⟩ : ∃ eb, eb = (!s6.2 && decide (s6.1.length = 0)) := ⟨_, rfl⟩
    rw [← heb]
    have Heb := Lib.hid heb
    clear heb
    have y0 := cell_in hyV 0
    have y1 := cell_in hyV 1
    have y2 := cell_in hyV 2
    have y3 := cell_in hyV 3
    have y4 := cell_in hyV 4
    have y5 := cell_in hyV 5
    have y6 := cell_in hyV 6
    have y7 := cell_in hyV 7
    have y8 := cell_in hyV 8
    have y9 := cell_in hyV 9
    have x_0 := cell_in hXV 0
    have x_1 := cell_in hXV 1
    have x_2 := cell_in hXV 2
    have x_3 := cell_in hXV 3
    have x_4 := cell_in hXV 4
    have x_5 := cell_in hXV 5
    have x_6 := cell_in hXV 6
    have x_7 := cell_in hXV 7
    have x_8 := cell_in hXV 8
    have x_9 := cell_in hXV 9
    have xf0 := free_in hXV 0
    have xf1 := free_in hXV 1
    have xf2 := free_in hXV 2
    have xf3 := free_in hXV 3
    have xf4 := free_in hXV 4
    have xf5 := free_in hXV 5
    have xf6 := free_in hXV 6
    have xf7 := free_in hXV 7
    have xf8 := free_in hXV 8
    have xf9 := free_in hXV 9
    cases eb
    · go_wp2_with fail
      have hE0 : ((((((((((V.setCell ⟨X, 0, none⟩ (.int .i64 0)).setCell ⟨X, 1, none⟩ (.int .i64 0)).setCell ⟨X, 2, none⟩ (.slice none 0 0)).setCell ⟨X, 3, none⟩ (.slice none 0 0)).setCell ⟨X, 4, none⟩ (.int .u32 0)).setCell ⟨X, 5, none⟩ (.slice none 0 0)).setCell ⟨X, 6, none⟩ (.slice none 0 0)).setCell ⟨X, 7, none⟩ (.bool false)).setCell ⟨X, 8, none⟩ (.int .u32 0)).setCell ⟨X, 9, none⟩ (.slice none 0 0)) = setAll V X 0 [.int .i64 0, .int .i64 0, .slice none 0 0, .slice none 0 0, .int .u32 0, .slice none 0 0, .slice none 0 0, .bool false, .int .u32 0, .slice none 0 0] := rfl
      obtain ⟨wE, hE⟩ : ∃ z, z = setAll V X 0 [.int .i64 0, .int .i64 0, .slice none 0 0, .slice none 0 0, .int .u32 0, .slice none 0 0, .slice none 0 0, .bool false, .int .u32 0, .slice none 0 0] := ⟨_, rfl⟩
      rw [hE0, ← hE]
      have hoE : Only V wE [X] := by rw [hE]; exact setAll_only X _ V 0
      have hbE := setAll_lit [.int .i64 0, .int .i64 0, .slice none 0 0, .slice none 0 0, .int .u32 0, .slice none 0 0, .slice none 0 0, .bool false, .int .u32 0, .slice none 0 0] hXV rfl
      rw [← hE] at hbE
      clear hE
      have d0 : wE.cell? ⟨X, 0, none⟩ = some (.int .i64 0) := (cell_in hbE 0).trans rfl
      have d1 : wE.cell? ⟨X, 1, none⟩ = some (.int .i64 0) := (cell_in hbE 1).trans rfl
      have d2 : wE.cell? ⟨X, 2, none⟩ = some (.slice none 0 0) := (cell_in hbE 2).trans rfl
      have d3 : wE.cell? ⟨X, 3, none⟩ = some (.slice none 0 0) := (cell_in hbE 3).trans rfl
      have d4 : wE.cell? ⟨X, 4, none⟩ = some (.int .u32 0) := (cell_in hbE 4).trans rfl
      have d5 : wE.cell? ⟨X, 5, none⟩ = some (.slice none 0 0) := (cell_in hbE 5).trans rfl
      have d6 : wE.cell? ⟨X, 6, none⟩ = some (.slice none 0 0) := (cell_in hbE 6).trans rfl
      have d7 : wE.cell? ⟨X, 7, none⟩ = some (.bool false) := (cell_in hbE 7).trans rfl
      have d8 : wE.cell? ⟨X, 8, none⟩ = some (.int .u32 0) := (cell_in hbE 8).trans rfl
      have d9 : wE.cell? ⟨X, 9, none⟩ = some (.slice none 0 0) := (cell_in hbE 9).trans rfl
      clear hE0
      refine bodyPost_ret (v := .tuple #[.agg #[.int .i64 0, .int .i64 0, .slice none 0 0, .slice none 0 0, .int .u32 0, .slice none 0 0, .slice none 0 0, .bool false, .int .u32 0, .slice none 0 0], .int .i64 4]) (by simp [results, Try.results40, go_sem, d0, d1, d2, d3, d4, d5, d6, d7, d8, d9]) rfl ?_
      exact ⟨⟨u, d, x1, x2, n3, x4, x5, false, 0, []⟩, s6, HT.out, hoV.new hoE hXX, .inr ⟨Heb.out.symm, rfl⟩⟩
    · go_wp2_with fail
      have hE0 : ((((((((((V.setCell ⟨X, 0, none⟩ (.int .i64 u)).setCell ⟨X, 1, none⟩ (.int .i64 d)).setCell ⟨X, 2, none⟩ (.slice a1 x1.length c1)).setCell ⟨X, 3, none⟩ (.slice a2 x2.length c2)).setCell ⟨X, 4, none⟩ (.int .u32 n3)).setCell ⟨X, 5, none⟩ (.slice a4 x4.length c4)).setCell ⟨X, 6, none⟩ (.slice a5 x5.length c5)).setCell ⟨X, 7, none⟩ (.bool false)).setCell ⟨X, 8, none⟩ (.int .u32 0)).setCell ⟨X, 9, none⟩ (.slice none 0 0)) = setAll V X 0 [.int .i64 u, .int .i64 d, .slice a1 x1.length c1, .slice a2 x2.length c2, .int .u32 n3, .slice a4 x4.length c4, .slice a5 x5.length c5, .bool false, .int .u32 0, .slice none 0 0] := rfl
      obtain ⟨wE, hE⟩ : ∃ z, z = setAll V X 0 [.int .i64 u, .int .i64 d, .slice a1 x1.length c1, .slice a2 x2.length c2, .int .u32 n3, .slice a4 x4.length c4, .slice a5 x5.length c5, .bool false, .int .u32 0, .slice none 0 0] := ⟨_, rfl⟩
      rw [hE0, ← hE]
      have hoE : Only V wE [X] := by rw [hE]; exact setAll_only X _ V 0
      have hbE := setAll_lit [.int .i64 u, .int .i64 d, .slice a1 x1.length c1, .slice a2 x2.length c2, .int .u32 n3, .slice a4 x4.length c4, .slice a5 x5.length c5, .bool false, .int .u32 0, .slice none 0 0] hXV rfl
      rw [← hE] at hbE
      clear hE
      have d0 : wE.cell? ⟨X, 0, none⟩ = some (.int .i64 u) := (cell_in hbE 0).trans rfl
      have d1 : wE.cell? ⟨X, 1, none⟩ = some (.int .i64 d) := (cell_in hbE 1).trans rfl
      have d2 : wE.cell? ⟨X, 2, none⟩ = some (.slice a1 x1.length c1) := (cell_in hbE 2).trans rfl
      have d3 : wE.cell? ⟨X, 3, none⟩ = some (.slice a2 x2.length c2) := (cell_in hbE 3).trans rfl
      have d4 : wE.cell? ⟨X, 4, none⟩ = some (.int .u32 n3) := (cell_in hbE 4).trans rfl
      have d5 : wE.cell? ⟨X, 5, none⟩ = some (.slice a4 x4.length c4) := (cell_in hbE 5).trans rfl
      have d6 : wE.cell? ⟨X, 6, none⟩ = some (.slice a5 x5.length c5) := (cell_in hbE 6).trans rfl
      have d7 : wE.cell? ⟨X, 7, none⟩ = some (.bool false) := (cell_in hbE 7).trans rfl
      have d8 : wE.cell? ⟨X, 8, none⟩ = some (.int .u32 0) := (cell_in hbE 8).trans rfl
      have d9 : wE.cell? ⟨X, 9, none⟩ = some (.slice none 0 0) := (cell_in hbE 9).trans rfl
      clear hE0
      refine bodyPost_ret (v := .tuple #[.agg #[.int .i64 u, .int .i64 d, .slice a1 x1.length c1, .slice a2 x2.length c2, .int .u32 n3, .slice a4 x4.length c4, .slice a5 x5.length c5, .bool false, .int .u32 0, .slice none 0 0], .int .i64 0]) (by simp [results, Try.results40, go_sem, d0, d1, d2, d3, d4, d5, d6, d7, d8, d9]) rfl ?_
      exact ⟨⟨u, d, x1, x2, n3, x4, x5, false, 0, []⟩, s6, HT.out, hoV.new hoE hXX, .inl ⟨Heb.out.symm, _, _, _, _, _, rfl, (gV.next hoE hXX').mono hwW⟩⟩
  · go_wp2_with fail
    obtain ⟨W7, Y, hW, hY, hy7, hoY, hY1, hY2⟩ := new_block w6 (.cells #[.int .i64 u, .int .i64 d, .slice a1 x1.length c1, .slice a2 x2.length c2, .int .u32 n3, .slice a4 x4.length c4, .slice a5 x5.length c5, .bool true, .int .u32 0, .slice none 0 0] 76)
    rw [← hW, ← hY]
    clear hW hY
    have hYR : Y ∉ [R] := by simp; omega
    refine (rnum_rt (r06.new hoY).here).mono ?_
    rintro e w8 ⟨n8, s8, H8, rfl, lo8, hi8, r8⟩
    go_wp2_with fail
    refine (rbytes_rt r8.here).mono ?_
    rintro e w9 ⟨v9, x9, s9, H9, rfl, g9, l9, r9⟩
    obtain ⟨⟨a9, c9, rfl⟩, _⟩ := id g9
    have hy9 := r9.only.at (r8.only.at hy7 hYR) hYR
    have hX9 := r9.only.at (r8.only.at (hoY.at hX6 (by simp)) hX0) hX0
    have hne : X ≠ Y := by omega
    have hne' : Y ≠ X := fun h => hne h.symm
    have y8 := cell_in hy9 8
    have y9 := cell_in hy9 9
    have f8 := free_in hy9 8
    have f9 := free_in hy9 9
    go_wp2_with fail
    have q1 := set_at (i := 8) hy9 (.int .u32 n8)
    have hyV := set_at (i := 9) q1 (.slice a9 x9.length c9)
    have oS : Only w9 ((w9.setCell ⟨Y, 8, none⟩ (.int .u32 n8)).setCell ⟨Y, 9, none⟩ (.slice a9 x9.length c9)) [Y] := (Only.setCell _ _ _ _ (by simp)).trans (Only.setCell _ _ _ _ (by simp))
    clear y8 y9 f8 f9 q1 hy9
    generalize (w9.setCell ⟨Y, 8, none⟩ (.int .u32 n8)).setCell ⟨Y, 9, none⟩ (.slice a9 x9.length c9) = V at *
    have z8 := r8.only.size
    have z9 := r9.only.size
    have zY := hoY.size
    have r69 := (r06.new hoY).back (r8.back r9)
    have rV : RT R _ s9 W1 V := r69.keep oS (by simp; omega)
    have hXV := oS.at hX9 (by simpa using hne)
    have o6V : Only w6 V [R, Y] := (((hoY.mono (by simp)).trans (r8.only.mono (fun k _ hk => by simp at hk; simp [hk]))).trans (r9.only.mono (fun k _ hk => by simp at hk; simp [hk]))).trans (oS.mono (fun k _ hk => by simp at hk; simp [hk]))
    have hRY : ∀ k ∈ [R, Y], k < W1.heap.size ∨ w6.heap.size ≤ k := by simp; omega
    have hoV : Only w V [] := ho6.step o6V (fun k hk => .inr (by simp at hk; rcases hk with rfl | rfl; exact Nat.le_trans hoW.size hR1; omega))
    have g9V := (g9.keep oS (by simp; omega)).mono (W' := W1) (by omega)
    have gV : GotB W1 V ⟨u, d, x1, x2, n3, x4, x5, true, n8, x9⟩ _ _ _ _ _ := ⟨g1.keep o6V hRY, g2.keep o6V hRY, g4.keep o6V hRY, g5.keep o6V hRY, g9V, l1, l2, l4, l5, l9, uu, ud, ⟨lo3, hi3⟩, ⟨lo8, hi8⟩⟩
    have HT : Hid (pBd (ps, false) = (⟨u, d, x1, x2, n3, x4, x5, true, n8, x9⟩, s9)) := show _ = _ by simp [pBd, H1.out, H2.out, H3.out, H4.out, H5.out, H6.out, H8.out, H9.out]
    clear g1 g2 g4 g5 g9 g9V r06 r6 r8 r9 r69 hX6 hX9 hoY hbR oS o6V hRY hy7
    refine (rend_rt rV).mono ?_
    rintro e wE0 ⟨rfl, rfl⟩
    obtain ⟨eb, heb⟩ : ∃ eb, eb = (!s9.2 && decide (s9.1.length = 0)) := ⟨_, rfl⟩
    rw [← heb]
    have Heb := Lib.hid heb
    clear heb
    have y0 := cell_in hyV 0
    have y1 := cell_in hyV 1
    have y2 := cell_in hyV 2
    have y3 := cell_in hyV 3
    have y4 := cell_in hyV 4
    have y5 := cell_in hyV 5
    have y6 := cell_in hyV 6
    have y7 := cell_in hyV 7
    have y8 := cell_in hyV 8
    have y9 := cell_in hyV 9
    have x_0 := cell_in hXV 0
    have x_1 := cell_in hXV 1
    have x_2 := cell_in hXV 2
    have x_3 := cell_in hXV 3
    have x_4 := cell_in hXV 4
    have x_5 := cell_in hXV 5
    have x_6 := cell_in hXV 6
    have x_7 := cell_in hXV 7
    have x_8 := cell_in hXV 8
    have x_9 := cell_in hXV 9
    have xf0 := free_in hXV 0
    have xf1 := free_in hXV 1
    have xf2 := free_in hXV 2
    have xf3 := free_in hXV 3
    have xf4 := free_in hXV 4
    have xf5 := free_in hXV 5
    have xf6 := free_in hXV 6
    have xf7 := free_in hXV 7
    have xf8 := free_in hXV 8
    have xf9 := free_in hXV 9
    cases eb
    · go_wp2_with fail
      have hE0 : ((((((((((V.setCell ⟨X, 0, none⟩ (.int .i64 0)).setCell ⟨X, 1, none⟩ (.int .i64 0)).setCell ⟨X, 2, none⟩ (.slice none 0 0)).setCell ⟨X, 3, none⟩ (.slice none 0 0)).setCell ⟨X, 4, none⟩ (.int .u32 0)).setCell ⟨X, 5, none⟩ (.slice none 0 0)).setCell ⟨X, 6, none⟩ (.slice none 0 0)).setCell ⟨X, 7, none⟩ (.bool false)).setCell ⟨X, 8, none⟩ (.int .u32 0)).setCell ⟨X, 9, none⟩ (.slice none 0 0)) = setAll V X 0 [.int .i64 0, .int .i64 0, .slice none 0 0, .slice none 0 0, .int .u32 0, .slice none 0 0, .slice none 0 0, .bool false, .int .u32 0, .slice none 0 0] := rfl
      obtain ⟨wE, hE⟩ : ∃ z, z = setAll V X 0 [.int .i64 0, .int .i64 0, .slice none 0 0, .slice none 0 0, .int .u32 0, .slice none 0 0, .slice none 0 0, .bool false, .int .u32 0, .slice none 0 0] := ⟨_, rfl⟩
      rw [hE0, ← hE]
      have hoE : Only V wE [X] := by rw [hE]; exact setAll_only X _ V 0
      have hbE := setAll_lit [.int .i64 0, .int .i64 0, .slice none 0 0, .slice none 0 0, .int .u32 0, .slice none 0 0, .slice none 0 0, .bool false, .int .u32 0, .slice none 0 0] hXV rfl
      rw [← hE] at hbE
      clear hE
      have d0 : wE.cell? ⟨X, 0, none⟩ = some (.int .i64 0) := (cell_in hbE 0).trans rfl
      have d1 : wE.cell? ⟨X, 1, none⟩ = some (.int .i64 0) := (cell_in hbE 1).trans rfl
      have d2 : wE.cell? ⟨X, 2, none⟩ = some (.slice none 0 0) := (cell_in hbE 2).trans rfl
      have d3 : wE.cell? ⟨X, 3, none⟩ = some (.slice none 0 0) := (cell_in hbE 3).trans rfl
      have d4 : wE.cell? ⟨X, 4, none⟩ = some (.int .u32 0) := (cell_in hbE 4).trans rfl
      have d5 : wE.cell? ⟨X, 5, none⟩ = some (.slice none 0 0) := (cell_in hbE 5).trans rfl
      have d6 : wE.cell? ⟨X, 6, none⟩ = some (.slice none 0 0) := (cell_in hbE 6).trans rfl
      have d7 : wE.cell? ⟨X, 7, none⟩ = some (.bool false) := (cell_in hbE 7).trans rfl
      have d8 : wE.cell? ⟨X, 8, none⟩ = some (.int .u32 0) := (cell_in hbE 8).trans rfl
      have d9 : wE.cell? ⟨X, 9, none⟩ = some (.slice none 0 0) := (cell_in hbE 9).trans rfl
      clear hE0
      refine bodyPost_ret (v := .tuple #[.agg #[.int .i64 0, .int .i64 0, .slice none 0 0, .slice none 0 0, .int .u32 0, .slice none 0 0, .slice none 0 0, .bool false, .int .u32 0, .slice none 0 0], .int .i64 4]) (by simp [results, Try.results40, go_sem, d0, d1, d2, d3, d4, d5, d6, d7, d8, d9]) rfl ?_
      exact ⟨⟨u, d, x1, x2, n3, x4, x5, true, n8, x9⟩, s9, HT.out, hoV.new hoE hXX, .inr ⟨Heb.out.symm, rfl⟩⟩
    · go_wp2_with fail
      have hE0 : ((((((((((V.setCell ⟨X, 0, none⟩ (.int .i64 u)).setCell ⟨X, 1, none⟩ (.int .i64 d)).setCell ⟨X, 2, none⟩ (.slice a1 x1.length c1)).setCell ⟨X, 3, none⟩ (.slice a2 x2.length c2)).setCell ⟨X, 4, none⟩ (.int .u32 n3)).setCell ⟨X, 5, none⟩ (.slice a4 x4.length c4)).setCell ⟨X, 6, none⟩ (.slice a5 x5.length c5)).setCell ⟨X, 7, none⟩ (.bool true)).setCell ⟨X, 8, none⟩ (.int .u32 n8)).setCell ⟨X, 9, none⟩ (.slice a9 x9.length c9)) = setAll V X 0 [.int .i64 u, .int .i64 d, .slice a1 x1.length c1, .slice a2 x2.length c2, .int .u32 n3, .slice a4 x4.length c4, .slice a5 x5.length c5, .bool true, .int .u32 n8, .slice a9 x9.length c9] := rfl
      obtain ⟨wE, hE⟩ : ∃ z, z = setAll V X 0 [.int .i64 u, .int .i64 d, .slice a1 x1.length c1, .slice a2 x2.length c2, .int .u32 n3, .slice a4 x4.length c4, .slice a5 x5.length c5, .bool true, .int .u32 n8, .slice a9 x9.length c9] := ⟨_, rfl⟩
      rw [hE0, ← hE]
      have hoE : Only V wE [X] := by rw [hE]; exact setAll_only X _ V 0
      have hbE := setAll_lit [.int .i64 u, .int .i64 d, .slice a1 x1.length c1, .slice a2 x2.length c2, .int .u32 n3, .slice a4 x4.length c4, .slice a5 x5.length c5, .bool true, .int .u32 n8, .slice a9 x9.length c9] hXV rfl
      rw [← hE] at hbE
      clear hE
      have d0 : wE.cell? ⟨X, 0, none⟩ = some (.int .i64 u) := (cell_in hbE 0).trans rfl
      have d1 : wE.cell? ⟨X, 1, none⟩ = some (.int .i64 d) := (cell_in hbE 1).trans rfl
      have d2 : wE.cell? ⟨X, 2, none⟩ = some (.slice a1 x1.length c1) := (cell_in hbE 2).trans rfl
      have d3 : wE.cell? ⟨X, 3, none⟩ = some (.slice a2 x2.length c2) := (cell_in hbE 3).trans rfl
      have d4 : wE.cell? ⟨X, 4, none⟩ = some (.int .u32 n3) := (cell_in hbE 4).trans rfl
      have d5 : wE.cell? ⟨X, 5, none⟩ = some (.slice a4 x4.length c4) := (cell_in hbE 5).trans rfl
      have d6 : wE.cell? ⟨X, 6, none⟩ = some (.slice a5 x5.length c5) := (cell_in hbE 6).trans rfl
      have d7 : wE.cell? ⟨X, 7, none⟩ = some (.bool true) := (cell_in hbE 7).trans rfl
      have d8 : wE.cell? ⟨X, 8, none⟩ = some (.int .u32 n8) := (cell_in hbE 8).trans rfl
      have d9 : wE.cell? ⟨X, 9, none⟩ = some (.slice a9 x9.length c9) := (cell_in hbE 9).trans rfl
      clear hE0
      refine bodyPost_ret (v := .tuple #[.agg #[.int .i64 u, .int .i64 d, .slice a1 x1.length c1, .slice a2 x2.length c2, .int .u32 n3, .slice a4 x4.length c4, .slice a5 x5.length c5, .bool true, .int .u32 n8, .slice a9 x9.length c9], .int .i64 0]) (by simp [results, Try.results40, go_sem, d0, d1, d2, d3, d4, d5, d6, d7, d8, d9]) rfl ?_
      exact ⟨⟨u, d, x1, x2, n3, x4, x5, true, n8, x9⟩, s9, HT.out, hoV.new hoE hXX, .inl ⟨Heb.out.symm, _, _, _, _, _, rfl, (gV.next hoE hXX').mono hwW⟩⟩

theorem pW_be (u d : Int) (l : List Int) : pW (whoB u d ++ l, false) = ((IntKind.u32.wrap u, IntKind.u32.wrap d), l, false) := by
  have e : whoB u d ++ l = be (IntKind.u32.wrap u) 4 ++ (be (IntKind.u32.wrap d) 4 ++ l) := by simp [whoB]
  unfold pW
  rw [e]
  simp only
  rw [pN_be _ _ (u32_u u)]
  simp only
  rw [pN_be _ _ (u32_u d)]
theorem pBd_be (u d : Int) (a s : List Int) (sg : Int) (k q : List Int) (has : Bool) (on : Int) (os : List Int) (ha : a.length ≤ 65536) (hs : s.length ≤ 65536) (hk : k.length ≤ 65536) (hq : q.length ≤ 65536) (ho : os.length ≤ 65536) (hsg : U32 sg) (hon : U32 on) :
    pBd (bundleB u d a s sg k q has on os, false) = (⟨IntKind.u32.wrap u, IntKind.u32.wrap d, a, s, sg, k, q, has, if has then on else 0, if has then os else []⟩, [], false) := by
  have e : bundleB u d a s sg k q has on os = whoB u d ++ (identB a s ++ (be sg 4 ++ (be k.length 4 ++ k ++ (be q.length 4 ++ q ++ ([if has then 1 else 0] ++ if has then be on 4 ++ (be os.length 4 ++ os) else []))))) := by simp [bundleB]
  unfold pBd
  rw [e]
  simp only
  rw [pW_be]
  simp only
  rw [pI_be a s _ ha hs]
  simp only
  rw [pN_be sg _ hsg]
  simp only
  rw [pB_be k _ hk]
  simp only
  rw [pB_be q _ hq]
  simp only
  rw [pF_be has]
  cases has
  · simp
  · simp only [if_true]
    rw [pN_be on _ hon]
    simp only
    rw [pB_be0 os ho]
end Go.Proofs.Ytemlpjfngaemdaa
