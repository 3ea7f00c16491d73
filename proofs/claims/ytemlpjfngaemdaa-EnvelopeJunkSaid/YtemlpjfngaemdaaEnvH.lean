/- The contract of envelope.ReadHello at any bytes; what Hello has laid is read back. -/
import Derived.Test.YtemlpjfngaemdaaEnvP
namespace Go.Proofs.Ytemlpjfngaemdaa
open Go.RowKit Go.Pw
set_option linter.unusedVariables false

/-- What ReadHello answers. -/
def DecH (ps : List Int) (w : World) (e : Ending) (w' : World) : Prop :=
  ∃ a s, pH (ps, false) = (a, s) ∧ Only w w' [] ∧
    ((Ends s = true ∧ ∃ va vs vk, e = .returned (.tuple #[.agg #[va, vs, vk, .int .u32 a.signed, .bool a.has, .int .u32 a.once], .int .i64 0]) ∧ GotH w w' a va vs vk) ∨
     (Ends s = false ∧ e = .returned (.tuple #[.agg #[.slice none 0 0, .slice none 0 0, .slice none 0 0, .int .u32 0, .bool false, .int .u32 0], .int .i64 4])))

set_option maxRecDepth 100000 in
set_option maxHeartbeats 1600000 in
theorem dechello_any (p : Value) (ps : List Int) (w : World) (hp : Rd w p ps) (hb : Byt ps) (hl : ps.length ≤ 1000000000) :
    Calls Try.prog 37 #[p] w (DecH ps w) := by
  obtain ⟨ao, c, rfl⟩ := hp.slice
  go_enter Try.func37, Try.ntmps37
  go_wp2_with fail
  obtain ⟨W0, X, hW, hX, hbX, hoW, hX1, hX2⟩ := new_block w (.cells #[.slice none 0 0, .slice none 0 0, .slice none 0 0, .int .u32 0, .bool false, .int .u32 0] 39)
  rw [← hW, ← hX]
  have hs0 : W0.heap.size = X + 1 := by rw [hW, hX]; simp
  clear hW hX
  refine (rread_any _ _ _ _).mono ?_
  rintro e W1' ⟨rfl, rfl⟩
  obtain ⟨W1, R, hW, hR, hbR, hoR, hR1, hR2⟩ := new_block W0 (.cells #[.slice ao ps.length c, .bool false] 87)
  rw [← hW, ← hR]
  clear hW hR
  have r0 := rt_new hp hb hl (hoW.trans hoR) hbR
  have hXR : X ≠ R := by omega
  go_wp2_with fail
  refine (readhello_rt r0).mono ?_
  rintro e w1 ⟨a, s1, v1, H1, rfl, ⟨va, vs, vk, rfl, g1⟩, r1⟩
  obtain ⟨⟨aa, ca, rfl⟩, _⟩ := id g1.ga
  obtain ⟨⟨az, cz, rfl⟩, _⟩ := id g1.gs
  obtain ⟨⟨ak, ck, rfl⟩, _⟩ := id g1.gk
  have H1 := Lib.hid H1
  have hX3 := r1.only.at (hoR.at hbX (by simp)) (by simpa using hXR)
  go_wp2_with fail
  obtain ⟨W5, Y, hW, hY, hy, hoY, hY1, hY2⟩ := new_block w1 (.cells #[.slice aa a.ag.length ca, .slice az a.sg.length cz, .slice ak a.key.length ck, .int .u32 a.signed, .bool a.has, .int .u32 a.once] 39)
  rw [← hW, ← hY]
  clear hW hY
  have hlt3 := (Array.getElem?_eq_some_iff.1 hX3).1
  have hne : X ≠ Y := by omega
  have hne' : Y ≠ X := fun h => hne h.symm
  have hXV := hoY.at hX3 (by simp)
  refine (rend_rt (r1.new hoY)).mono ?_
  rintro e w5 ⟨rfl, rfl⟩
  have hoT : Only w W5 [] := (((hoW.trans hoR).step r1.only (fun k hk => .inr (by simp at hk; subst hk; exact Nat.le_trans hoW.size hR1))).trans hoY)
  have gT := g1.keep hoY (by simp)
  have hw1 : w.heap.size ≤ W1.heap.size := (hoW.trans hoR).size
  have hX2p : X < W1.heap.size := by have := hoR.size; omega
  obtain ⟨eb, heb⟩ : ∃ eb, eb = (!s1.2 && decide (s1.1.length = 0)) := ⟨_, rfl⟩
  rw [← heb]
  have Heb := Lib.hid heb
  clear heb hb hp hbX hX3 g1
  have y0 := cell_in hy 0
  have y1 := cell_in hy 1
  have y2 := cell_in hy 2
  have y3 := cell_in hy 3
  have y4 := cell_in hy 4
  have y5 := cell_in hy 5
  have x_0 := cell_in hXV 0
  have x_1 := cell_in hXV 1
  have x_2 := cell_in hXV 2
  have x_3 := cell_in hXV 3
  have x_4 := cell_in hXV 4
  have x_5 := cell_in hXV 5
  have xf0 := free_in hXV 0
  have xf1 := free_in hXV 1
  have xf2 := free_in hXV 2
  have xf3 := free_in hXV 3
  have xf4 := free_in hXV 4
  have xf5 := free_in hXV 5
  cases eb
  · go_wp2_with fail
    have hE0 : ((((((W5.setCell ⟨X, 0, none⟩ (.slice none 0 0)).setCell ⟨X, 1, none⟩ (.slice none 0 0)).setCell ⟨X, 2, none⟩ (.slice none 0 0)).setCell ⟨X, 3, none⟩ (.int .u32 0)).setCell ⟨X, 4, none⟩ (.bool false)).setCell ⟨X, 5, none⟩ (.int .u32 0)) = setAll W5 X 0 [.slice none 0 0, .slice none 0 0, .slice none 0 0, .int .u32 0, .bool false, .int .u32 0] := rfl
    rw [hE0]
    have hoE := setAll_only X [.slice none 0 0, .slice none 0 0, .slice none 0 0, .int .u32 0, .bool false, .int .u32 0] W5 0
    have hbE := setAll_at [.slice none 0 0, .slice none 0 0, .slice none 0 0, .int .u32 0, .bool false, .int .u32 0] 0 hXV
    generalize setAll W5 X 0 [.slice none 0 0, .slice none 0 0, .slice none 0 0, .int .u32 0, .bool false, .int .u32 0] = wE at *
    have d0 : wE.cell? ⟨X, 0, none⟩ = some (.slice none 0 0) := (cell_in hbE 0).trans rfl
    have d1 : wE.cell? ⟨X, 1, none⟩ = some (.slice none 0 0) := (cell_in hbE 1).trans rfl
    have d2 : wE.cell? ⟨X, 2, none⟩ = some (.slice none 0 0) := (cell_in hbE 2).trans rfl
    have d3 : wE.cell? ⟨X, 3, none⟩ = some (.int .u32 0) := (cell_in hbE 3).trans rfl
    have d4 : wE.cell? ⟨X, 4, none⟩ = some (.bool false) := (cell_in hbE 4).trans rfl
    have d5 : wE.cell? ⟨X, 5, none⟩ = some (.int .u32 0) := (cell_in hbE 5).trans rfl
    clear hE0
    refine bodyPost_ret (v := .tuple #[.agg #[.slice none 0 0, .slice none 0 0, .slice none 0 0, .int .u32 0, .bool false, .int .u32 0], .int .i64 4]) (by simp [results, Try.results37, go_sem, d0, d1, d2, d3, d4, d5]) rfl ?_
    exact ⟨a, s1, H1.out, hoT.new hoE (by simpa using hX1), .inr ⟨Heb.out.symm, rfl⟩⟩
  · go_wp2_with fail
    have hE0 : ((((((W5.setCell ⟨X, 0, none⟩ (.slice aa a.ag.length ca)).setCell ⟨X, 1, none⟩ (.slice az a.sg.length cz)).setCell ⟨X, 2, none⟩ (.slice ak a.key.length ck)).setCell ⟨X, 3, none⟩ (.int .u32 a.signed)).setCell ⟨X, 4, none⟩ (.bool a.has)).setCell ⟨X, 5, none⟩ (.int .u32 a.once)) = setAll W5 X 0 [.slice aa a.ag.length ca, .slice az a.sg.length cz, .slice ak a.key.length ck, .int .u32 a.signed, .bool a.has, .int .u32 a.once] := rfl
    rw [hE0]
    have hoE := setAll_only X [.slice aa a.ag.length ca, .slice az a.sg.length cz, .slice ak a.key.length ck, .int .u32 a.signed, .bool a.has, .int .u32 a.once] W5 0
    have hbE := setAll_at [.slice aa a.ag.length ca, .slice az a.sg.length cz, .slice ak a.key.length ck, .int .u32 a.signed, .bool a.has, .int .u32 a.once] 0 hXV
    generalize setAll W5 X 0 [.slice aa a.ag.length ca, .slice az a.sg.length cz, .slice ak a.key.length ck, .int .u32 a.signed, .bool a.has, .int .u32 a.once] = wE at *
    have d0 : wE.cell? ⟨X, 0, none⟩ = some (.slice aa a.ag.length ca) := (cell_in hbE 0).trans rfl
    have d1 : wE.cell? ⟨X, 1, none⟩ = some (.slice az a.sg.length cz) := (cell_in hbE 1).trans rfl
    have d2 : wE.cell? ⟨X, 2, none⟩ = some (.slice ak a.key.length ck) := (cell_in hbE 2).trans rfl
    have d3 : wE.cell? ⟨X, 3, none⟩ = some (.int .u32 a.signed) := (cell_in hbE 3).trans rfl
    have d4 : wE.cell? ⟨X, 4, none⟩ = some (.bool a.has) := (cell_in hbE 4).trans rfl
    have d5 : wE.cell? ⟨X, 5, none⟩ = some (.int .u32 a.once) := (cell_in hbE 5).trans rfl
    clear hE0
    refine bodyPost_ret (v := .tuple #[.agg #[.slice aa a.ag.length ca, .slice az a.sg.length cz, .slice ak a.key.length ck, .int .u32 a.signed, .bool a.has, .int .u32 a.once], .int .i64 0]) (by simp [results, Try.results37, go_sem, d0, d1, d2, d3, d4, d5]) rfl ?_
    exact ⟨a, s1, H1.out, hoT.new hoE (by simpa using hX1), .inl ⟨Heb.out.symm, _, _, _, rfl, (gT.keep hoE (by simpa using .inl hX2p)).mono hw1⟩⟩

/-- What Hello has laid is read back. -/
theorem pI_be (a s l : List Int) (ha : a.length ≤ 65536) (hs : s.length ≤ 65536) : pI (identB a s ++ l, false) = ((a, s), l, false) := by
  have e : identB a s ++ l = be a.length 4 ++ a ++ (be s.length 4 ++ s ++ l) := by simp [identB]
  unfold pI
  rw [e]
  simp only
  rw [pB_be a _ ha]
  simp only
  rw [pB_be s _ hs]
theorem pH_be (a s k l : List Int) (sg : Int) (has : Bool) (on : Int) (ha : a.length ≤ 65536) (hs : s.length ≤ 65536) (hk : k.length ≤ 65536) (hsg : U32 sg) (hon : U32 on) :
    pH (helloB a s k sg has on ++ l, false) = (⟨a, s, k, sg, has, if has then on else 0⟩, l, false) := by
  have e : helloB a s k sg has on ++ l = identB a s ++ (be k.length 4 ++ k ++ (be sg 4 ++ ([if has then 1 else 0] ++ ((if has then be on 4 else []) ++ l)))) := by simp [helloB]
  unfold pH
  rw [e]
  simp only
  rw [pI_be a s _ ha hs]
  simp only
  rw [pB_be k _ hk]
  simp only
  rw [pN_be sg _ hsg]
  simp only
  rw [pF_be has]
  cases has
  · simp
  · simp only [if_true]
    rw [pN_be on _ hon]
end Go.Proofs.Ytemlpjfngaemdaa
