/- DeviceTakes: the tied card of the law. No condition beyond the row's own. -/
import Derived.Test.YtjfmelmiegnmjaaGreatDoorXTkXh
import Derived.Test.YtjfmelmiegnmjaaGreatDoorXTkXr0
import Derived.Test.YtjfmelmiegnmjaaGreatDoorXTkXr1
import Derived.Test.YtjfmelmiegnmjaaGreatDoorXTkXr2
import Derived.Test.YtjfmelmiegnmjaaGreatDoorXTkXr3
import Derived.Test.YtjfmelmiegnmjaaGreatDoorXTkXr4
import Derived.Test.YtjfmelmiegnmjaaGreatDoorXTkXr5
import Derived.Test.YtjfmelmiegnmjaaGreatDoorXTkXr6
import Derived.Test.YtjfmelmiegnmjaaGreatDoorXTkXr7
import Derived.Test.YtjfmelmiegnmjaaGreatDoorXTkXr8
import Derived.Test.YtjfmelmiegnmjaaGreatDoorXTkXr9
import Derived.Test.YtjfmelmiegnmjaaGreatDoorXTkXr10
import Derived.Test.YtjfmelmiegnmjaaGreatDoorXTkDTakesP
import Derived.Test.YtjfmelmiegnmjaaGreatDoorXTkDTakes0
import Derived.Test.YtjfmelmiegnmjaaGreatDoorXTkDTakes1
import Derived.ChangeSlices
import Derived.Test.YtjfmelmiegnmjaaGreatDoorXTkCt
set_option linter.all false
section
open Go Go.Sx Go.Proofs
set_option linter.all false
namespace Go.Proofs.YtjfmelmiegnmjaaGreatDoor
set_option maxRecDepth 1000000
theorem gq0 : HkGood Tryz.prog q0.hook := hgI run_q0 (by kernel_rfl) (HkGood.or (hooks_good nq) hCM_good)
theorem gq1 : HkGood Tryz.prog q1.hook := hgI run_q1 (by kernel_rfl) (HkGood.or (hooks_good nq) hCM_good)
theorem hk2_good : HkGood Tryz.prog hk2 := HkGood.or (hooks_good (cq gq0 (cq gq1 nq))) hCM_good
theorem gq2 : HkGood Tryz.prog q2.hook := hgI run_q2 (by kernel_rfl) hk2_good
theorem gq3 : HkGood Tryz.prog q3.hook := hgI run_q3 (by kernel_rfl) (HkGood.or (hooks_good nq) hCM_good)
theorem gq4 : HkGood Tryz.prog q4.hook := hgI run_q4 (by kernel_rfl) (HkGood.or (hooks_good nq) hCM_good)
theorem gq5 : HkGood Tryz.prog q5.hook := hgI run_q5 (by kernel_rfl) (HkGood.or (hooks_good (cq gq4 nq)) hCM_good)
theorem gq6 : HkGood Tryz.prog q6.hook := hgI run_q6 (by kernel_rfl) (HkGood.or (hooks_good (cq gq3 (cq gq5 nq))) hCM_good)
theorem gq7 : HkGood Tryz.prog q7.hook := hgI run_q7 (by kernel_rfl) (HkGood.or (hooks_good nq) hCM_good)
theorem gq8 : HkGood Tryz.prog q8.hook := hgI run_q8 (by kernel_rfl) (HkGood.or (hooks_good nq) hCM_good)
theorem gq9 : HkGood Tryz.prog q9.hook := hgI run_q9 (by kernel_rfl) (HkGood.or (hooks_good (cq gq8 nq)) hCM_good)
theorem gq10 : HkGood Tryz.prog q10.hook := hgI run_q10 (by kernel_rfl) (HkGood.or (hooks_good (cq gq7 (cq gq9 nq))) hCM_good)
theorem gq11 : HkGood Tryz.prog q11.hook := hgI run_q11 (by kernel_rfl) (HkGood.or (hooks_good nq) hCM_good)
theorem gq12 : HkGood Tryz.prog q12.hook := hgI run_q12 (by kernel_rfl) (HkGood.or (hooks_good nq) hCM_good)
theorem gq13 : HkGood Tryz.prog q13.hook := hgI run_q13 (by kernel_rfl) (HkGood.or (hooks_good (cq gq12 nq)) hCM_good)
theorem gq14 : HkGood Tryz.prog q14.hook := hgI run_q14 (by kernel_rfl) (HkGood.or (hooks_good (cq gq11 (cq gq13 nq))) hCM_good)
theorem hk15_good : HkGood Tryz.prog hk15 := HkGood.or (hooks_good (cq gq6 (cq gq10 (cq gq14 nq)))) hCM_good
theorem gq15 : HkGood Tryz.prog (q15.parHook 2 0) := par_good okt2 callsOK mixed hk15_good dhC_good q15 (by kernel_rfl) (by kernel_rfl) run_q15
theorem gq16 : HkGood Tryz.prog q16.hook := hgI run_q16 (by kernel_rfl) (HkGood.or (hooks_good nq) hCM_good)
theorem gq17 : HkGood Tryz.prog q17.hook := hgI run_q17 (by kernel_rfl) (HkGood.or (hooks_good (cq gq16 nq)) hCM_good)
theorem gq18 : HkGood Tryz.prog q18.hook := hgI run_q18 (by kernel_rfl) (HkGood.or (hooks_good nq) hCM_good)
theorem gq19 : HkGood Tryz.prog q19.hook := hgI run_q19 (by kernel_rfl) (HkGood.or (hooks_good (cq gq18 nq)) hCM_good)
theorem gq20 : HkGood Tryz.prog q20.hook := hgI run_q20 (by kernel_rfl) (HkGood.or (hooks_good (cq gq17 (cq gq19 nq))) hCM_good)
theorem gq21 : HkGood Tryz.prog q21.hook := hgI run_q21 (by kernel_rfl) (HkGood.or (hooks_good nq) hCM_good)
theorem gq22 : HkGood Tryz.prog q22.hook := hgI run_q22 (by kernel_rfl) (HkGood.or (hooks_good nq) hCM_good)
theorem gq23 : HkGood Tryz.prog q23.hook := hgI run_q23 (by kernel_rfl) (HkGood.or (hooks_good nq) hCM_good)
theorem gq24 : HkGood Tryz.prog q24.hook := hgI run_q24 (by kernel_rfl) (HkGood.or (hooks_good (cq gq23 nq)) hCM_good)
theorem gq25 : HkGood Tryz.prog q25.hook := hgI run_q25 (by kernel_rfl) (HkGood.or (hooks_good (cq gq24 nq)) hCM_good)
theorem gq26 : HkGood Tryz.prog q26.hook := hgI run_q26 (by kernel_rfl) (HkGood.or (hooks_good (cq gq25 nq)) hCM_good)
theorem gq27 : HkGood Tryz.prog q27.hook := hgI run_q27 (by kernel_rfl) (HkGood.or (hooks_good nq) hCM_good)
theorem gq28 : HkGood Tryz.prog q28.hook := hgI run_q28 (by kernel_rfl) (HkGood.or (hooks_good nq) hCM_good)
theorem gq29 : HkGood Tryz.prog q29.hook := hgI run_q29 (by kernel_rfl) (HkGood.or (hooks_good nq) hCM_good)
theorem gq30 : HkGood Tryz.prog q30.hook := hgI run_q30 (by kernel_rfl) (HkGood.or (hooks_good nq) hCM_good)
theorem gq31 : HkGood Tryz.prog q31.hook := hgI run_q31 (by kernel_rfl) (HkGood.or (hooks_good (cq gq30 nq)) hCM_good)
theorem gq32 : HkGood Tryz.prog q32.hook := hgI run_q32 (by kernel_rfl) (HkGood.or (hooks_good (cq gq31 nq)) hCM_good)
theorem gq33 : HkGood Tryz.prog q33.hook := hgI run_q33 (by kernel_rfl) (HkGood.or (hooks_good (cq gq32 nq)) hCM_good)
theorem gq34 : HkGood Tryz.prog q34.hook := hgI run_q34 (by kernel_rfl) (HkGood.or (hooks_good nq) hCM_good)
theorem gq35 : HkGood Tryz.prog q35.hook := hgI run_q35 (by kernel_rfl) (HkGood.or (hooks_good nq) hCM_good)
theorem gq36 : HkGood Tryz.prog q36.hook := hgI run_q36 (by kernel_rfl) (HkGood.or (hooks_good nq) hCM_good)
theorem gq37 : HkGood Tryz.prog q37.hook := hgI run_q37 (by kernel_rfl) (HkGood.or (hooks_good nq) hCM_good)
theorem gq38 : HkGood Tryz.prog q38.hook := hgI run_q38 (by kernel_rfl) (HkGood.or (hooks_good nq) hCM_good)
theorem gq39 : HkGood Tryz.prog q39.hook := hgI run_q39 (by kernel_rfl) (HkGood.or (hooks_good (cq gq38 nq)) hCM_good)
theorem gq40 : HkGood Tryz.prog q40.hook := hgI run_q40 (by kernel_rfl) (HkGood.or (hooks_good (cq gq39 nq)) hCM_good)
theorem gq41 : HkGood Tryz.prog q41.hook := hgI run_q41 (by kernel_rfl) (HkGood.or (hooks_good (cq gq40 nq)) hCM_good)
theorem gq42 : HkGood Tryz.prog q42.hook := hgI run_q42 (by kernel_rfl) (HkGood.or (hooks_good nq) hCM_good)
theorem gq43 : HkGood Tryz.prog q43.hook := hgI run_q43 (by kernel_rfl) (HkGood.or (hooks_good nq) hCM_good)
theorem gq44 : HkGood Tryz.prog q44.hook := hgI run_q44 (by kernel_rfl) (HkGood.or (hooks_good nq) hCM_good)
theorem gq45 : HkGood Tryz.prog q45.hook := hgI run_q45 (by kernel_rfl) (HkGood.or (hooks_good nq) hCM_good)
theorem gq46 : HkGood Tryz.prog q46.hook := hgI run_q46 (by kernel_rfl) (HkGood.or (hooks_good (cq gq45 nq)) hCM_good)
theorem gq47 : HkGood Tryz.prog q47.hook := hgI run_q47 (by kernel_rfl) (HkGood.or (hooks_good (cq gq46 nq)) hCM_good)
theorem gq48 : HkGood Tryz.prog q48.hook := hgI run_q48 (by kernel_rfl) (HkGood.or (hooks_good (cq gq47 nq)) hCM_good)
theorem gq49 : HkGood Tryz.prog q49.hook := hgI run_q49 (by kernel_rfl) (HkGood.or (hooks_good nq) hCM_good)
theorem gq50 : HkGood Tryz.prog q50.hook := hgI run_q50 (by kernel_rfl) (HkGood.or (hooks_good nq) hCM_good)
theorem gq51 : HkGood Tryz.prog q51.hook := hgI run_q51 (by kernel_rfl) (HkGood.or (hooks_good nq) hCM_good)
theorem gq52 : HkGood Tryz.prog q52.hook := hgI run_q52 (by kernel_rfl) (HkGood.or (hooks_good (cq gq51 nq)) hCM_good)
theorem gq53 : HkGood Tryz.prog q53.hook := hgI run_q53 (by kernel_rfl) (HkGood.or (hooks_good (cq gq52 nq)) hCM_good)
theorem gq54 : HkGood Tryz.prog q54.hook := hgI run_q54 (by kernel_rfl) (HkGood.or (hooks_good (cq gq53 nq)) hCM_good)
theorem gq55 : HkGood Tryz.prog q55.hook := hgI run_q55 (by kernel_rfl) (HkGood.or (hooks_good nq) hCM_good)
theorem hk56_good : HkGood Tryz.prog hk56 := HkGood.or (hooks_good nq) hCM_good
theorem gq56 : HkGood Tryz.prog (q56.parHook 2 1) := par_good okt2 callsOK mixed hk56_good dhC_good q56 (by kernel_rfl) (by kernel_rfl) run_q56
theorem gq57 : HkGood Tryz.prog q57.hook := hgI run_q57 (by kernel_rfl) (HkGood.or (hooks_good nq) hCM_good)
theorem gq58 : HkGood Tryz.prog q58.hook := hgI run_q58 (by kernel_rfl) (HkGood.or (hooks_good nq) hCM_good)
theorem gq59 : HkGood Tryz.prog q59.hook := hgI run_q59 (by kernel_rfl) (HkGood.or (hooks_good nq) hCM_good)
theorem gq60 : HkGood Tryz.prog q60.hook := hgI run_q60 (by kernel_rfl) (HkGood.or (hooks_good nq) hCM_good)
theorem gq61 : HkGood Tryz.prog q61.hook := hgI run_q61 (by kernel_rfl) (HkGood.or (hooks_good nq) hCM_good)
theorem gq62 : HkGood Tryz.prog q62.hook := hgI run_q62 (by kernel_rfl) (HkGood.or (hooks_good nq) hCM_good)
theorem gq63 : HkGood Tryz.prog q63.hook := hgI run_q63 (by kernel_rfl) (HkGood.or (hooks_good nq) hCM_good)
theorem gq64 : HkGood Tryz.prog q64.hook := hgI run_q64 (by kernel_rfl) (HkGood.or (hooks_good nq) hCM_good)
theorem gq65 : HkGood Tryz.prog q65.hook := hgI run_q65 (by kernel_rfl) (HkGood.or (hooks_good nq) hCM_good)
theorem gq66 : HkGood Tryz.prog q66.hook := hgI run_q66 (by kernel_rfl) (HkGood.or (hooks_good nq) hCM_good)
theorem gq67 : HkGood Tryz.prog q67.hook := hgI run_q67 (by kernel_rfl) (HkGood.or (hooks_good nq) hCM_good)
theorem gq68 : HkGood Tryz.prog q68.hook := hgI run_q68 (by kernel_rfl) (HkGood.or (hooks_good nq) hCM_good)
theorem gq69 : HkGood Tryz.prog q69.hook := hgI run_q69 (by kernel_rfl) (HkGood.or (hooks_good nq) hCM_good)
theorem gq70 : HkGood Tryz.prog q70.hook := hgI run_q70 (by kernel_rfl) (HkGood.or (hooks_good nq) hCM_good)
theorem gq71 : HkGood Tryz.prog q71.hook := hgI run_q71 (by kernel_rfl) (HkGood.or (hooks_good nq) hCM_good)
theorem gq72 : HkGood Tryz.prog q72.hook := hgI run_q72 (by kernel_rfl) (HkGood.or (hooks_good nq) hCM_good)
theorem gq73 : HkGood Tryz.prog q73.hook := hgI run_q73 (by kernel_rfl) (HkGood.or (hooks_good nq) hCM_good)
theorem gq74 : HkGood Tryz.prog q74.hook := hgI run_q74 (by kernel_rfl) (HkGood.or (hooks_good nq) hCM_good)
theorem gq75 : HkGood Tryz.prog q75.hook := hgI run_q75 (by kernel_rfl) (HkGood.or (hooks_good nq) hCM_good)
theorem gq76 : HkGood Tryz.prog q76.hook := hgI run_q76 (by kernel_rfl) (HkGood.or (hooks_good nq) hCM_good)
theorem gq77 : HkGood Tryz.prog q77.hook := hgI run_q77 (by kernel_rfl) (HkGood.or (hooks_good nq) hCM_good)
theorem closed_w : HkGood Tryz.prog aK.closed := closed_good okt2 callsOK mixed hk2_good dhC_good q2 (by kernel_rfl) (by kernel_rfl) rfl (by kernel_rfl) (by kernel_rfl) (by kernel_rfl) run_q2
theorem hP_good : HkGood Tryz.prog hP := HkGood.or gq56 (HkGood.or gq15 (HkGood.or (hooks_good (cq gq2 (cq gq20 (cq gq21 (cq gq22 (cq gq26 (cq gq27 (cq gq28 (cq gq29 (cq gq33 (cq gq34 (cq gq35 (cq gq36 (cq gq37 (cq gq41 (cq gq42 (cq gq43 (cq gq44 (cq gq48 (cq gq49 (cq gq50 (cq gq54 (cq gq55 (cq gq57 (cq gq58 (cq gq59 (cq gq60 (cq gq61 (cq gq62 (cq gq63 (cq gq64 (cq gq65 (cq gq66 (cq gq67 (cq gq68 (cq gq69 (cq gq70 (cq gq71 (cq gq72 (cq gq73 (cq gq74 (cq gq75 (cq gq76 (cq gq77 nq)))))))))))))))))))))))))))))))))))))))))))) hCM_good))
theorem hW_good : HkGood Tryz.prog hW := HkGood.or hP_good (HkGood.or closed_w hT_good)
end Go.Proofs.YtjfmelmiegnmjaaGreatDoor
end
section
open Go Go.Sx Go.Proofs Go.RowKit Go.Pw
set_option linter.all false
namespace Go.Proofs.YtjfmelmiegnmjaaGreatDoor
set_option maxRecDepth 1000000
theorem x_move {a : Act} {o : Oper} {x : Operand} {u : Value} (ho : o.op = .move x) (h : a.eval x = u) (w : World) : (execOp a.eval o).run Tryz.prog w = .ok (.value u) w := by
  unfold execOp
  simp only [ho, h]
  rfl
theorem x_assign {a : Act} {o : Oper} {x : Operand} {u : Value} (ho : o.op = .assign x) (h : a.eval x = u) (w : World) : (execOp a.eval o).run Tryz.prog w = .ok (.value u) w := by
  unfold execOp
  simp only [ho, h]
  rfl
theorem x_ext {a : Act} {o : Oper} {x : Operand} {i : Nat} {us : Array Value} {u : Value} (ho : o.op = .extract x i) (h : a.eval x = .tuple us) (hu : us[i]? = some u) (w : World) : (execOp a.eval o).run Tryz.prog w = .ok (.value u) w := by
  unfold execOp
  simp only [ho, h, Instr.extract, hu]
  rfl
theorem get_putD (i j : Nat) (v : AV) (t : Tr AV) : getP (path j) (putD (some (path i)) v t) = if j = i then some v else getP (path j) t := get_put _ i j t
theorem bump_n (st : St) : (bumpS st).n = st.n + 1 := by cases st; rfl
theorem bump_get (st : St) : (bumpS st).get = st.get := by cases st; rfl
theorem en0_hz : ∀ w, (zeroValue 92).run Tryz.prog w = .ok en0 w := fun w => by kernel_rfl
theorem x_dec {a : Act} {u : Value} (h : a.eval (.tmp 123) = u) (w : World) : (execOp a.eval (oAt 1)).run Tryz.prog w = .ok (.enter 32 #[u]) w := by
  have ho : (oAt 1).op = .call { callee := .value (.func 32), args := #[.tmp 123], argTypes := #[50] } := by kernel_rfl
  obtain ⟨fn, h1, _, h3, _⟩ := fnOf_ok (show fnOf Tryz.prog 32 = some (ntOf Tryz.prog 32, bodyOf Tryz.prog 32, resultsOf Tryz.prog 32) by kernel_rfl)
  have hc := callsOK 32 fn _ h1 h3 #[u] w
  have hf : a.eval (.func 32) = .func (.func 32) #[] #[] := rfl
  simp only [execOp, ho, resolve, hf, Sem.run_bind, Deferred.ofValue, Sem.run_pure, Result.andThen_ok, invoke, List.map_toArray, List.map_cons, List.map_nil, h, Array.append_empty, Array.empty_append]
  exact hc
def DecOK (w : World) (e : Ending) (w' : World) : Prop := ∃ (V : AV) (cs : List Value), (∀ σ, den σ V = some (.agg cs.toArray)) ∧ cs.length = 16 ∧ cs.toArray.all (·.oneCell') = true ∧ e = .returned (.tuple #[.agg cs.toArray, .int .i64 0]) ∧ Pw.Only w w' []
theorem decode_av {b o n c : Nat} {w : World} {cs : Array Value} {el : Nat} {fr : Nat × Nat} (hb : w.heap[b]? = some (.cells cs el fr)) (hby : ∀ i, i < n → ∃ z : Nat, z < 256 ∧ cs[o + i]? = some (.int .u8 z)) (hn : n ≤ 1000) (hnc : n ≤ c) (hc : c ≤ 9223372036854775807) (hg : zBad (bytesOf o n cs) = false) :
    Calls Tryz.prog 32 #[.slice (some ⟨b, o, none⟩) n c] w (DecOK w) := by
  refine (decode_good hb hby hn hnc hc hg).mono ?_
  rintro e w' ⟨⟨a, vs, va, vg, vk, vd, vz, rfl, g⟩, ho⟩
  obtain ⟨⟨a1, c1, rfl⟩, _⟩ := g.gs
  obtain ⟨⟨a2, c2, rfl⟩, _⟩ := g.gh.ga
  obtain ⟨⟨a3, c3, rfl⟩, _⟩ := g.gh.gs
  obtain ⟨⟨a4, c4, rfl⟩, _⟩ := g.gh.gk
  obtain ⟨⟨a5, c5, rfl⟩, _⟩ := g.gd
  obtain ⟨⟨a6, c6, rfl⟩, _⟩ := g.gz
  exact ⟨.agg [.int .i64 a.fu, .int .i64 a.fd, .int .i64 a.tu, .int .i64 a.td, .osl a1 a.ss.length c1, .bool a.has, .osl a2 a.h.ag.length c2, .osl a3 a.h.sg.length c3, .osl a4 a.h.key.length c4, .int .u32 a.h.signed, .bool a.h.has, .int .u32 a.h.once, .osl a5 a.dks.length c5, .int .u32 a.dp, .int .u32 a.dn, .osl a6 a.sls.length c6], _, fun σ => rfl, rfl, by rw [← Array.all_toList]; rfl, rfl, ho⟩
theorem r16 {σ0 : Env} {s0 : St} {W : World} {σ : Env} {t : Tr AV} {d : Ds} {st : St} {a : Act} {w : World} (S : HS Tryz.prog nF σ0 s0 W σ t d st a w) {x : AV} {u : Value} (h2 : getP (path 2) t = some x) (hx : den σ x = some u)
    (hC : ∀ w, Pw.Only W w [] → True) (hD : Calls Tryz.prog 32 #[u] w (DecOK w)) {Qe : Exit → Act → World → Prop} (hQ : ∀ V σ' a' w', HS Tryz.prog nF σ0 s0 W σ' (t16 V t st) d (bumpS st) a' w' → Qe .normal a' w') : c16.wp Tryz.prog Qe a w := by
  have ht := S.tmp
  rw [c16_eq]
  refine wp_region_list ?_
  rw [oL_eq]
  refine list_val ht (wanted_no (by kernel_rfl)) (p := some (path 123)) (by kernel_rfl) (v := (getP (path 2) t).getD (.tup [])) (u := u) (by rw [h2]; exact hx) (x_move (x := .tmp 2) (by kernel_rfl) (ht.at (v := x) h2 hx) _) ?_
  intro a0 ht0 de0
  refine list_call ht0 (by kernel_rfl) (p := some (path 124)) (by kernel_rfl) (x_dec (ht0.at (v := (getP (path 2) t).getD (.tup [])) (u := u) (by simp only [get_putD]; simp) (by rw [h2]; exact hx)) _) hD ?_
  rintro e w1 ⟨V, cs, hV, hl, h1, rfl, ho1⟩
  have hT : den σ (.tup [V, .int .i64 (.ofNat 0)]) = some (.tuple #[.agg cs.toArray, .int .i64 0]) := by
    simp only [den, denL, hV]
    rfl
  refine ⟨.tup [V, .int .i64 (.ofNat 0)], _, rfl, hT, fun a1 ht1 de1 => ?_⟩
  refine list_val ht1 (wanted_no (by kernel_rfl)) (p := some (path 122)) (by kernel_rfl) (v := .tup [V, .int .i64 (.ofNat 0)]) hT (x_move (x := .tmp 124) (by kernel_rfl) (ht1.at (v := .tup [V, .int .i64 (.ofNat 0)]) (by simp only [get_putD]; simp) hT) _) ?_
  intro a2 ht2 de2
  refine list_val ht2 (wanted_no (by kernel_rfl)) (p := some (path 125)) (by kernel_rfl) (v := V) (hV σ) (x_ext (x := .tmp 122) (i := 0) (by kernel_rfl) (ht2.at (v := .tup [V, .int .i64 (.ofNat 0)]) (by simp only [get_putD]; simp) hT) rfl _) ?_
  intro a3 ht3 de3
  refine list_val ht3 (wanted_no (by kernel_rfl)) (p := some (path 126)) (by kernel_rfl) (v := .int .i64 (.ofNat 0)) rfl (x_ext (x := .tmp 122) (i := 1) (by kernel_rfl) (ht3.at (v := .tup [V, .int .i64 (.ofNat 0)]) (by simp only [get_putD]; simp) hT) rfl _) ?_
  intro a4 ht4 de4
  refine wpList_alloc_new (by kernel_rfl) 92 (by kernel_rfl) en0 en0_hz ?_
  intro X w3 ho3 hX hb3
  have hn : σ st.n = none := S.free _ (Nat.le_refl _)
  have hle : σ.le (σ.put st.n ⟨X, 0, 0⟩) := fun id l e => by
    have : id ≠ st.n := by rintro rfl; rw [hn] at e; cases e
    unfold Env.put
    rw [if_neg this]
    exact e
  have hP : den (σ.put st.n ⟨X, 0, 0⟩) (.ptr st.n 0) = some (.pointer (some ⟨X, 0, none⟩)) := by
    simp only [den, Env.put_same, Option.map_some, Nat.add_zero]
  have hd5 : (oAt 5).dst = some 22 := by kernel_rfl
  rw [hd5]
  have ht5 := (ht4.mono hle).put (d := some 22) (p := some (path 22)) (by kernel_rfl) (v := .ptr st.n 0) hP
  have de5 : (a4.put (some 22) (.pointer (some ⟨X, 0, none⟩))).defers = a4.defers := put_defers
  generalize a4.put (some 22) (.pointer (some ⟨X, 0, none⟩)) = a5 at ht5 de5 ⊢
  refine wpList_store_blk (by kernel_rfl) 92 (.tmp 22) (.tmp 125) (by kernel_rfl) X cs (ht5.at (v := .ptr st.n 0) (by simp only [get_putD]; simp) hP) (ht5.at (v := V) (by simp only [get_putD]; simp) (hV _)) hb3 (by rw [hl]; rfl) (by rw [hl]; kernel_rfl) h1 ?_
  intro w4 ho4 hb4
  have hd6 : (oAt 6).dst = none := by kernel_rfl
  rw [hd6]
  have hnone : a5.put none undef = a5 := rfl
  rw [hnone]
  refine list_val ht5 (wanted_no (by kernel_rfl)) (p := some (path 23)) (by kernel_rfl) (v := .int .i64 (.ofNat 0)) rfl (x_assign (x := .tmp 126) (by kernel_rfl) (ht5.at (v := .int .i64 (.ofNat 0)) (u := .int .i64 0) (by simp only [get_putD]; simp) rfl) _) ?_
  intro a7 ht7 de7
  refine wpList_nil (hQ V (σ.put st.n ⟨X, 0, 0⟩) a7 w4 (S.step ?_ ht7 ?_ (by rw [bump_n]; omega)))
  · rw [bump_n, bump_get]
    refine Stp.name S.stp.rep hn ?_ _
    have h13 := ho1.trans ho3
    exact ⟨ho4.os.trans h13.os, ho4.tape.trans h13.tape, ho4.output.trans h13.output, Nat.le_trans h13.size ho4.size, fun k hk _ => (ho4.block k (Nat.lt_of_lt_of_le hk h13.size) (by have := ho1.size; simp; omega)).trans (h13.block k hk (by simp))⟩
  · rw [de7, de5, de4, de3, de2, de1, de0]
    exact S.dfr.mono hle
theorem notT {o : Option AV} (h : isB o = true) : o = some (.bool false) := by
  unfold isB at h
  split at h
  · rename_i b
    cases b
    · rfl
    · cases h
  · cases h
theorem isT_eq {o : Option (List AV)} (h : isT o = true) : o = some [.bool true] := by
  unfold isT at h
  split at h
  · rename_i b
    obtain rfl : b = true := h
    rfl
  · cases h
theorem nilD {d : Ds} (h : isNil d = true) : d = [] := by cases d <;> first | rfl | cases h
theorem hgoodF : CallGood Tryz.prog clF := call_good (okT := okT) okt callsOK mixed hW_good dhC_good 1000 60
theorem hroP : (roW.all fun p => Nat.blt p.1 roN && Nat.blt p.1 Tryz.prog.globals.size) = true := by kernel_rfl
theorem tail_hand {σ0 : Env} {s0 : St} {W : World} {σ : Env} {a : Act} {w : World} {E : Nat → Nat} {x y z : AV} {u : Value} (S : HS Tryz.prog nF σ0 s0 W σ (rs0 E x y z).t (rs0 E x y z).d (rs0 E x y z).s a w)
    (hall : ∀ V, allOK E x y z V = true) (h2 : getP (path 2) (rs30 E x y z).t = some z) (hz : ∀ σ, den σ z = some u) (hD : ∀ w', OnlyB W w' (fun _ => False) → Calls Tryz.prog 32 #[u] w' (DecOK w'))
    (hWs : ∀ {σ' t' d' st' a' w'}, HS Tryz.prog nF σ0 s0 W σ' t' d' st' a' w' → OnlyB W w' (fun _ => False)) :
    cTl.wp Tryz.prog (fun e a' w'' => e = .ret ∧ ∃ σ2 t2 st2, HS Tryz.prog nF σ0 s0 W σ2 t2 [] st2 a' w'' ∧ resOf Tryz.prog t2 st2 rsF = some [.bool true]) a w := by
  have hx := fun V => hall V
  simp only [allOK, Bool.and_eq_true] at hx
  obtain ⟨b0, b15, b21, q1, b23, q2, b25, q3, b30, q4, _, _, _⟩ := hx (.tup [])
  rw [cTl_eq]
  refine wp_seq ?_
  refine wp_seq ?_
  refine HS.run (n := 1000) (p := c15) S okt callsOK mixed hgoodF b15 fun σ1 a1 w1 S1 => ?_
  replace S1 : HS Tryz.prog nF σ0 s0 W σ1 (rs15 E x y z).t (rs15 E x y z).d (rs15 E x y z).s a1 w1 := S1
  refine wp_block ?_
  rw [i0_eq]
  refine wp_seq ?_
  refine HS.run (n := 1000) (p := (seqA i0)) S1 okt callsOK mixed hgoodF b21 fun σ2 a2 w2 S2 => ?_
  replace S2 : HS Tryz.prog nF σ0 s0 W σ2 (rs21 E x y z).t (rs21 E x y z).d (rs21 E x y z).s a2 w2 := S2
  refine S2.cond (notT q1) ?_
  rw [if_neg (by simp), i1_eq]
  refine wp_seq ?_
  refine HS.run (n := 1000) (p := (seqA i1)) S2 okt callsOK mixed hgoodF b23 fun σ3 a3 w3 S3 => ?_
  replace S3 : HS Tryz.prog nF σ0 s0 W σ3 (rs23 E x y z).t (rs23 E x y z).d (rs23 E x y z).s a3 w3 := S3
  refine S3.cond (notT q2) ?_
  rw [if_neg (by simp), i2_eq]
  refine wp_seq ?_
  refine HS.run (n := 1000) (p := (seqA i2)) S3 okt callsOK mixed hgoodF b25 fun σ4 a4 w4 S4 => ?_
  replace S4 : HS Tryz.prog nF σ0 s0 W σ4 (rs25 E x y z).t (rs25 E x y z).d (rs25 E x y z).s a4 w4 := S4
  refine S4.cond (notT q3) ?_
  rw [if_neg (by simp), i3_eq]
  refine wp_seq ?_
  refine HS.run (n := 1000) (p := (seqA i3)) S4 okt callsOK mixed hgoodF b30 fun σ5 a5 w5 S5 => ?_
  replace S5 : HS Tryz.prog nF σ0 s0 W σ5 (rs30 E x y z).t (rs30 E x y z).d (rs30 E x y z).s a5 w5 := S5
  refine S5.cond (notT q4) ?_
  rw [if_neg (by simp), i4_eq]
  refine wp_seq ?_
  refine r16 S5 h2 (hz _) (fun _ _ => trivial) (hD _ (hWs S5)) fun V σ6 a6 w6 S6 => ?_
  refine wp_seq ?_
  obtain ⟨_, _, _, _, _, _, _, _, _, _, b1, b2, b3⟩ := hx V
  refine HS.runR (n := 1000) (p := cC) S6 okt callsOK mixed hgoodF b1 fun σ7 a7 w7 S7 => ?_
  have e : (rsC E x y z V).d = [] := nilD b2
  unfold rsC at e
  rw [e] at S7
  exact ⟨rfl, σ7, _, _, S7, isT_eq b3⟩
theorem hand0 {W : World} {E : Nat → Nat} {m k b o n c : Nat} {ds : Array Value} {T : Nat} {fr : Nat × Nat} (hW : ∀ id c, (id, c) ∈ roW → BlkOK (env0 Tryz.prog) W id (.mk (E id) 0 c)) (hm : m % 2 = 0 ∧ m < 256) (hk : k % 5 = 4 ∧ k < 256) (hb : W.heap[b]? = some (.cells ds T fr)) (hsz : o + n ≤ ds.size)
    (hby : ∀ i, i < n → ∃ v : Nat, v < 256 ∧ ds[o + i]? = some (.int .u8 v)) (hn : n ≤ 200) (hnc : n ≤ c) (hc : c ≤ 9223372036854775807) (hz : zBad (bytesOf o n ds) = false) :
    Calls Tryz.prog 7 #[.int .u8 m, .int .u8 k, .slice (some ⟨b, o, none⟩) n c] W fun e W' => e = .returned (.bool true) ∧ Below W.heap.size W W' := by
  obtain ⟨hrep, small⟩ := rep_st0 hroP hW
  have hlt : b < W.heap.size := (Array.getElem?_eq_some_iff.1 hb).1
  refine law_hand okt callsOK mixed hgoodF cF_fn (args := [.par .u8 m 2 0 hm, .par .u8 k 5 4 hk, .osn (some ⟨b, o, none⟩) n c 0 200 ⟨Nat.zero_le _, hn⟩]) (us := [.int .u8 m, .int .u8 k, .slice (some ⟨b, o, none⟩) n c]) (σ := env0 Tryz.prog) rfl (st := st0 roW E) (Nat.le_refl _) (fun id h => by
    have hg : Tryz.prog.globals.size ≤ 200 := Nat.le_of_ble_eq_true (by kernel_rfl)
    have h : 256 ≤ id := h
    simp only [env0]
    rw [if_neg (by omega)]) (glob0 Tryz.prog) hrep (fun id b e => (small id b e).1) cF_ahead (n := 1000) ?_ fun σ' a w' S => ?_
  · have := ok0 E m k hm hk (some ⟨b, o, none⟩) n c ⟨Nat.zero_le _, hn⟩ (.tup [])
    unfold allOK at this
    exact (Bool.and_eq_true _ _ ▸ this).1
  · have hWs : ∀ {σ' t' d' st' a' w'}, HS Tryz.prog nF (env0 Tryz.prog) (st0 roW E) W σ' t' d' st' a' w' → OnlyB W w' (fun _ => False) := fun S => S.stp.only.mono (by
      rintro k _ ⟨id, b, l, h0, h1, h2, h3⟩
      have := (small id b h1).1
      omega)
    refine tail_hand (u := .slice (some ⟨b, o, none⟩) n c) S (fun V => ok0 E m k hm hk _ n c _ V) (at0 E m k hm hk _ n c _) (fun _ => rfl) (fun w2 ho => ?_) hWs
    have hb2 : w2.heap[b]? = some (.cells ds T fr) := by rw [ho.block b hlt (fun x => x)]; exact hb
    exact decode_av hb2 hby (by omega) hnc hc hz
theorem hand1 {W : World} {E : Nat → Nat} {m k b o n c : Nat} {ds : Array Value} {T : Nat} {fr : Nat × Nat} (hW : ∀ id c, (id, c) ∈ roW → BlkOK (env0 Tryz.prog) W id (.mk (E id) 0 c)) (hm : m % 2 = 1 ∧ m < 256) (hk : k % 5 = 4 ∧ k < 256) (hb : W.heap[b]? = some (.cells ds T fr)) (hsz : o + n ≤ ds.size)
    (hby : ∀ i, i < n → ∃ v : Nat, v < 256 ∧ ds[o + i]? = some (.int .u8 v)) (hn : n ≤ 200) (hnc : n ≤ c) (hc : c ≤ 9223372036854775807) (hz : zBad (bytesOf o n ds) = false) :
    Calls Tryz.prog 7 #[.int .u8 m, .int .u8 k, .slice (some ⟨b, o, none⟩) n c] W fun e W' => e = .returned (.bool true) ∧ Below W.heap.size W W' := by
  obtain ⟨hrep, small⟩ := rep_st0 hroP hW
  have hlt : b < W.heap.size := (Array.getElem?_eq_some_iff.1 hb).1
  refine law_hand okt callsOK mixed hgoodF cF_fn (args := [.par .u8 m 2 1 hm, .par .u8 k 5 4 hk, .osn (some ⟨b, o, none⟩) n c 0 200 ⟨Nat.zero_le _, hn⟩]) (us := [.int .u8 m, .int .u8 k, .slice (some ⟨b, o, none⟩) n c]) (σ := env0 Tryz.prog) rfl (st := st0 roW E) (Nat.le_refl _) (fun id h => by
    have hg : Tryz.prog.globals.size ≤ 200 := Nat.le_of_ble_eq_true (by kernel_rfl)
    have h : 256 ≤ id := h
    simp only [env0]
    rw [if_neg (by omega)]) (glob0 Tryz.prog) hrep (fun id b e => (small id b e).1) cF_ahead (n := 1000) ?_ fun σ' a w' S => ?_
  · have := ok1 E m k hm hk (some ⟨b, o, none⟩) n c ⟨Nat.zero_le _, hn⟩ (.tup [])
    unfold allOK at this
    exact (Bool.and_eq_true _ _ ▸ this).1
  · have hWs : ∀ {σ' t' d' st' a' w'}, HS Tryz.prog nF (env0 Tryz.prog) (st0 roW E) W σ' t' d' st' a' w' → OnlyB W w' (fun _ => False) := fun S => S.stp.only.mono (by
      rintro k _ ⟨id, b, l, h0, h1, h2, h3⟩
      have := (small id b h1).1
      omega)
    refine tail_hand (u := .slice (some ⟨b, o, none⟩) n c) S (fun V => ok1 E m k hm hk _ n c _ V) (at1 E m k hm hk _ n c _) (fun _ => rfl) (fun w2 ho => ?_) hWs
    have hb2 : w2.heap[b]? = some (.cells ds T fr) := by rw [ho.block b hlt (fun x => x)]; exact hb
    exact decode_av hb2 hby (by omega) hnc hc hz
end Go.Proofs.YtjfmelmiegnmjaaGreatDoor
end
section
open Go Go.Sx Go.Proofs Go.RowKit
set_option linter.all false
namespace Go.Proofs.YtjfmelmiegnmjaaGreatDoor
set_option maxRecDepth 1000000
def nmF (l : Sx.Loc) : Nat → Option Sx.Loc := fun id => if id = 200 then some l else none
theorem hroF : (roW.all fun p => Nat.blt p.1 roN && Nat.blt p.1 Tryz.prog.globals.size) = true := by kernel_rfl
theorem hglF : Nat.ble Tryz.prog.globals.size 200 = true := by kernel_rfl
def GoodF (W : World) (m k : Nat) (ao : Option Addr) (n c : Nat) : Prop := Calls Tryz.prog 7 #[.int .u8 m, .int .u8 k, .slice ao n c] W fun e W' => e = .returned (.bool true) ∧ Below W.heap.size W W'
theorem nmF_at {l : Sx.Loc} : envN Tryz.prog (nmF l) 200 = some l := (envN_at _ _ (Nat.le_of_ble_eq_true hglF) (by decide)).trans rfl
section
variable {W : World} {E : Nat → Nat} {m k : Nat} {ao : Option Addr} {n c : Nat}
theorem lawF (l : Sx.Loc) {r q s : Nat} {hm : m % 2 = r ∧ m < 256} {hk : k % s = q ∧ k < 256} {tx : AV} (hx : den (envN Tryz.prog (nmF l)) tx = some (.slice ao n c)) {st : St} (hn : st.n = roN) (hrep : Rep (envN Tryz.prog (nmF l)) st.get W) (hro : ∀ id b, st.get id = some b → id < roN) (h : (rF st (.par .u8 m 2 r hm) (.par .u8 k s q hk) tx).isTrue = true) : GoodF W m k ao n c :=
  law_env okt callsOK mixed hW_good dhC_good cF_fn (args := [.par .u8 m 2 r hm, .par .u8 k s q hk, tx]) (us := [.int .u8 m, .int .u8 k, .slice ao n c]) (denL_cons' rfl (denL_cons' rfl (denL_cons' hx denL_nil'))) (Nat.le_of_eq hn.symm) (envN_hi _ _ (Nat.le_trans (Nat.le_of_ble_eq_true hglF) (by decide))) (envN_glob _ _) hrep hro h
theorem lawO (hW : ∀ id c, (id, c) ∈ roW → BlkOK (env0 Tryz.prog) W id (.mk (E id) 0 c)) (l : Sx.Loc) {r q s : Nat} {hm : m % 2 = r ∧ m < 256} {hk : k % s = q ∧ k < 256} {tx : AV} (hx : den (envN Tryz.prog (nmF l)) tx = some (.slice ao n c)) (h : (rF (st0 roW E) (.par .u8 m 2 r hm) (.par .u8 k s q hk) tx).isTrue = true) : GoodF W m k ao n c :=
  lawF l hx rfl ((rep_st0 hroF hW).1.names (envN_le _ _)) (fun id b e => ((rep_st0 hroF hW).2 id b e).1) h
theorem deviceTakes_any (hW : ∀ id c, (id, c) ∈ roW → BlkOK (env0 Tryz.prog) W id (.mk (E id) 0 c)) (hne : ∀ id c', (id, c') ∈ roW → ∃ c el fr, W.heap[id]? = some (.cells c el fr) ∧ ∀ (j : Nat) (u : Value), c[j]? = some u → ∃ k z, u = .int k z ∧ k ≠ .u8)
    (hm : m < 256) (hk : k < 256) (hnc : n ≤ c) (hc : c ≤ 9223372036854775807) (hao : ao = none → c = 0)
    (htx : 0 < n → ∃ b o ds T fr, ao = some ⟨b, o, none⟩ ∧ W.heap[b]? = some (.cells ds T fr) ∧ o + n ≤ ds.size ∧ ∀ i, i < n → ∃ v : Nat, v < 256 ∧ ds[o + i]? = some (.int .u8 v)) : GoodF W m k ao n c := by
  have l0 : Sx.Loc := ⟨0, 0, 0⟩
  have dO : ∀ {lo hi : Nat} (h : lo ≤ n ∧ n ≤ hi), den (envN Tryz.prog (nmF l0)) (.osn ao n c lo hi h) = some (.slice ao n c) := fun _ => rfl
  by_cases hw : 201 ≤ n
  · rcases Nat.mod_two_eq_zero_or_one m with h | h
    · exact lawO hW l0 (dO ⟨hw, by omega⟩) (f0w E m k ⟨h, hm⟩ ⟨by omega, hk⟩ ao n c ⟨hw, by omega⟩)
    · exact lawO hW l0 (dO ⟨hw, by omega⟩) (f1w E m k ⟨h, hm⟩ ⟨by omega, hk⟩ ao n c ⟨hw, by omega⟩)
  have hn : 0 ≤ n ∧ n ≤ 200 := ⟨Nat.zero_le _, by omega⟩
  have h5 : k % 5 = 0 ∨ k % 5 = 1 ∨ k % 5 = 2 ∨ k % 5 = 3 ∨ k % 5 = 4 := by omega
  rcases Nat.mod_two_eq_zero_or_one m with h | h <;> rcases h5 with g | g | g | g | g
  · exact lawO hW l0 (dO hn) (f00 E m k ⟨h, hm⟩ ⟨g, hk⟩ ao n c hn)
  · exact lawO hW l0 (dO hn) (f01 E m k ⟨h, hm⟩ ⟨g, hk⟩ ao n c hn)
  · exact lawO hW l0 (dO hn) (f02 E m k ⟨h, hm⟩ ⟨g, hk⟩ ao n c hn)
  · exact lawO hW l0 (dO hn) (f03 E m k ⟨h, hm⟩ ⟨g, hk⟩ ao n c hn)
  · by_cases h0 : n = 0
    · subst h0
      obtain ⟨l, ha, hb⟩ := Sx.Loc.at0_of ao (c := c) (by omega)
      exact lawO hW l (den_slcU nmF_at ha hb hao hc) (f0u E m k ⟨h, hm⟩ ⟨g, hk⟩)
    · obtain ⟨b, o, ds, T, fr, rfl, hb, hsz, hby⟩ := htx (by omega)
      by_cases hz : zBad (bytesOf o n ds) = true
      · obtain ⟨p1, p2⟩ := packT (a := n) (b := c) (by omega) ⟨b, o, 0⟩
        have hx := den_slcT (σ := envN Tryz.prog (nmF ⟨b, o, n + 18446744073709551616 * c⟩)) (id := 200) (lo := 1) (hi := 200) nmF_at (by rw [p1]; omega) (by rw [p1]; omega)
        rw [p1, p2] at hx
        refine lawF _ hx rfl (rep_stB (T := T) hroF (Nat.le_of_ble_eq_true hglF) hW (l := ⟨b, o, n + 18446744073709551616 * c⟩) rfl hb ?_ ?_ ?_ ?_ ?_) (stB_small hroF) (f0t E m k ⟨h, hm⟩ ⟨g, hk⟩ T)
        · rw [p1]; exact hsz
        · intro j hj
          rw [p1] at hj
          exact hby j hj
        · rw [p1, p2]; exact ⟨hnc, hc⟩
        · rw [p1]; exact hz
        · intro id c' hm' hid
          obtain ⟨c0, el, fr0, q1, q2⟩ := hne id c' hm'
          have hid : id = b := hid
          rw [← hid] at hb
          rw [q1] at hb
          injection hb with hb
          injection hb with hb _ _
          obtain ⟨v, _, hv⟩ := hby 0 (by omega)
          rw [← hb] at hv
          obtain ⟨kd, z, hz, hk⟩ := q2 _ _ hv
          injection hz with hz _
          exact hk hz.symm
      · exact hand0 hW ⟨h, hm⟩ ⟨g, hk⟩ hb hsz hby (by omega) hnc hc (by simpa using hz)
  · exact lawO hW l0 (dO hn) (f10 E m k ⟨h, hm⟩ ⟨g, hk⟩ ao n c hn)
  · exact lawO hW l0 (dO hn) (f11 E m k ⟨h, hm⟩ ⟨g, hk⟩ ao n c hn)
  · exact lawO hW l0 (dO hn) (f12 E m k ⟨h, hm⟩ ⟨g, hk⟩ ao n c hn)
  · exact lawO hW l0 (dO hn) (f13 E m k ⟨h, hm⟩ ⟨g, hk⟩ ao n c hn)
  · by_cases h0 : n = 0
    · subst h0
      obtain ⟨l, ha, hb⟩ := Sx.Loc.at0_of ao (c := c) (by omega)
      exact lawO hW l (den_slcU nmF_at ha hb hao hc) (f1u E m k ⟨h, hm⟩ ⟨g, hk⟩)
    · obtain ⟨b, o, ds, T, fr, rfl, hb, hsz, hby⟩ := htx (by omega)
      by_cases hz : zBad (bytesOf o n ds) = true
      · obtain ⟨p1, p2⟩ := packT (a := n) (b := c) (by omega) ⟨b, o, 0⟩
        have hx := den_slcT (σ := envN Tryz.prog (nmF ⟨b, o, n + 18446744073709551616 * c⟩)) (id := 200) (lo := 1) (hi := 200) nmF_at (by rw [p1]; omega) (by rw [p1]; omega)
        rw [p1, p2] at hx
        refine lawF _ hx rfl (rep_stB (T := T) hroF (Nat.le_of_ble_eq_true hglF) hW (l := ⟨b, o, n + 18446744073709551616 * c⟩) rfl hb ?_ ?_ ?_ ?_ ?_) (stB_small hroF) (f1t E m k ⟨h, hm⟩ ⟨g, hk⟩ T)
        · rw [p1]; exact hsz
        · intro j hj
          rw [p1] at hj
          exact hby j hj
        · rw [p1, p2]; exact ⟨hnc, hc⟩
        · rw [p1]; exact hz
        · intro id c' hm' hid
          obtain ⟨c0, el, fr0, q1, q2⟩ := hne id c' hm'
          have hid : id = b := hid
          rw [← hid] at hb
          rw [q1] at hb
          injection hb with hb
          injection hb with hb _ _
          obtain ⟨v, _, hv⟩ := hby 0 (by omega)
          rw [← hb] at hv
          obtain ⟨kd, z, hz, hk⟩ := q2 _ _ hv
          injection hz with hz _
          exact hk hz.symm
      · exact hand1 hW ⟨h, hm⟩ ⟨g, hk⟩ hb hsz hby (by omega) hnc hc (by simpa using hz)
end
#print axioms deviceTakes_any
end Go.Proofs.YtjfmelmiegnmjaaGreatDoor
end
section
open Go Go.Sx Go.Proofs Go.RowKit
set_option linter.all false
namespace Go.Proofs.YtjfmelmiegnmjaaGreatDoor
set_option maxRecDepth 100000
theorem reads_text {P : Program} {W : World} {t e : TypeId} {cs : List Value} (hT : P.underlying t = some (.slice e)) (hE : P.underlying e = some (.int .u8)) (hc : P.cellsOf e = 1) (h : Reads P W t cs) :
    ∃ (ao : Option Addr) (n c : Nat), cs = [.slice ao n c] ∧ n ≤ c ∧ c ≤ 9223372036854775807 ∧ (ao = none → c = 0) ∧
      (0 < n → ∃ b o ds T fr, ao = some ⟨b, o, none⟩ ∧ W.heap[b]? = some (.cells ds T fr) ∧ o + n ≤ ds.size ∧ ∀ i, i < n → ∃ v : Nat, v < 256 ∧ ds[o + i]? = some (.int .u8 v)) := by
  obtain ⟨H, enc, fuel, x, h⟩ := h
  rcases Go.ChangeShapes.open_ints hT hE hc h with ⟨rfl, _⟩ | ⟨a, len, cap, zs, rfl, _, hl, hm, hz, _, hcell, hwz⟩
  · exact ⟨none, 0, 0, rfl, Nat.le_refl _, by omega, fun _ => rfl, fun h => by omega⟩
  · have hzl : zs.length = cap := by simpa using hz
    refine ⟨some a, len, cap, rfl, hl, by unfold maxLen at hm; exact hm, (fun h => by cases h), fun hn => ?_⟩
    have hb : ∀ i, i < zs.length → ∃ v : Nat, v < 256 ∧ zs.getD i 0 = (v : Int) := fun i hi => by
      have hw := hwz zs[i] (List.getElem_mem hi)
      rw [List.getD_eq_getElem?_getD, List.getElem?_eq_getElem hi]
      simp [Lit.wf, IntKind.min, IntKind.max, IntKind.signed, IntKind.bits] at hw
      exact ⟨zs[i].toNat, by omega, by show zs[i] = _; omega⟩
    obtain ⟨b, o, s⟩ := a
    have c0 := hcell 0 (by omega)
    unfold Addr.add at c0
    rw [if_pos rfl] at c0
    unfold World.cell? at c0
    cases hh : W.heap[b]? with
    | none => simp only [hh] at c0; cases c0
    | some ob =>
      cases ob with
      | cells ds T fr =>
        simp only [hh] at c0
        cases s with
        | some k => simp at c0
        | none =>
          have each : ∀ i, i < len → ∃ v : Nat, v < 256 ∧ ds[o + i]? = some (.int .u8 v) := fun i hi => by
            obtain ⟨v, hv1, hv2⟩ := hb i (by omega)
            have := hcell i (by omega)
            rw [hv2] at this
            refine ⟨v, hv1, ?_⟩
            unfold Addr.add at this
            by_cases h0 : i = 0
            · subst h0
              rw [if_pos rfl] at this
              unfold World.cell? at this
              simp only [hh, Option.isSome_none, Bool.false_eq_true, if_false] at this
              exact this
            · rw [if_neg h0] at this
              unfold World.cell? at this
              simp only [hh, Option.isSome_none, Bool.false_eq_true, if_false] at this
              exact this
          refine ⟨b, o, ds, T, fr, rfl, hh, ?_, each⟩
          obtain ⟨v, _, hv⟩ := each (len - 1) (by omega)
          have := (Array.getElem?_eq_some_iff.1 hv).1
          omega
      | _ => simp only [hh] at c0; cases c0
theorem laid_ne {laid : List (String × DataW Unit)} {W : World} (h : laidMet Tryz.prog laid W) {n1 n2 n3 : String} {d1 d2 d3 : DataW Unit} (i1 : (n1, d1) ∈ laid) (i2 : (n2, d2) ∈ laid) (i3 : (n3, d3) ∈ laid)
    (e1 : d1 = Lib.tabData .u32 fsts) (e2 : d2 = Lib.tabData .u32 rnds) (e3 : d3 = Lib.tabData .u64 pows) (g1 : Tryz.prog.globalNamed n1 = some 1) (g2 : Tryz.prog.globalNamed n2 = some 2) (g3 : Tryz.prog.globalNamed n3 = some 5) :
    ∀ id c', (id, c') ∈ roW → ∃ c el fr, W.heap[id]? = some (.cells c el fr) ∧ ∀ (j : Nat) (u : Value), c[j]? = some u → ∃ k z, u = .int k z ∧ k ≠ .u8 := by
  subst e1 e2 e3
  obtain ⟨c1, el1, fr1, a1, b1⟩ := laid_tab_obj h i1 g1 tFst Tryz.underlying394 Tryz.underlying24 (by kernel_rfl) (by kernel_rfl) (by decide)
  obtain ⟨c2, el2, fr2, a2, b2⟩ := laid_tab_obj h i2 g2 tRnd Tryz.underlying465 Tryz.underlying24 (by kernel_rfl) (by kernel_rfl) (by decide)
  obtain ⟨c3, el3, fr3, a3, b3⟩ := laid_tab_obj h i3 g3 tPow Tryz.underlying505 Tryz.underlying42 (by kernel_rfl) (by kernel_rfl) (by decide)
  intro id c' hm
  simp only [roW, List.mem_cons, List.not_mem_nil, or_false, Prod.mk.injEq] at hm
  rcases hm with ⟨rfl, _⟩ | ⟨rfl, _⟩ | ⟨rfl, _⟩
  · refine ⟨c1, el1, fr1, a1, fun j u hj => ?_⟩
    obtain ⟨z, hz⟩ := b1 j u hj
    exact ⟨_, z, hz, by decide⟩
  · refine ⟨c2, el2, fr2, a2, fun j u hj => ?_⟩
    obtain ⟨z, hz⟩ := b2 j u hj
    exact ⟨_, z, hz, by decide⟩
  · refine ⟨c3, el3, fr3, a3, fun j u hj => ?_⟩
    obtain ⟨z, hz⟩ := b3 j u hj
    exact ⟨_, z, hz, by decide⟩
theorem u8_in {H : Type} {enc : TypeId × Value → H} {base : Nat} {W : World} {v : Value} {d : DataW H} {p : List MemPlace} (k0 : Value.okWide Tryz.prog W .any base 5 v) (t0 : DataW.Trod enc Tryz.prog W 0 (fun _ => true) true 5 v d p) : ∃ m : Nat, m < 256 ∧ v = .int .u8 m := by
  obtain ⟨n, rfl⟩ := Go.WideShapes.okWide_int Tryz.underlying5 k0
  obtain ⟨n', he, hw⟩ := reads_int Tryz.underlying5 (reads_of t0)
  obtain rfl : n = n' := by simpa [Value.cells] using he
  have h0 : 0 ≤ n ∧ n < 256 := by
    simp [Lit.wf, IntKind.min, IntKind.max, IntKind.signed, IntKind.bits] at hw
    omega
  obtain ⟨m, rfl⟩ := Int.eq_ofNat_of_zero_le h0.1
  exact ⟨m, by have := h0.2; omega, rfl⟩
theorem deviceTakes_walk : deviceTakes.Walk := by
  intro H enc base W v0 v1 v2 d0 p0 d1 p1 d2 p2 hL k0 t0 k1 t1 k2 t2
  obtain ⟨m, hm, rfl⟩ := u8_in k0 t0
  obtain ⟨k, hk, rfl⟩ := u8_in k1 t1
  obtain ⟨ao', n', c', rfl⟩ := Go.WideShapes.okWide_slice Tryz.underlying50 k2
  obtain ⟨ao, n, c, he, q1, q2, q3, q4⟩ := reads_text Tryz.underlying50 Tryz.underlying5 (by kernel_rfl) (reads_of t2)
  obtain ⟨rfl, rfl, rfl⟩ : ao' = ao ∧ n' = n ∧ c' = c := by simpa [Value.cells] using he
  rw [MakeChecks.laidMetH_plain _ _ _ (by kernel_rfl)] at hL
  have i1 := List.mem_of_getElem? (show Rows.deviceTakesRow.laid[4]? = some (_, _) from rfl)
  have i2 := List.mem_of_getElem? (show Rows.deviceTakesRow.laid[3]? = some (_, _) from rfl)
  have i3 := List.mem_of_getElem? (show Rows.deviceTakesRow.laid[2]? = some (_, _) from rfl)
  obtain ⟨E, hb⟩ := laid_ro hL i1 i2 i3 (by kernel_rfl) (by kernel_rfl) (by kernel_rfl) (by kernel_rfl) (by kernel_rfl) (by kernel_rfl)
  exact deviceTakes_any (E := E) hb (laid_ne hL i1 i2 i3 (by kernel_rfl) (by kernel_rfl) (by kernel_rfl) (by kernel_rfl) (by kernel_rfl) (by kernel_rfl)) hm hk q1 q2 q3 q4
theorem deviceTakesCard_holds : Rows.DeviceTakesCardSaid := deviceTakes.card deviceTakes_walk
#print axioms deviceTakesCard_holds
end Go.Proofs.YtjfmelmiegnmjaaGreatDoor
end
