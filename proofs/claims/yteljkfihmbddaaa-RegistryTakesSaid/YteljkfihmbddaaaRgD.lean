/- slices.Delete of the first bundle (layer 17, registry). -/
import Derived.Test.YteljkfihmbddaaaRgA
import Derived.ArgAppend
namespace Go.Pw
open Go.RowKit
set_option linter.unusedVariables false
theorem step_append_run2 {P : Program} {ops : Array Oper} {o : Oper} {a : Act} {w : World} {K : Act → World → Prop} {Q : Exit → Act → World → Prop} {E : Prop}
    (hg : o.guard = none) (s x : Operand) (t t' : TypeId) (hop : o.op = Op.call { callee := Callee.builtin Builtin.append, args := #[s, x], argTypes := #[t, t'] })
    (v u : Value) (hs : a.eval s = v) (hx : a.eval x = u) {v' : Value} {w' : World} (hr : (Builtin.append_ #[t, t'] o.type #[v, u]).run P w = .ok v' w') (hK : K (a.put o.dst v') w') :
    if Region.wanted o (yielded ops a.tmps) = true then Oper.wp P o a w K Q else E := by
  have hw : Region.wanted o (yielded ops a.tmps) = true := by simp [Region.wanted, hg]
  rw [if_pos hw]
  unfold Oper.wp
  simp [execOp, hop, resolve, invoke, builtin, hs, hx, hr, Result.andThen]
  exact hK
theorem setL_head (xs vs : List Value) (h : vs.length ≤ xs.length) : setL xs 0 vs = vs ++ xs.drop vs.length := by
  have := setL_app (xs.take vs.length) [] vs (xs.drop vs.length) (by rw [List.length_take]; omega)
  simpa [List.take_append_drop] using this
end Go.Pw
namespace Go.Proofs.Yteljkfihmbddaaa
open Go.RowKit Go.Pw
set_option linter.unusedVariables false

set_option maxRecDepth 100000 in
set_option maxHeartbeats 1600000 in
theorem delete_front {w0 : World} {rs : List Res} (g n c : Nat) (xs : List Value) (w : World) (h : Sep w0 w (row 40 10 (.slice (some ⟨g, 0, none⟩) n c) n xs :: rs)) (hn : 0 < n) (hn2 : n ≤ 1000) (h1c : ∀ u ∈ xs, u.oneCell' = true) :
    Calls Try.prog 33 #[.slice (some ⟨g, 0, none⟩) n c, .int .i64 0, .int .i64 1] w fun e w' => e = .returned (.slice (some ⟨g, 0, none⟩) (n - 1) c) ∧ Sep w0 w' (row 40 10 (.slice (some ⟨g, 0, none⟩) (n - 1) c) (n - 1) (xs.drop 10) :: rs) := by
  obtain ⟨i0, hi, hz0, hzs, hzb⟩ := info_parts bun_info
  have hown : w.ownsRow 0 40 10 (.slice (some ⟨g, 0, none⟩) n c) n xs := h.head
  obtain ⟨hnc, hcm⟩ := row_cap hown
  have hxl : xs.length = n * 10 := hown.1
  have hdl : (xs.drop 10).length = (n - 1) * 10 := by rw [List.length_drop, hxl]; omega
  have hownd : w.drew.ownsRow 0 40 10 (.slice (some ⟨g, 0, none⟩) n c) n xs := hown
  have happ : ∀ (p : Nat) (cc : Nat) ty, (0 < (n - 1) * 10 → p = 10) → (Builtin.append_ #[42, 42] ty #[.slice (some ⟨g, 0, none⟩) 0 c, .slice (some ⟨g, p, none⟩) (n - 1) cc]).run Try.prog w.drew = .ok (.slice (some ⟨g, 0, none⟩) (n - 1) c) (w.drew.setCells g 0 (xs.drop 10)) := fun p cc ty hp => by
    have := run_append_room_cells (P := Try.prog) (w := w.drew) 42 ty 40 i0 Try.underlying42 hi g 0 0 c ⟨g, p, none⟩ (n - 1) cc (xs.drop 10) (by rw [hzs]; exact hdl)
      (fun j u hj => by
        have hlt := (List.getElem?_eq_some_iff.1 hj).1
        rw [hdl] at hlt
        rw [List.getElem?_drop] at hj
        rw [Addr.add_lit, hp (by omega), hownd.cellAt _ (by omega)]; exact hj)
      (fun u hu => h1c u (List.mem_of_mem_drop hu)) (by omega)
      (fun j hj => by rw [hdl] at hj; simpa using (row_there hownd 0 (n * 10) (by omega) j (by omega)).1)
      (fun j hj => hownd.frozenAt _)
    simpa using this
  have hr1 := row_setCells (w := w) (xs.drop 10) 0 _ _ hownd
  obtain ⟨W1, hW1⟩ : ∃ W1, W1 = w.drew.setCells g 0 (xs.drop 10) := ⟨_, rfl⟩
  have o1 : Only w.drew W1 [g] := by rw [hW1]; exact only_setCells _ _ _
  rw [← hW1] at hr1 happ
  clear hW1
  obtain ⟨vs, hvs, hcl⟩ := run_clear_recs (P := Try.prog) W1 42 40 0 (.agg (bc b0).toArray) 10 Try.underlying42 (fun _ => by kernel_rfl) rfl (bc_one b0) g ((n - 1) * 10) 1 (c - (n - 1)) (by decide) (by decide) (row_there hr1 ((n - 1) * 10) (1 * 10) (by omega))
  have hr2 := row_setCells (w := w) vs ((n - 1) * 10) _ _ hr1
  have hr3 := row_head hr2 (show n - 1 ≤ n by omega)
  rw [setL_take _ _ _ _ (Nat.le_refl _), setL_head _ _ (by rw [hdl, hxl]; omega), List.take_append_of_le_length (by omega), List.take_of_length_le (by omega)] at hr3
  have sF : Sep w0 (W1.setCells g ((n - 1) * 10) vs) (row 40 10 (.slice (some ⟨g, 0, none⟩) (n - 1) c) (n - 1) (xs.drop 10) :: rs) :=
    h.step (L := [g]) (((Only.drew w [g]).trans o1).trans (only_setCells _ _ _)) (fun k hk => .inl (by simpa [row, Value.ownBlock] using hk)) hr3 (fun k hk => .inl (by simpa [row, Value.ownBlock] using hk))
  have hpc : ¬ (c = n - 1) := by omega
  have h0c : ¬ (c = 0) := by omega
  have hnI : (1 : Int) ≤ (n : Int) := by omega
  have hm1 : ((n - 1 : Nat) : Int) ≤ n := by omega
  have hsub : n - (n - 1) = 1 := by omega
  clear h hown hownd hr1 hr2 hr3 o1 hvs
  by_cases hc1 : c = 1
  · obtain rfl : c = 1 := hc1
    obtain rfl : n = 1 := by omega
    have ha := happ 0 0 42 (by omega)
    clear happ
    go_enter Try.func33, Try.ntmps33
    go_wp2_with fail
    go_region_law (refine step_append_run2 rfl _ _ 42 42 rfl _ _ (by simp [Act.eval, Act.put]) (by simp [Act.eval, Act.put]) ha ?_)
    go_wp2_with fail
    go_ret
    exact ⟨rfl, sF⟩
  · have ha := happ 10 (c - 1) 42 (fun _ => rfl)
    clear happ
    go_enter Try.func33, Try.ntmps33
    go_wp2_with fail
    go_region_law (refine step_append_run2 rfl _ _ 42 42 rfl _ _ (by simp [Act.eval, Act.put]) (by simp [Act.eval, Act.put]) ha ?_)
    go_wp2_with fail
    go_ret
    exact ⟨rfl, sF⟩
end Go.Proofs.Yteljkfihmbddaaa
