/- What a book tells is what the reference tells. Printed by gen_rt.py. -/
import Derived.Test.YtdlbkdnpbcpjfaaRbT0
import Derived.Deep.Cut
import Derived.Deep.CutBlock
import Derived.Deep.CutRange
set_option linter.unusedSimpArgs false
set_option linter.unusedVariables false
namespace Go.Proofs.Ytdlbkdnpbcpjfaa
open Go.RowKit Go.Pw Go.Pw.Fl
set_option linter.unusedVariables false

set_option maxRecDepth 100000 in
set_option maxHeartbeats 6400000 in
theorem told_gen {w0 : World} {rs : List Res} (B : Nat) (L : List Rg) (M : List Ln) (v mv : Value) (i : Nat) (w : World) (h : Sep w0 w (row 36 7 v (L.map reg).length (fl rc (L.map reg)) :: blk B [v] 68 :: rs)) (hmr : w.ownsRow 0 86 6 mv M.length (fl lnc M))
    (hQ0 : ∀ k (hk : k < L.length), ∃ ao c, w.heap[L[k].Q]? = some (.cells #[.slice ao L[k].n c] 74 (0, 0))) (hA0 : ∀ k (hk : k < L.length), Pw.Src w (.slice L[k].a1 1 L[k].c1) 1 ([L[k].x] : List Int).length (([L[k].x] : List Int).map (Value.int .u8))) (hV : InvG i L M) (hi : i ≤ 60) :
    Calls Try.prog 24 #[.pointer (some ⟨B, 0, none⟩), mv] w fun e w' => e = .returned (.bool true) ∧ Only w w' [] := by
  obtain ⟨ao, c, rfl⟩ := own_slice (show w.ownsRow 0 _ 7 v (L.map reg).length (fl rc (L.map reg)) from h.head)
  obtain ⟨mo, mc, rfl⟩ := own_slice hmr
  have hll : (L.map reg).length ≤ 1000000 := by rw [List.length_map]; have := hV.len; omega
  have hml : M.length ≤ 60 := by have := hV.mlen; have := hV.len; omega
  have hLM : ∀ k, k < M.length → k < L.length := fun k hk => by have := hV.mlen; omega
  have HALL := all_any B (L.map reg) _ w (h.sel 2 [0, 1]) hll
  have HGET : ∀ w', Only w w' [] → ∀ k (hk : k < L.length), Calls Try.prog 12 #[.pointer (some ⟨B, 0, none⟩), wv L[k].u L[k].d] w' fun e w'' => e = .returned (.tuple #[.agg (rc (reg L[k])).toArray, .bool true]) ∧ Only w' w'' [] := fun w' o k hk => by
    have := get_any B (L.map reg) _ L[k].u L[k].d w' ((h.quiet o).sel 2 [0, 1]) hll hV.asc.rise
    rwa [g_found_self hV.asc hk, g_got_re hk (g_place_self hV.asc hk) (g_found_self hV.asc hk)] at this
  have HLEN : ∀ w', Only w w' [] → Calls Try.prog 16 #[.pointer (some ⟨B, 0, none⟩)] w' fun e w'' => e = .returned (.int .i64 (L.map reg).length) ∧ w'' = w' := fun w' o => len_any B _ _ _ w' ((h.quiet o).sel 2 [1]).head
  have HQ : ∀ w', Only w w' [] → ∀ k (hk : k < L.length), Calls Try.prog 41 #[.pointer (some ⟨L[k].Q, 0, none⟩)] w' fun e w'' => e = .returned (.int .i64 L[k].n) ∧ w'' = w' := fun w' o k hk => by
    obtain ⟨qo, qc, hq⟩ := hQ0 k hk
    exact qlen_any L[k].Q qo _ qc w' (o.at hq (by simp))
  have HSRC : ∀ w', Only w w' [] → ∀ k (hk : k < L.length), Pw.Src w' (.slice L[k].a1 1 L[k].c1) 1 ([L[k].x] : List Int).length (([L[k].x] : List Int).map (Value.int .u8)) := fun w' o k hk => (hA0 k hk).off o (fun _ _ _ => by simp)
  have HLIST := fun (w' : World) (o : Only w w' []) (user : Int) => list_any B (L.map reg) _ user w' ((h.quiet o).sel 2 [0, 1]) hll
  have HLN : ∀ j (hj : j < M.length), ∃ mg, mo = some ⟨mg, 0, none⟩ ∧ ∀ w', Only w w' [] → w'.cell? ⟨mg, j * 6, none⟩ = some (.int .i64 M[j].u) ∧ w'.cell? ⟨mg, j * 6 + 1, none⟩ = some (.int .i64 M[j].d) ∧ w'.cell? ⟨mg, j * 6 + 2, none⟩ = some (.int .u8 M[j].i) ∧ w'.cell? ⟨mg, j * 6 + 3, none⟩ = some (.bool M[j].st) ∧ w'.cell? ⟨mg, j * 6 + 4, none⟩ = some (.float .f64 M[j].t) ∧ w'.cell? ⟨mg, j * 6 + 5, none⟩ = some (.int .i64 M[j].n) := fun j hj => by
    have hrow := hmr
    obtain ⟨mg, rfl, _⟩ := own_some hrow (by omega)
    refine ⟨mg, rfl, fun w' o => ?_⟩
    have hr := own_only hrow o (fun _ _ => by simp)
    exact ⟨rec_cell lnc_len hr hj 0 rfl, rec_cell lnc_len hr hj 1 rfl, rec_cell lnc_len hr hj 2 rfl, rec_cell lnc_len hr hj 3 rfl, rec_cell lnc_len hr hj 4 rfl, rec_cell lnc_len hr hj 5 rfl⟩
  have hN : (L.map reg).length = M.length := by rw [List.length_map, hV.mlen]
  have HRA : ∀ (w1 : World) (aA : Option Addr) (cA : Nat), w1.ownsRow 0 36 7 (.slice aA M.length cA) M.length (fl rc (L.map reg)) → ∀ k (hk : k < L.length), ∃ ga, aA = some ⟨ga, 0, none⟩ ∧ ∀ w', Only w1 w' [] → w'.cell? ⟨ga, k * 7, none⟩ = some (.int .i64 L[k].u) ∧ w'.cell? ⟨ga, k * 7 + 1, none⟩ = some (.int .i64 L[k].d) ∧ w'.cell? ⟨ga, k * 7 + 2, none⟩ = some (.slice L[k].a1 1 L[k].c1) ∧ w'.cell? ⟨ga, k * 7 + 4, none⟩ = some (.pointer (some ⟨L[k].Q, 0, none⟩)) ∧ w'.cell? ⟨ga, k * 7 + 5, none⟩ = some (.bool L[k].st) ∧ w'.cell? ⟨ga, k * 7 + 6, none⟩ = some (.float .f64 L[k].t) := fun w1 aA cA hrow k hk => by
    obtain ⟨ga, rfl, _⟩ := own_some hrow (by have := hV.mlen; omega)
    refine ⟨ga, rfl, fun w' o => ?_⟩
    have hr := own_only hrow o (fun _ _ => by simp)
    rw [← hN] at hr
    obtain ⟨e0, e1, e2, e3, e4, e5, e6⟩ := rec_at hr (k := k) (by rw [List.length_map]; exact hk)
    simp only [List.getElem_map, reg] at e0 e1 e2 e3 e4 e5 e6
    exact ⟨e0, e1, e2, e4, e5, e6⟩
  rw [hN] at HALL HLEN
  replace HGET := Lib.hid HGET
  replace HQ := Lib.hid HQ
  replace HSRC := Lib.hid HSRC
  replace HLIST := Lib.hid HLIST
  replace HLN := Lib.hid HLN
  have HV := Lib.hid hV
  clear h hV hi hN hll hmr hQ0 hA0
  go_enter Try.func24, Try.ntmps24
  go_wp2_with fail
  refine HALL.mono ?_
  rintro e w1 ⟨aA, cA, rfl, sA⟩
  have o1 := sA.only
  have HA := Lib.hid (HRA w1 aA cA sA.head)
  clear HALL HRA sA
  go_wp2_with fail
  refine (HLEN _ o1).mono ?_
  rintro e w1 ⟨rfl, rfl⟩
  clear HLEN
  go_wp2_with fail
  go_loopw [6] (fun x wr => ∃ k : Nat, x = .int .i64 k ∧ k ≤ M.length ∧ Only w1 wr []) (fun x _ => M.length - (intOf x).toNat)
  case atStart => exact ⟨0, rfl, Nat.zero_le _, Only.refl _ _⟩
  case round =>
    obtain ⟨k, rfl, hk, oR⟩ := hrel
    by_cases hkM : k < M.length
    · have d1 : decide ((k : Int) < M.length) = true := by simpa using hkM
      have hkL := hLM k hkM
      obtain ⟨ga, rfl, HC⟩ := HA.out k hkL
      replace HC := Lib.hid HC
      have oD := oR.trans (Only.drew wr [])
      go_upto_region 7 with fail
      go_cut [54] from 38 to 53 (fun u54 wx => u54 = .bool false ∧ Only w1 wx [])
      case first =>
        by_cases hk0 : k = 0
        · have dk : decide (0 < (k : Int)) = false := by simp [hk0]
          have dk2 : decide (0 < k) = false := by simp [hk0]
          clear hk0
          refine wp_region_held_drew (S := fun w' => Only wr.drew w' []) (by kernel_rfl) (Only.refl _ _) (fun hHeld => ?_)
          refine' wpAnyH_take (i := 0) (v := _) (op_at rfl) (by kernel_rfl) (by kernel_rfl) (by kernel_rfl) (fun _ _ _ h => h) (Or.inl ⟨by rfl, ?hy1⟩) (by assumption) ?rest1
          case hy1 =>
            intro w' hS
            go_simp
            try with_reducible rfl
          try simp only [Act.put, List.setIfInBounds_toArray, List.set_cons_zero, List.set_cons_succ]
          refine' wpAnyH_take (i := 1) (v := _) (op_at rfl) (by kernel_rfl) (by kernel_rfl) (by kernel_rfl) (fun _ _ _ h => h) (Or.inl ⟨by rfl, ?hy2⟩) (by assumption) ?rest2
          case hy2 =>
            intro w' hS
            go_simp
            try with_reducible rfl
          try simp only [Act.put, List.setIfInBounds_toArray, List.set_cons_zero, List.set_cons_succ]
          refine' wpAnyH_take (i := 2) (v := _) (op_at rfl) (by kernel_rfl) (by kernel_rfl) (by kernel_rfl) (fun _ _ _ h => h) (Or.inl ⟨by rfl, ?hy3⟩) (by assumption) ?rest3
          case hy3 =>
            intro w' hS
            go_simp
            try with_reducible rfl
          try simp only [Act.put, List.setIfInBounds_toArray, List.set_cons_zero, List.set_cons_succ]
          refine wpAnyH_take (i := 3) (v := undef) (op_at rfl) (by kernel_rfl) (by kernel_rfl) (by kernel_rfl) (fun _ _ _ h => h) (Or.inr ⟨by rfl, rfl⟩) (by assumption) ?_
          try simp only [Act.put, List.setIfInBounds_toArray, List.set_cons_zero, List.set_cons_succ]
          refine wpAnyH_take (i := 4) (v := undef) (op_at rfl) (by kernel_rfl) (by kernel_rfl) (by kernel_rfl) (fun _ _ _ h => h) (Or.inr ⟨by rfl, rfl⟩) (by assumption) ?_
          try simp only [Act.put, List.setIfInBounds_toArray, List.set_cons_zero, List.set_cons_succ]
          refine wpAnyH_take (i := 5) (v := undef) (op_at rfl) (by kernel_rfl) (by kernel_rfl) (by kernel_rfl) (fun _ _ _ h => h) (Or.inr ⟨by rfl, rfl⟩) (by assumption) ?_
          try simp only [Act.put, List.setIfInBounds_toArray, List.set_cons_zero, List.set_cons_succ]
          refine wpAnyH_take (i := 6) (v := undef) (op_at rfl) (by kernel_rfl) (by kernel_rfl) (by kernel_rfl) (fun _ _ _ h => h) (Or.inr ⟨by rfl, rfl⟩) (by assumption) ?_
          try simp only [Act.put, List.setIfInBounds_toArray, List.set_cons_zero, List.set_cons_succ]
          refine wpAnyH_take (i := 7) (v := undef) (op_at rfl) (by kernel_rfl) (by kernel_rfl) (by kernel_rfl) (fun _ _ _ h => h) (Or.inr ⟨by rfl, rfl⟩) (by assumption) ?_
          try simp only [Act.put, List.setIfInBounds_toArray, List.set_cons_zero, List.set_cons_succ]
          refine wpAnyH_take (i := 8) (v := undef) (op_at rfl) (by kernel_rfl) (by kernel_rfl) (by kernel_rfl) (fun _ _ _ h => h) (Or.inr ⟨by rfl, rfl⟩) (by assumption) ?_
          try simp only [Act.put, List.setIfInBounds_toArray, List.set_cons_zero, List.set_cons_succ]
          refine wpAnyH_take (i := 9) (v := undef) (op_at rfl) (by kernel_rfl) (by kernel_rfl) (by kernel_rfl) (fun _ _ _ h => h) (Or.inr ⟨by rfl, rfl⟩) (by assumption) ?_
          try simp only [Act.put, List.setIfInBounds_toArray, List.set_cons_zero, List.set_cons_succ]
          refine wpAnyH_take (i := 10) (v := undef) (op_at rfl) (by kernel_rfl) (by kernel_rfl) (by kernel_rfl) (fun _ _ _ h => h) (Or.inr ⟨by rfl, rfl⟩) (by assumption) ?_
          try simp only [Act.put, List.setIfInBounds_toArray, List.set_cons_zero, List.set_cons_succ]
          refine wpAnyH_take (i := 11) (v := undef) (op_at rfl) (by kernel_rfl) (by kernel_rfl) (by kernel_rfl) (fun _ _ _ h => h) (Or.inr ⟨by rfl, rfl⟩) (by assumption) ?_
          try simp only [Act.put, List.setIfInBounds_toArray, List.set_cons_zero, List.set_cons_succ]
          refine wpAnyH_take (i := 12) (v := undef) (op_at rfl) (by kernel_rfl) (by kernel_rfl) (by kernel_rfl) (fun _ _ _ h => h) (Or.inr ⟨by rfl, rfl⟩) (by assumption) ?_
          try simp only [Act.put, List.setIfInBounds_toArray, List.set_cons_zero, List.set_cons_succ]
          refine wpAnyH_take (i := 13) (v := undef) (op_at rfl) (by kernel_rfl) (by kernel_rfl) (by kernel_rfl) (fun _ _ _ h => h) (Or.inr ⟨by rfl, rfl⟩) (by assumption) ?_
          try simp only [Act.put, List.setIfInBounds_toArray, List.set_cons_zero, List.set_cons_succ]
          refine wpAnyH_take (i := 14) (v := undef) (op_at rfl) (by kernel_rfl) (by kernel_rfl) (by kernel_rfl) (fun _ _ _ h => h) (Or.inr ⟨by rfl, rfl⟩) (by assumption) ?_
          try simp only [Act.put, List.setIfInBounds_toArray, List.set_cons_zero, List.set_cons_succ]
          refine wpAnyH_take (i := 15) (v := undef) (op_at rfl) (by kernel_rfl) (by kernel_rfl) (by kernel_rfl) (fun _ _ _ h => h) (Or.inr ⟨by rfl, rfl⟩) (by assumption) ?_
          try simp only [Act.put, List.setIfInBounds_toArray, List.set_cons_zero, List.set_cons_succ]
          refine' wpAnyH_take (i := 16) (v := _) (op_at rfl) (by kernel_rfl) (by kernel_rfl) (by kernel_rfl) (fun _ _ _ h => h) (Or.inl ⟨by rfl, ?hy17⟩) (by assumption) ?rest17
          case hy17 =>
            intro w' hS
            go_simp
            try with_reducible rfl
          try simp only [Act.put, List.setIfInBounds_toArray, List.set_cons_zero, List.set_cons_succ]
          refine wpAnyH_done (by kernel_rfl) ?_ _
          go_wp2_with fail
          go_meet
          case rel => exact ⟨rfl, oD⟩
        · obtain ⟨k', hk'⟩ : ∃ k', k = k' + 1 := ⟨k - 1, by omega⟩
          have hk'L : k' < L.length := by omega
          obtain ⟨ga', hga, HC'⟩ := HA.out k' hk'L
          replace HC' := Lib.hid HC'
          obtain rfl : ga' = ga := by simpa using hga.symm
          have dk : decide (0 < (k : Int)) = true := by simp; omega
          have dk2 : decide (0 < k) = true := by simp; omega
          have hasc : Hid (L[k'].u < L[k].u ∨ L[k'].u = L[k].u ∧ L[k'].d < L[k].d) := List.pairwise_iff_getElem.1 HV.out.asc k' k hk'L hkL (by omega)
          have hks : (k : Int) - 1 = (k' : Int) := by omega
          have hwk : IntKind.i64.wrap (k' : Int) = (k' : Int) := by rw [IntKind.wrap_i64]; omega
          have hk'i : (0 : Int) ≤ (k' : Int) ∧ (k' : Int) < M.length := by omega
          have HK := Lib.hid hk'
          clear hk0 hga hk'
          refine wp_region_held_drew (S := fun w' => Only wr.drew w' []) (by kernel_rfl) (Only.refl _ _) (fun hHeld => ?_)
          refine' wpAnyH_take (i := 0) (v := _) (op_at rfl) (by kernel_rfl) (by kernel_rfl) (by kernel_rfl) (fun _ _ _ h => h) (Or.inl ⟨by rfl, ?hy18⟩) (by assumption) ?rest18
          case hy18 =>
            intro w' hS
            go_simp
            try with_reducible rfl
          try simp only [Act.put, List.setIfInBounds_toArray, List.set_cons_zero, List.set_cons_succ]
          refine' wpAnyH_take (i := 1) (v := _) (op_at rfl) (by kernel_rfl) (by kernel_rfl) (by kernel_rfl) (fun _ _ _ h => h) (Or.inl ⟨by rfl, ?hy19⟩) (by assumption) ?rest19
          case hy19 =>
            intro w' hS
            go_simp
            try with_reducible rfl
          try simp only [Act.put, List.setIfInBounds_toArray, List.set_cons_zero, List.set_cons_succ]
          refine' wpAnyH_take (i := 2) (v := _) (op_at rfl) (by kernel_rfl) (by kernel_rfl) (by kernel_rfl) (fun _ _ _ h => h) (Or.inl ⟨by rfl, ?hy20⟩) (by assumption) ?rest20
          case hy20 =>
            intro w' hS
            go_simp
            try with_reducible rfl
          try simp only [Act.put, List.setIfInBounds_toArray, List.set_cons_zero, List.set_cons_succ]
          refine' wpAnyH_take (i := 3) (v := _) (op_at rfl) (by kernel_rfl) (by kernel_rfl) (by kernel_rfl) (fun _ _ _ h => h) (Or.inl ⟨by rfl, ?hy21⟩) (by assumption) ?rest21
          case hy21 =>
            intro w' hS
            go_simp
            try with_reducible rfl
          try simp only [Act.put, List.setIfInBounds_toArray, List.set_cons_zero, List.set_cons_succ]
          refine' wpAnyH_take (i := 4) (v := _) (op_at rfl) (by kernel_rfl) (by kernel_rfl) (by kernel_rfl) (fun _ _ _ h => h) (Or.inl ⟨by rfl, ?hy22⟩) (by assumption) ?rest22
          case hy22 =>
            intro w' hS
            go_simp
            try with_reducible rfl
          try simp only [Act.put, List.setIfInBounds_toArray, List.set_cons_zero, List.set_cons_succ]
          refine' wpAnyH_take (i := 5) (v := _) (op_at rfl) (by kernel_rfl) (by kernel_rfl) (by kernel_rfl) (fun _ _ _ h => h) (Or.inl ⟨by rfl, ?hy23⟩) (by assumption) ?rest23
          case hy23 =>
            intro w' hS
            go_simp
            try with_reducible rfl
          try simp only [Act.put, List.setIfInBounds_toArray, List.set_cons_zero, List.set_cons_succ]
          refine' wpAnyH_take (i := 6) (v := _) (op_at rfl) (by kernel_rfl) (by kernel_rfl) (by kernel_rfl) (fun _ _ _ h => h) (Or.inl ⟨by rfl, ?hy24⟩) (by assumption) ?rest24
          case hy24 =>
            intro w' hS
            go_simp
            try with_reducible rfl
          try simp only [Act.put, List.setIfInBounds_toArray, List.set_cons_zero, List.set_cons_succ]
          refine' wpAnyH_take (i := 7) (v := _) (op_at rfl) (by kernel_rfl) (by kernel_rfl) (by kernel_rfl) (fun _ _ _ h => h) (Or.inl ⟨by rfl, ?hy25⟩) (by assumption) ?rest25
          case hy25 =>
            intro w' hS
            go_simp
            try with_reducible rfl
          try simp only [Act.put, List.setIfInBounds_toArray, List.set_cons_zero, List.set_cons_succ]
          refine' wpAnyH_take (i := 8) (v := _) (op_at rfl) (by kernel_rfl) (by kernel_rfl) (by kernel_rfl) (fun _ _ _ h => h) (Or.inl ⟨by rfl, ?hy26⟩) (by assumption) ?rest26
          case hy26 =>
            intro w' hS
            obtain ⟨e0, e1, e2, e4, e5, e6⟩ := HC'.out w' (oD.trans hS)
            go_simp
            try with_reducible rfl
          try simp only [Act.put, List.setIfInBounds_toArray, List.set_cons_zero, List.set_cons_succ]
          refine' wpAnyH_take (i := 9) (v := _) (op_at rfl) (by kernel_rfl) (by kernel_rfl) (by kernel_rfl) (fun _ _ _ h => h) (Or.inl ⟨by rfl, ?hy27⟩) (by assumption) ?rest27
          case hy27 =>
            intro w' hS
            go_simp
            try with_reducible rfl
          try simp only [Act.put, List.setIfInBounds_toArray, List.set_cons_zero, List.set_cons_succ]
          refine' wpAnyH_take (i := 10) (v := _) (op_at rfl) (by kernel_rfl) (by kernel_rfl) (by kernel_rfl) (fun _ _ _ h => h) (Or.inl ⟨by rfl, ?hy28⟩) (by assumption) ?rest28
          case hy28 =>
            intro w' hS
            go_simp
            try with_reducible rfl
          try simp only [Act.put, List.setIfInBounds_toArray, List.set_cons_zero, List.set_cons_succ]
          refine' wpAnyH_take (i := 11) (v := _) (op_at rfl) (by kernel_rfl) (by kernel_rfl) (by kernel_rfl) (fun _ _ _ h => h) (Or.inl ⟨by rfl, ?hy29⟩) (by assumption) ?rest29
          case hy29 =>
            intro w' hS
            go_simp
            try with_reducible rfl
          try simp only [Act.put, List.setIfInBounds_toArray, List.set_cons_zero, List.set_cons_succ]
          refine' wpAnyH_take (i := 12) (v := _) (op_at rfl) (by kernel_rfl) (by kernel_rfl) (by kernel_rfl) (fun _ _ _ h => h) (Or.inl ⟨by rfl, ?hy30⟩) (by assumption) ?rest30
          case hy30 =>
            intro w' hS
            go_simp
            try with_reducible rfl
          try simp only [Act.put, List.setIfInBounds_toArray, List.set_cons_zero, List.set_cons_succ]
          refine' wpAnyH_take (i := 13) (v := _) (op_at rfl) (by kernel_rfl) (by kernel_rfl) (by kernel_rfl) (fun _ _ _ h => h) (Or.inl ⟨by rfl, ?hy31⟩) (by assumption) ?rest31
          case hy31 =>
            intro w' hS
            obtain ⟨e0, e1, e2, e4, e5, e6⟩ := HC.out w' (oD.trans hS)
            go_simp
            try with_reducible rfl
          try simp only [Act.put, List.setIfInBounds_toArray, List.set_cons_zero, List.set_cons_succ]
          refine wpAnyH_ready (rs := [14]) (by kernel_rfl) (by simp) (AllReadyH.cons (op_at rfl) (fun K hK => ?_) AllReadyH.nil)
          go_simp
          refine (ahead_l L[k'].u L[k'].d L[k].u L[k].d true (by simpa using hasc.out) _).mono fun e w3 hq => ?_
          obtain ⟨rfl, o3⟩ := hq
          go_wp2_with fail
          refine hK.out _ _ o3 (fun hHeld => ?_)
          clear hK K
          try simp only [Act.put, List.setIfInBounds_toArray, List.set_cons_zero, List.set_cons_succ]
          refine' wpAnyH_take (i := 15) (v := _) (op_at rfl) (by kernel_rfl) (by kernel_rfl) (by kernel_rfl) (fun _ _ _ h => h) (Or.inl ⟨by rfl, ?hy32⟩) (by assumption) ?rest32
          case hy32 =>
            intro w' hS
            go_simp
            try with_reducible rfl
          try simp only [Act.put, List.setIfInBounds_toArray, List.set_cons_zero, List.set_cons_succ]
          refine' wpAnyH_take (i := 16) (v := _) (op_at rfl) (by kernel_rfl) (by kernel_rfl) (by kernel_rfl) (fun _ _ _ h => h) (Or.inl ⟨by rfl, ?hy33⟩) (by assumption) ?rest33
          case hy33 =>
            intro w' hS
            go_simp
            try with_reducible rfl
          try simp only [Act.put, List.setIfInBounds_toArray, List.set_cons_zero, List.set_cons_succ]
          refine wpAnyH_done (by kernel_rfl) ?_ _
          go_wp2_with fail
          go_meet
          case rel => exact ⟨rfl, oD.trans o3⟩
      case rest =>
      obtain ⟨rfl, oT⟩ := hcut
      go_wp2_with fail
      rw [show Value.bool false = .bool (hitB M L[k].u L[k].d 0) from rfl]
      go_loopw [7, 8] (fun x y wq => ∃ j : Nat, x = .bool (hitB M L[k].u L[k].d j) ∧ y = .int .i64 j ∧ j ≤ M.length ∧ Only w1 wq []) (fun _ y _ => M.length - (intOf y).toNat)
      case atStart => exact ⟨0, rfl, rfl, Nat.zero_le _, oT⟩
      case round =>
        obtain ⟨j, rfl, rfl, hj, oJ0⟩ := hrel
        by_cases hjM : j < M.length
        · have d2 : decide ((j : Int) < M.length) = true := by simpa using hjM
          obtain ⟨mg, rfl, HM⟩ := HLN.out j hjM
          replace HM := Lib.hid HM
          have oJ := oJ0.trans (Only.drew wr [])
          have Hst := Lib.hid (hit_step (M := M) L[k].u L[k].d hjM)
          go_upto_region 13 with fail
          refine wp_region_held_drew (S := fun w' => Only wr.drew w' []) (by kernel_rfl) (Only.refl _ _) (fun hHeld => ?_)
          refine' wpAnyH_take (i := 0) (v := _) (op_at rfl) (by kernel_rfl) (by kernel_rfl) (by kernel_rfl) (fun _ _ _ h => h) (Or.inl ⟨by rfl, ?hy35⟩) (by assumption) ?rest35
          case hy35 =>
            intro w' hS
            go_simp
            try with_reducible rfl
          try simp only [Act.put, List.setIfInBounds_toArray, List.set_cons_zero, List.set_cons_succ]
          refine' wpAnyH_take (i := 1) (v := _) (op_at rfl) (by kernel_rfl) (by kernel_rfl) (by kernel_rfl) (fun _ _ _ h => h) (Or.inl ⟨by rfl, ?hy36⟩) (by assumption) ?rest36
          case hy36 =>
            intro w' hS
            go_simp
            try with_reducible rfl
          try simp only [Act.put, List.setIfInBounds_toArray, List.set_cons_zero, List.set_cons_succ]
          refine' wpAnyH_take (i := 2) (v := _) (op_at rfl) (by kernel_rfl) (by kernel_rfl) (by kernel_rfl) (fun _ _ _ h => h) (Or.inl ⟨by rfl, ?hy37⟩) (by assumption) ?rest37
          case hy37 =>
            intro w' hS
            go_simp
            try with_reducible rfl
          try simp only [Act.put, List.setIfInBounds_toArray, List.set_cons_zero, List.set_cons_succ]
          refine' wpAnyH_take (i := 3) (v := _) (op_at rfl) (by kernel_rfl) (by kernel_rfl) (by kernel_rfl) (fun _ _ _ h => h) (Or.inl ⟨by rfl, ?hy38⟩) (by assumption) ?rest38
          case hy38 =>
            intro w' hS
            go_simp
            try with_reducible rfl
          try simp only [Act.put, List.setIfInBounds_toArray, List.set_cons_zero, List.set_cons_succ]
          refine' wpAnyH_take (i := 4) (v := _) (op_at rfl) (by kernel_rfl) (by kernel_rfl) (by kernel_rfl) (fun _ _ _ h => h) (Or.inl ⟨by rfl, ?hy39⟩) (by assumption) ?rest39
          case hy39 =>
            intro w' hS
            obtain ⟨m0, m1, m2, m3, m4, m5⟩ := HM.out w' (o1.trans (oJ.trans hS))
            go_simp
            try with_reducible rfl
          try simp only [Act.put, List.setIfInBounds_toArray, List.set_cons_zero, List.set_cons_succ]
          refine' wpAnyH_take (i := 5) (v := _) (op_at rfl) (by kernel_rfl) (by kernel_rfl) (by kernel_rfl) (fun _ _ _ h => h) (Or.inl ⟨by rfl, ?hy40⟩) (by assumption) ?rest40
          case hy40 =>
            intro w' hS
            go_simp
            try with_reducible rfl
          try simp only [Act.put, List.setIfInBounds_toArray, List.set_cons_zero, List.set_cons_succ]
          refine' wpAnyH_take (i := 6) (v := _) (op_at rfl) (by kernel_rfl) (by kernel_rfl) (by kernel_rfl) (fun _ _ _ h => h) (Or.inl ⟨by rfl, ?hy41⟩) (by assumption) ?rest41
          case hy41 =>
            intro w' hS
            go_simp
            try with_reducible rfl
          try simp only [Act.put, List.setIfInBounds_toArray, List.set_cons_zero, List.set_cons_succ]
          refine' wpAnyH_take (i := 7) (v := _) (op_at rfl) (by kernel_rfl) (by kernel_rfl) (by kernel_rfl) (fun _ _ _ h => h) (Or.inl ⟨by rfl, ?hy42⟩) (by assumption) ?rest42
          case hy42 =>
            intro w' hS
            go_simp
            try with_reducible rfl
          try simp only [Act.put, List.setIfInBounds_toArray, List.set_cons_zero, List.set_cons_succ]
          refine' wpAnyH_take (i := 8) (v := _) (op_at rfl) (by kernel_rfl) (by kernel_rfl) (by kernel_rfl) (fun _ _ _ h => h) (Or.inl ⟨by rfl, ?hy43⟩) (by assumption) ?rest43
          case hy43 =>
            intro w' hS
            go_simp
            try with_reducible rfl
          try simp only [Act.put, List.setIfInBounds_toArray, List.set_cons_zero, List.set_cons_succ]
          refine' wpAnyH_take (i := 9) (v := _) (op_at rfl) (by kernel_rfl) (by kernel_rfl) (by kernel_rfl) (fun _ _ _ h => h) (Or.inl ⟨by rfl, ?hy44⟩) (by assumption) ?rest44
          case hy44 =>
            intro w' hS
            obtain ⟨e0, e1, e2, e4, e5, e6⟩ := HC.out w' (oJ.trans hS)
            go_simp
            try with_reducible rfl
          try simp only [Act.put, List.setIfInBounds_toArray, List.set_cons_zero, List.set_cons_succ]
          refine' wpAnyH_take (i := 10) (v := .bool (decide (M[j].u = L[k].u ∧ M[j].d = L[k].d))) (op_at rfl) (by kernel_rfl) (by kernel_rfl) (by kernel_rfl) (fun _ _ _ h => h) (Or.inl ⟨by rfl, ?hyE34⟩) (by assumption) ?restE34
          case hyE34 =>
            intro w' hS
            go_simp
            exact two_eq2 M[j].u M[j].d L[k].u L[k].d w'
          try simp only [Act.put, List.setIfInBounds_toArray, List.set_cons_zero, List.set_cons_succ]
          refine wpAnyH_done (by kernel_rfl) ?_ _
          by_cases hm : M[j].u = L[k].u ∧ M[j].d = L[k].d
          · have hsame := HV.out.same hkL hjM hm
            have hxM : Hid (M[j].i % 3 = L[k].x) := show M[j].i % 3 = L[k].x from (congrArg EnK.x hsame).symm
            have hstE : L[k].st = M[j].st := congrArg EnK.st hsame
            have hkM2 : kKey L[k].t = kKey M[j].t := congrArg EnK.k hsame
            have hnM : M[j].n = L[k].n := (congrArg EnK.n hsame).symm
            have hix := (HV.out.lx _ (List.getElem_mem hjM)).1
            have htb := (HV.out.rx _ (List.getElem_mem hkL)).2
            have hmb := (HV.out.lx _ (List.getElem_mem hjM)).2
            have hsm := rsame_any L[k].t M[j].t htb hmb
            rw [decide_eq_true hkM2] at hsm
            have dm : decide (M[j].u = L[k].u ∧ M[j].d = L[k].d) = true := by simpa using hm
            have he : hitB M L[k].u L[k].d (j + 1) = true := by rw [Hst.out, dm, Bool.or_true]
            rw [dm]
            have HNN := Lib.hid hnM
            clear dm hm Hst hsame hkM2 hnM htb hmb
            cases hst : L[k].st with
            | true =>
              have hstM : Hid (M[j].st = true) := show _ = _ from hstE.symm.trans hst
              have hSt := Lib.hid hst
              clear hstE hst
              have oJ2 := oJ.trans (Only.drew wr.drew [])
              go_upto_region 14 with fail
              refine wp_region_held_drew (S := fun w' => Only wr.drew.drew w' []) (by kernel_rfl) (Only.refl _ _) (fun hHeld => ?_)
              refine' wpAnyH_take (i := 0) (v := _) (op_at rfl) (by kernel_rfl) (by kernel_rfl) (by kernel_rfl) (fun _ _ _ h => h) (Or.inl ⟨by rfl, ?hy46⟩) (by assumption) ?rest46
              case hy46 =>
                intro w' hS
                go_simp
                try with_reducible rfl
              try simp only [Act.put, List.setIfInBounds_toArray, List.set_cons_zero, List.set_cons_succ]
              refine' wpAnyH_take (i := 1) (v := _) (op_at rfl) (by kernel_rfl) (by kernel_rfl) (by kernel_rfl) (fun _ _ _ h => h) (Or.inl ⟨by rfl, ?hy47⟩) (by assumption) ?rest47
              case hy47 =>
                intro w' hS
                go_simp
                try with_reducible rfl
              try simp only [Act.put, List.setIfInBounds_toArray, List.set_cons_zero, List.set_cons_succ]
              refine' wpAnyH_take (i := 2) (v := _) (op_at rfl) (by kernel_rfl) (by kernel_rfl) (by kernel_rfl) (fun _ _ _ h => h) (Or.inl ⟨by rfl, ?hy48⟩) (by assumption) ?rest48
              case hy48 =>
                intro w' hS
                go_simp
                try with_reducible rfl
              try simp only [Act.put, List.setIfInBounds_toArray, List.set_cons_zero, List.set_cons_succ]
              refine' wpAnyH_take (i := 3) (v := _) (op_at rfl) (by kernel_rfl) (by kernel_rfl) (by kernel_rfl) (fun _ _ _ h => h) (Or.inl ⟨by rfl, ?hy49⟩) (by assumption) ?rest49
              case hy49 =>
                intro w' hS
                go_simp
                try with_reducible rfl
              try simp only [Act.put, List.setIfInBounds_toArray, List.set_cons_zero, List.set_cons_succ]
              refine' wpAnyH_take (i := 4) (v := _) (op_at rfl) (by kernel_rfl) (by kernel_rfl) (by kernel_rfl) (fun _ _ _ h => h) (Or.inl ⟨by rfl, ?hy50⟩) (by assumption) ?rest50
              case hy50 =>
                intro w' hS
                go_simp
                try with_reducible rfl
              try simp only [Act.put, List.setIfInBounds_toArray, List.set_cons_zero, List.set_cons_succ]
              refine' wpAnyH_take (i := 5) (v := _) (op_at rfl) (by kernel_rfl) (by kernel_rfl) (by kernel_rfl) (fun _ _ _ h => h) (Or.inl ⟨by rfl, ?hy51⟩) (by assumption) ?rest51
              case hy51 =>
                intro w' hS
                obtain ⟨e0, e1, e2, e4, e5, e6⟩ := HC.out w' (oJ2.trans hS)
                go_simp
                try with_reducible rfl
              try simp only [Act.put, List.setIfInBounds_toArray, List.set_cons_zero, List.set_cons_succ]
              refine' wpAnyH_take (i := 6) (v := _) (op_at rfl) (by kernel_rfl) (by kernel_rfl) (by kernel_rfl) (fun _ _ _ h => h) (Or.inl ⟨by rfl, ?hy52⟩) (by assumption) ?rest52
              case hy52 =>
                intro w' hS
                have hs_ := run_str (P := Try.prog) (S := 28) (T := 9) Try.underlying28 Try.underlying5 Try.underlying9 (HSRC.out w' (o1.trans (oJ2.trans hS)) k hkL) rfl
                go_simp
                try with_reducible rfl
              try simp only [Act.put, List.setIfInBounds_toArray, List.set_cons_zero, List.set_cons_succ]
              refine' wpAnyH_take (i := 7) (v := _) (op_at rfl) (by kernel_rfl) (by kernel_rfl) (by kernel_rfl) (fun _ _ _ h => h) (Or.inl ⟨by rfl, ?hy53⟩) (by assumption) ?rest53
              case hy53 =>
                intro w' hS
                go_simp
                try with_reducible rfl
              try simp only [Act.put, List.setIfInBounds_toArray, List.set_cons_zero, List.set_cons_succ]
              refine' wpAnyH_take (i := 8) (v := _) (op_at rfl) (by kernel_rfl) (by kernel_rfl) (by kernel_rfl) (fun _ _ _ h => h) (Or.inl ⟨by rfl, ?hy54⟩) (by assumption) ?rest54
              case hy54 =>
                intro w' hS
                go_simp
                try with_reducible rfl
              try simp only [Act.put, List.setIfInBounds_toArray, List.set_cons_zero, List.set_cons_succ]
              refine' wpAnyH_take (i := 9) (v := _) (op_at rfl) (by kernel_rfl) (by kernel_rfl) (by kernel_rfl) (fun _ _ _ h => h) (Or.inl ⟨by rfl, ?hy55⟩) (by assumption) ?rest55
              case hy55 =>
                intro w' hS
                go_simp
                try with_reducible rfl
              try simp only [Act.put, List.setIfInBounds_toArray, List.set_cons_zero, List.set_cons_succ]
              refine' wpAnyH_take (i := 10) (v := _) (op_at rfl) (by kernel_rfl) (by kernel_rfl) (by kernel_rfl) (fun _ _ _ h => h) (Or.inl ⟨by rfl, ?hy56⟩) (by assumption) ?rest56
              case hy56 =>
                intro w' hS
                go_simp
                try with_reducible rfl
              try simp only [Act.put, List.setIfInBounds_toArray, List.set_cons_zero, List.set_cons_succ]
              refine' wpAnyH_take (i := 11) (v := _) (op_at rfl) (by kernel_rfl) (by kernel_rfl) (by kernel_rfl) (fun _ _ _ h => h) (Or.inl ⟨by rfl, ?hy57⟩) (by assumption) ?rest57
              case hy57 =>
                intro w' hS
                obtain ⟨m0, m1, m2, m3, m4, m5⟩ := HM.out w' (o1.trans (oJ2.trans hS))
                go_simp
                try with_reducible rfl
              try simp only [Act.put, List.setIfInBounds_toArray, List.set_cons_zero, List.set_cons_succ]
              refine wpAnyH_ready (rs := [12]) (by kernel_rfl) (by simp) (AllReadyH.cons (op_at rfl) (fun K hK => ?_) AllReadyH.nil)
              go_simp
              refine (ident_any M[j].i hix.1 hix.2 _).mono fun e w12 hq => ?_
              obtain ⟨C1, C2, rfl, o12, l1, l2, hne, b1, b2⟩ := hq
              rw [hxM.out] at b1
              go_wp2_with fail
              refine hK.out _ _ o12 (fun hHeld => ?_)
              clear hK K
              try simp only [Act.put, List.setIfInBounds_toArray, List.set_cons_zero, List.set_cons_succ]
              refine wpAnyH_more (S' := fun w' => Only w12 w' []) (fun w' h => Only.trans o12 h) _ _ _ _ ?_
              clear hHeld
              have hHeld : Only w12 w12 [] := Only.refl _ _
              have oK := oJ2.trans o12
              refine' wpAnyH_take (i := 13) (v := _) (op_at rfl) (by kernel_rfl) (by kernel_rfl) (by kernel_rfl) (fun _ _ _ h => h) (Or.inl ⟨by rfl, ?hy58⟩) (by assumption) ?rest58
              case hy58 =>
                intro w' hS
                have hfd : (Instr.field 30 (.agg #[.slice (some ⟨C1, 0, none⟩) 1 1, .slice (some ⟨C2, 0, none⟩) 1 1]) 0).run Try.prog w' = .ok (.slice (some ⟨C1, 0, none⟩) 1 1) w' := by kernel_rfl
                go_simp
                try with_reducible rfl
              try simp only [Act.put, List.setIfInBounds_toArray, List.set_cons_zero, List.set_cons_succ]
              refine' wpAnyH_take (i := 14) (v := _) (op_at rfl) (by kernel_rfl) (by kernel_rfl) (by kernel_rfl) (fun _ _ _ h => h) (Or.inl ⟨by rfl, ?hy59⟩) (by assumption) ?rest59
              case hy59 =>
                intro w' hS
                have hs_ := run_str (P := Try.prog) (S := 28) (T := 9) Try.underlying28 Try.underlying5 Try.underlying9 (cst_src (show (cst C1 5 (0, 0) [.int .u8 L[k].x]).ok w' from hS.at b1 (by simp))) rfl
                go_simp
                try with_reducible rfl
              try simp only [Act.put, List.setIfInBounds_toArray, List.set_cons_zero, List.set_cons_succ]
              refine' wpAnyH_take (i := 15) (v := _) (op_at rfl) (by kernel_rfl) (by kernel_rfl) (by kernel_rfl) (fun _ _ _ h => h) (Or.inl ⟨by rfl, ?hy60⟩) (by assumption) ?rest60
              case hy60 =>
                intro w' hS
                go_simp
                try with_reducible rfl
              try simp only [Act.put, List.setIfInBounds_toArray, List.set_cons_zero, List.set_cons_succ]
              refine' wpAnyH_take (i := 16) (v := _) (op_at rfl) (by kernel_rfl) (by kernel_rfl) (by kernel_rfl) (fun _ _ _ h => h) (Or.inl ⟨by rfl, ?hy61⟩) (by assumption) ?rest61
              case hy61 =>
                intro w' hS
                go_simp
                try with_reducible rfl
              try simp only [Act.put, List.setIfInBounds_toArray, List.set_cons_zero, List.set_cons_succ]
              refine' wpAnyH_take (i := 17) (v := _) (op_at rfl) (by kernel_rfl) (by kernel_rfl) (by kernel_rfl) (fun _ _ _ h => h) (Or.inl ⟨by rfl, ?hy62⟩) (by assumption) ?rest62
              case hy62 =>
                intro w' hS
                go_simp
                try with_reducible rfl
              try simp only [Act.put, List.setIfInBounds_toArray, List.set_cons_zero, List.set_cons_succ]
              refine' wpAnyH_take (i := 18) (v := _) (op_at rfl) (by kernel_rfl) (by kernel_rfl) (by kernel_rfl) (fun _ _ _ h => h) (Or.inl ⟨by rfl, ?hy63⟩) (by assumption) ?rest63
              case hy63 =>
                intro w' hS
                go_simp
                try with_reducible rfl
              try simp only [Act.put, List.setIfInBounds_toArray, List.set_cons_zero, List.set_cons_succ]
              refine' wpAnyH_take (i := 19) (v := _) (op_at rfl) (by kernel_rfl) (by kernel_rfl) (by kernel_rfl) (fun _ _ _ h => h) (Or.inl ⟨by rfl, ?hy64⟩) (by assumption) ?rest64
              case hy64 =>
                intro w' hS
                go_simp
                try with_reducible rfl
              try simp only [Act.put, List.setIfInBounds_toArray, List.set_cons_zero, List.set_cons_succ]
              refine' wpAnyH_take (i := 20) (v := _) (op_at rfl) (by kernel_rfl) (by kernel_rfl) (by kernel_rfl) (fun _ _ _ h => h) (Or.inl ⟨by rfl, ?hy65⟩) (by assumption) ?rest65
              case hy65 =>
                intro w' hS
                go_simp
                try with_reducible rfl
              try simp only [Act.put, List.setIfInBounds_toArray, List.set_cons_zero, List.set_cons_succ]
              refine' wpAnyH_take (i := 21) (v := _) (op_at rfl) (by kernel_rfl) (by kernel_rfl) (by kernel_rfl) (fun _ _ _ h => h) (Or.inl ⟨by rfl, ?hy66⟩) (by assumption) ?rest66
              case hy66 =>
                intro w' hS
                obtain ⟨e0, e1, e2, e4, e5, e6⟩ := HC.out w' (oK.trans hS)
                rw [hSt.out] at e5
                go_simp
                try with_reducible rfl
              try simp only [Act.put, List.setIfInBounds_toArray, List.set_cons_zero, List.set_cons_succ]
              refine' wpAnyH_take (i := 22) (v := _) (op_at rfl) (by kernel_rfl) (by kernel_rfl) (by kernel_rfl) (fun _ _ _ h => h) (Or.inl ⟨by rfl, ?hy67⟩) (by assumption) ?rest67
              case hy67 =>
                intro w' hS
                go_simp
                try with_reducible rfl
              try simp only [Act.put, List.setIfInBounds_toArray, List.set_cons_zero, List.set_cons_succ]
              refine' wpAnyH_take (i := 23) (v := _) (op_at rfl) (by kernel_rfl) (by kernel_rfl) (by kernel_rfl) (fun _ _ _ h => h) (Or.inl ⟨by rfl, ?hy68⟩) (by assumption) ?rest68
              case hy68 =>
                intro w' hS
                go_simp
                try with_reducible rfl
              try simp only [Act.put, List.setIfInBounds_toArray, List.set_cons_zero, List.set_cons_succ]
              refine' wpAnyH_take (i := 24) (v := _) (op_at rfl) (by kernel_rfl) (by kernel_rfl) (by kernel_rfl) (fun _ _ _ h => h) (Or.inl ⟨by rfl, ?hy69⟩) (by assumption) ?rest69
              case hy69 =>
                intro w' hS
                go_simp
                try with_reducible rfl
              try simp only [Act.put, List.setIfInBounds_toArray, List.set_cons_zero, List.set_cons_succ]
              refine' wpAnyH_take (i := 25) (v := _) (op_at rfl) (by kernel_rfl) (by kernel_rfl) (by kernel_rfl) (fun _ _ _ h => h) (Or.inl ⟨by rfl, ?hy70⟩) (by assumption) ?rest70
              case hy70 =>
                intro w' hS
                go_simp
                try with_reducible rfl
              try simp only [Act.put, List.setIfInBounds_toArray, List.set_cons_zero, List.set_cons_succ]
              refine' wpAnyH_take (i := 26) (v := _) (op_at rfl) (by kernel_rfl) (by kernel_rfl) (by kernel_rfl) (fun _ _ _ h => h) (Or.inl ⟨by rfl, ?hy71⟩) (by assumption) ?rest71
              case hy71 =>
                intro w' hS
                obtain ⟨m0, m1, m2, m3, m4, m5⟩ := HM.out w' (o1.trans (oK.trans hS))
                rw [hstM.out] at m3
                go_simp
                try with_reducible rfl
              try simp only [Act.put, List.setIfInBounds_toArray, List.set_cons_zero, List.set_cons_succ]
              refine' wpAnyH_take (i := 27) (v := _) (op_at rfl) (by kernel_rfl) (by kernel_rfl) (by kernel_rfl) (fun _ _ _ h => h) (Or.inl ⟨by rfl, ?hy72⟩) (by assumption) ?rest72
              case hy72 =>
                intro w' hS
                go_simp
                try with_reducible rfl
              try simp only [Act.put, List.setIfInBounds_toArray, List.set_cons_zero, List.set_cons_succ]
              refine' wpAnyH_take (i := 28) (v := _) (op_at rfl) (by kernel_rfl) (by kernel_rfl) (by kernel_rfl) (fun _ _ _ h => h) (Or.inl ⟨by rfl, ?hy73⟩) (by assumption) ?rest73
              case hy73 =>
                intro w' hS
                go_simp
                try with_reducible rfl
              try simp only [Act.put, List.setIfInBounds_toArray, List.set_cons_zero, List.set_cons_succ]
              refine' wpAnyH_take (i := 29) (v := _) (op_at rfl) (by kernel_rfl) (by kernel_rfl) (by kernel_rfl) (fun _ _ _ h => h) (Or.inl ⟨by rfl, ?hy74⟩) (by assumption) ?rest74
              case hy74 =>
                intro w' hS
                go_simp
                try with_reducible rfl
              try simp only [Act.put, List.setIfInBounds_toArray, List.set_cons_zero, List.set_cons_succ]
              refine' wpAnyH_take (i := 30) (v := _) (op_at rfl) (by kernel_rfl) (by kernel_rfl) (by kernel_rfl) (fun _ _ _ h => h) (Or.inl ⟨by rfl, ?hy75⟩) (by assumption) ?rest75
              case hy75 =>
                intro w' hS
                go_simp
                try with_reducible rfl
              try simp only [Act.put, List.setIfInBounds_toArray, List.set_cons_zero, List.set_cons_succ]
              refine' wpAnyH_take (i := 31) (v := _) (op_at rfl) (by kernel_rfl) (by kernel_rfl) (by kernel_rfl) (fun _ _ _ h => h) (Or.inl ⟨by rfl, ?hy76⟩) (by assumption) ?rest76
              case hy76 =>
                intro w' hS
                go_simp
                try with_reducible rfl
              try simp only [Act.put, List.setIfInBounds_toArray, List.set_cons_zero, List.set_cons_succ]
              refine' wpAnyH_take (i := 32) (v := _) (op_at rfl) (by kernel_rfl) (by kernel_rfl) (by kernel_rfl) (fun _ _ _ h => h) (Or.inl ⟨by rfl, ?hy77⟩) (by assumption) ?rest77
              case hy77 =>
                intro w' hS
                go_simp
                try with_reducible rfl
              try simp only [Act.put, List.setIfInBounds_toArray, List.set_cons_zero, List.set_cons_succ]
              refine' wpAnyH_take (i := 33) (v := _) (op_at rfl) (by kernel_rfl) (by kernel_rfl) (by kernel_rfl) (fun _ _ _ h => h) (Or.inl ⟨by rfl, ?hy78⟩) (by assumption) ?rest78
              case hy78 =>
                intro w' hS
                go_simp
                try with_reducible rfl
              try simp only [Act.put, List.setIfInBounds_toArray, List.set_cons_zero, List.set_cons_succ]
              refine' wpAnyH_take (i := 34) (v := _) (op_at rfl) (by kernel_rfl) (by kernel_rfl) (by kernel_rfl) (fun _ _ _ h => h) (Or.inl ⟨by rfl, ?hy79⟩) (by assumption) ?rest79
              case hy79 =>
                intro w' hS
                obtain ⟨m0, m1, m2, m3, m4, m5⟩ := HM.out w' (o1.trans (oK.trans hS))
                rw [hstM.out] at m3
                go_simp
                try with_reducible rfl
              try simp only [Act.put, List.setIfInBounds_toArray, List.set_cons_zero, List.set_cons_succ]
              refine' wpAnyH_take (i := 35) (v := _) (op_at rfl) (by kernel_rfl) (by kernel_rfl) (by kernel_rfl) (fun _ _ _ h => h) (Or.inl ⟨by rfl, ?hy80⟩) (by assumption) ?rest80
              case hy80 =>
                intro w' hS
                go_simp
                try with_reducible rfl
              try simp only [Act.put, List.setIfInBounds_toArray, List.set_cons_zero, List.set_cons_succ]
              refine' wpAnyH_take (i := 36) (v := _) (op_at rfl) (by kernel_rfl) (by kernel_rfl) (by kernel_rfl) (fun _ _ _ h => h) (Or.inl ⟨by rfl, ?hy81⟩) (by assumption) ?rest81
              case hy81 =>
                intro w' hS
                go_simp
                try with_reducible rfl
              try simp only [Act.put, List.setIfInBounds_toArray, List.set_cons_zero, List.set_cons_succ]
              refine' wpAnyH_take (i := 37) (v := _) (op_at rfl) (by kernel_rfl) (by kernel_rfl) (by kernel_rfl) (fun _ _ _ h => h) (Or.inl ⟨by rfl, ?hy82⟩) (by assumption) ?rest82
              case hy82 =>
                intro w' hS
                go_simp
                try with_reducible rfl
              try simp only [Act.put, List.setIfInBounds_toArray, List.set_cons_zero, List.set_cons_succ]
              refine' wpAnyH_take (i := 38) (v := _) (op_at rfl) (by kernel_rfl) (by kernel_rfl) (by kernel_rfl) (fun _ _ _ h => h) (Or.inl ⟨by rfl, ?hy83⟩) (by assumption) ?rest83
              case hy83 =>
                intro w' hS
                go_simp
                try with_reducible rfl
              try simp only [Act.put, List.setIfInBounds_toArray, List.set_cons_zero, List.set_cons_succ]
              refine' wpAnyH_take (i := 39) (v := _) (op_at rfl) (by kernel_rfl) (by kernel_rfl) (by kernel_rfl) (fun _ _ _ h => h) (Or.inl ⟨by rfl, ?hy84⟩) (by assumption) ?rest84
              case hy84 =>
                intro w' hS
                go_simp
                try with_reducible rfl
              try simp only [Act.put, List.setIfInBounds_toArray, List.set_cons_zero, List.set_cons_succ]
              refine' wpAnyH_take (i := 40) (v := _) (op_at rfl) (by kernel_rfl) (by kernel_rfl) (by kernel_rfl) (fun _ _ _ h => h) (Or.inl ⟨by rfl, ?hy85⟩) (by assumption) ?rest85
              case hy85 =>
                intro w' hS
                go_simp
                try with_reducible rfl
              try simp only [Act.put, List.setIfInBounds_toArray, List.set_cons_zero, List.set_cons_succ]
              refine' wpAnyH_take (i := 41) (v := _) (op_at rfl) (by kernel_rfl) (by kernel_rfl) (by kernel_rfl) (fun _ _ _ h => h) (Or.inl ⟨by rfl, ?hy86⟩) (by assumption) ?rest86
              case hy86 =>
                intro w' hS
                obtain ⟨e0, e1, e2, e4, e5, e6⟩ := HC.out w' (oK.trans hS)
                go_simp
                try with_reducible rfl
              try simp only [Act.put, List.setIfInBounds_toArray, List.set_cons_zero, List.set_cons_succ]
              refine' wpAnyH_take (i := 42) (v := _) (op_at rfl) (by kernel_rfl) (by kernel_rfl) (by kernel_rfl) (fun _ _ _ h => h) (Or.inl ⟨by rfl, ?hy87⟩) (by assumption) ?rest87
              case hy87 =>
                intro w' hS
                go_simp
                try with_reducible rfl
              try simp only [Act.put, List.setIfInBounds_toArray, List.set_cons_zero, List.set_cons_succ]
              refine' wpAnyH_take (i := 43) (v := _) (op_at rfl) (by kernel_rfl) (by kernel_rfl) (by kernel_rfl) (fun _ _ _ h => h) (Or.inl ⟨by rfl, ?hy88⟩) (by assumption) ?rest88
              case hy88 =>
                intro w' hS
                go_simp
                try with_reducible rfl
              try simp only [Act.put, List.setIfInBounds_toArray, List.set_cons_zero, List.set_cons_succ]
              refine' wpAnyH_take (i := 44) (v := _) (op_at rfl) (by kernel_rfl) (by kernel_rfl) (by kernel_rfl) (fun _ _ _ h => h) (Or.inl ⟨by rfl, ?hy89⟩) (by assumption) ?rest89
              case hy89 =>
                intro w' hS
                go_simp
                try with_reducible rfl
              try simp only [Act.put, List.setIfInBounds_toArray, List.set_cons_zero, List.set_cons_succ]
              refine' wpAnyH_take (i := 45) (v := _) (op_at rfl) (by kernel_rfl) (by kernel_rfl) (by kernel_rfl) (fun _ _ _ h => h) (Or.inl ⟨by rfl, ?hy90⟩) (by assumption) ?rest90
              case hy90 =>
                intro w' hS
                go_simp
                try with_reducible rfl
              try simp only [Act.put, List.setIfInBounds_toArray, List.set_cons_zero, List.set_cons_succ]
              refine' wpAnyH_take (i := 46) (v := _) (op_at rfl) (by kernel_rfl) (by kernel_rfl) (by kernel_rfl) (fun _ _ _ h => h) (Or.inl ⟨by rfl, ?hy91⟩) (by assumption) ?rest91
              case hy91 =>
                intro w' hS
                obtain ⟨m0, m1, m2, m3, m4, m5⟩ := HM.out w' (o1.trans (oK.trans hS))
                go_simp
                try with_reducible rfl
              try simp only [Act.put, List.setIfInBounds_toArray, List.set_cons_zero, List.set_cons_succ]
              refine wpAnyH_ready (rs := [47]) (by kernel_rfl) (by simp) (AllReadyH.cons (op_at rfl) (fun K hK => ?_) AllReadyH.nil)
              go_simp
              refine (hsm _).mono fun e w47 hq => ?_
              obtain ⟨rfl, hw_⟩ := hq
              subst w47
              go_wp2_with fail
              refine hK.out _ _ (Only.refl _ _) (fun hHeld => ?_)
              clear hK K
              try simp only [Act.put, List.setIfInBounds_toArray, List.set_cons_zero, List.set_cons_succ]
              refine' wpAnyH_take (i := 48) (v := _) (op_at rfl) (by kernel_rfl) (by kernel_rfl) (by kernel_rfl) (fun _ _ _ h => h) (Or.inl ⟨by rfl, ?hy92⟩) (by assumption) ?rest92
              case hy92 =>
                intro w' hS
                go_simp
                try with_reducible rfl
              try simp only [Act.put, List.setIfInBounds_toArray, List.set_cons_zero, List.set_cons_succ]
              refine' wpAnyH_take (i := 49) (v := _) (op_at rfl) (by kernel_rfl) (by kernel_rfl) (by kernel_rfl) (fun _ _ _ h => h) (Or.inl ⟨by rfl, ?hy93⟩) (by assumption) ?rest93
              case hy93 =>
                intro w' hS
                go_simp
                try with_reducible rfl
              try simp only [Act.put, List.setIfInBounds_toArray, List.set_cons_zero, List.set_cons_succ]
              refine' wpAnyH_take (i := 50) (v := _) (op_at rfl) (by kernel_rfl) (by kernel_rfl) (by kernel_rfl) (fun _ _ _ h => h) (Or.inl ⟨by rfl, ?hy94⟩) (by assumption) ?rest94
              case hy94 =>
                intro w' hS
                go_simp
                try with_reducible rfl
              try simp only [Act.put, List.setIfInBounds_toArray, List.set_cons_zero, List.set_cons_succ]
              refine' wpAnyH_take (i := 51) (v := _) (op_at rfl) (by kernel_rfl) (by kernel_rfl) (by kernel_rfl) (fun _ _ _ h => h) (Or.inl ⟨by rfl, ?hy95⟩) (by assumption) ?rest95
              case hy95 =>
                intro w' hS
                go_simp
                try with_reducible rfl
              try simp only [Act.put, List.setIfInBounds_toArray, List.set_cons_zero, List.set_cons_succ]
              refine' wpAnyH_take (i := 52) (v := _) (op_at rfl) (by kernel_rfl) (by kernel_rfl) (by kernel_rfl) (fun _ _ _ h => h) (Or.inl ⟨by rfl, ?hy96⟩) (by assumption) ?rest96
              case hy96 =>
                intro w' hS
                go_simp
                try with_reducible rfl
              try simp only [Act.put, List.setIfInBounds_toArray, List.set_cons_zero, List.set_cons_succ]
              refine' wpAnyH_take (i := 53) (v := _) (op_at rfl) (by kernel_rfl) (by kernel_rfl) (by kernel_rfl) (fun _ _ _ h => h) (Or.inl ⟨by rfl, ?hy97⟩) (by assumption) ?rest97
              case hy97 =>
                intro w' hS
                go_simp
                try with_reducible rfl
              try simp only [Act.put, List.setIfInBounds_toArray, List.set_cons_zero, List.set_cons_succ]
              refine' wpAnyH_take (i := 54) (v := _) (op_at rfl) (by kernel_rfl) (by kernel_rfl) (by kernel_rfl) (fun _ _ _ h => h) (Or.inl ⟨by rfl, ?hy98⟩) (by assumption) ?rest98
              case hy98 =>
                intro w' hS
                go_simp
                try with_reducible rfl
              try simp only [Act.put, List.setIfInBounds_toArray, List.set_cons_zero, List.set_cons_succ]
              refine' wpAnyH_take (i := 55) (v := _) (op_at rfl) (by kernel_rfl) (by kernel_rfl) (by kernel_rfl) (fun _ _ _ h => h) (Or.inl ⟨by rfl, ?hy99⟩) (by assumption) ?rest99
              case hy99 =>
                intro w' hS
                obtain ⟨e0, e1, e2, e4, e5, e6⟩ := HC.out w' (oK.trans hS)
                go_simp
                try with_reducible rfl
              try simp only [Act.put, List.setIfInBounds_toArray, List.set_cons_zero, List.set_cons_succ]
              refine' wpAnyH_take (i := 57) (v := _) (op_at rfl) (by kernel_rfl) (by kernel_rfl) (by kernel_rfl) (fun _ _ _ h => h) (Or.inl ⟨by rfl, ?hy100⟩) (by assumption) ?rest100
              case hy100 =>
                intro w' hS
                go_simp
                try with_reducible rfl
              try simp only [Act.put, List.setIfInBounds_toArray, List.set_cons_zero, List.set_cons_succ]
              refine' wpAnyH_take (i := 58) (v := _) (op_at rfl) (by kernel_rfl) (by kernel_rfl) (by kernel_rfl) (fun _ _ _ h => h) (Or.inl ⟨by rfl, ?hy101⟩) (by assumption) ?rest101
              case hy101 =>
                intro w' hS
                go_simp
                try with_reducible rfl
              try simp only [Act.put, List.setIfInBounds_toArray, List.set_cons_zero, List.set_cons_succ]
              refine' wpAnyH_take (i := 59) (v := _) (op_at rfl) (by kernel_rfl) (by kernel_rfl) (by kernel_rfl) (fun _ _ _ h => h) (Or.inl ⟨by rfl, ?hy102⟩) (by assumption) ?rest102
              case hy102 =>
                intro w' hS
                go_simp
                try with_reducible rfl
              try simp only [Act.put, List.setIfInBounds_toArray, List.set_cons_zero, List.set_cons_succ]
              refine' wpAnyH_take (i := 60) (v := _) (op_at rfl) (by kernel_rfl) (by kernel_rfl) (by kernel_rfl) (fun _ _ _ h => h) (Or.inl ⟨by rfl, ?hy103⟩) (by assumption) ?rest103
              case hy103 =>
                intro w' hS
                go_simp
                try with_reducible rfl
              try simp only [Act.put, List.setIfInBounds_toArray, List.set_cons_zero, List.set_cons_succ]
              refine' wpAnyH_take (i := 61) (v := _) (op_at rfl) (by kernel_rfl) (by kernel_rfl) (by kernel_rfl) (fun _ _ _ h => h) (Or.inl ⟨by rfl, ?hy104⟩) (by assumption) ?rest104
              case hy104 =>
                intro w' hS
                obtain ⟨m0, m1, m2, m3, m4, m5⟩ := HM.out w' (o1.trans (oK.trans hS))
                rw [HNN.out] at m5
                go_simp
                try with_reducible rfl
              try simp only [Act.put, List.setIfInBounds_toArray, List.set_cons_zero, List.set_cons_succ]
              refine wpAnyH_ready (rs := [56]) (by kernel_rfl) (by simp) (AllReadyH.cons (op_at rfl) (fun K hK => ?_) AllReadyH.nil)
              go_simp
              refine (HQ.out _ (o1.trans oK) k hkL).mono fun e w56 hq => ?_
              obtain ⟨rfl, hw_⟩ := hq
              subst w56
              go_wp2_with fail
              refine hK.out _ _ (Only.refl _ _) (fun hHeld => ?_)
              clear hK K
              try simp only [Act.put, List.setIfInBounds_toArray, List.set_cons_zero, List.set_cons_succ]
              refine' wpAnyH_take (i := 62) (v := _) (op_at rfl) (by kernel_rfl) (by kernel_rfl) (by kernel_rfl) (fun _ _ _ h => h) (Or.inl ⟨by rfl, ?hy105⟩) (by assumption) ?rest105
              case hy105 =>
                intro w' hS
                go_simp
                try with_reducible rfl
              try simp only [Act.put, List.setIfInBounds_toArray, List.set_cons_zero, List.set_cons_succ]
              refine' wpAnyH_take (i := 63) (v := _) (op_at rfl) (by kernel_rfl) (by kernel_rfl) (by kernel_rfl) (fun _ _ _ h => h) (Or.inl ⟨by rfl, ?hy106⟩) (by assumption) ?rest106
              case hy106 =>
                intro w' hS
                go_simp
                try with_reducible rfl
              try simp only [Act.put, List.setIfInBounds_toArray, List.set_cons_zero, List.set_cons_succ]
              refine' wpAnyH_take (i := 64) (v := _) (op_at rfl) (by kernel_rfl) (by kernel_rfl) (by kernel_rfl) (fun _ _ _ h => h) (Or.inl ⟨by rfl, ?hy107⟩) (by assumption) ?rest107
              case hy107 =>
                intro w' hS
                go_simp
                try with_reducible rfl
              try simp only [Act.put, List.setIfInBounds_toArray, List.set_cons_zero, List.set_cons_succ]
              refine wpAnyH_done (by kernel_rfl) ?_ _
              go_wp2_with fail
              exact ⟨⟨j + 1, by rw [he], by simp, by omega, oK⟩, by simp [intOf]; omega⟩
            | false =>
              have hstM : Hid (M[j].st = false) := show _ = _ from hstE.symm.trans hst
              have hSt := Lib.hid hst
              clear hstE hst
              have oJ2 := oJ.trans (Only.drew wr.drew [])
              go_upto_region 14 with fail
              refine wp_region_held_drew (S := fun w' => Only wr.drew.drew w' []) (by kernel_rfl) (Only.refl _ _) (fun hHeld => ?_)
              refine' wpAnyH_take (i := 0) (v := _) (op_at rfl) (by kernel_rfl) (by kernel_rfl) (by kernel_rfl) (fun _ _ _ h => h) (Or.inl ⟨by rfl, ?hy108⟩) (by assumption) ?rest108
              case hy108 =>
                intro w' hS
                go_simp
                try with_reducible rfl
              try simp only [Act.put, List.setIfInBounds_toArray, List.set_cons_zero, List.set_cons_succ]
              refine' wpAnyH_take (i := 1) (v := _) (op_at rfl) (by kernel_rfl) (by kernel_rfl) (by kernel_rfl) (fun _ _ _ h => h) (Or.inl ⟨by rfl, ?hy109⟩) (by assumption) ?rest109
              case hy109 =>
                intro w' hS
                go_simp
                try with_reducible rfl
              try simp only [Act.put, List.setIfInBounds_toArray, List.set_cons_zero, List.set_cons_succ]
              refine' wpAnyH_take (i := 2) (v := _) (op_at rfl) (by kernel_rfl) (by kernel_rfl) (by kernel_rfl) (fun _ _ _ h => h) (Or.inl ⟨by rfl, ?hy110⟩) (by assumption) ?rest110
              case hy110 =>
                intro w' hS
                go_simp
                try with_reducible rfl
              try simp only [Act.put, List.setIfInBounds_toArray, List.set_cons_zero, List.set_cons_succ]
              refine' wpAnyH_take (i := 3) (v := _) (op_at rfl) (by kernel_rfl) (by kernel_rfl) (by kernel_rfl) (fun _ _ _ h => h) (Or.inl ⟨by rfl, ?hy111⟩) (by assumption) ?rest111
              case hy111 =>
                intro w' hS
                go_simp
                try with_reducible rfl
              try simp only [Act.put, List.setIfInBounds_toArray, List.set_cons_zero, List.set_cons_succ]
              refine' wpAnyH_take (i := 4) (v := _) (op_at rfl) (by kernel_rfl) (by kernel_rfl) (by kernel_rfl) (fun _ _ _ h => h) (Or.inl ⟨by rfl, ?hy112⟩) (by assumption) ?rest112
              case hy112 =>
                intro w' hS
                go_simp
                try with_reducible rfl
              try simp only [Act.put, List.setIfInBounds_toArray, List.set_cons_zero, List.set_cons_succ]
              refine' wpAnyH_take (i := 5) (v := _) (op_at rfl) (by kernel_rfl) (by kernel_rfl) (by kernel_rfl) (fun _ _ _ h => h) (Or.inl ⟨by rfl, ?hy113⟩) (by assumption) ?rest113
              case hy113 =>
                intro w' hS
                obtain ⟨e0, e1, e2, e4, e5, e6⟩ := HC.out w' (oJ2.trans hS)
                go_simp
                try with_reducible rfl
              try simp only [Act.put, List.setIfInBounds_toArray, List.set_cons_zero, List.set_cons_succ]
              refine' wpAnyH_take (i := 6) (v := _) (op_at rfl) (by kernel_rfl) (by kernel_rfl) (by kernel_rfl) (fun _ _ _ h => h) (Or.inl ⟨by rfl, ?hy114⟩) (by assumption) ?rest114
              case hy114 =>
                intro w' hS
                have hs_ := run_str (P := Try.prog) (S := 28) (T := 9) Try.underlying28 Try.underlying5 Try.underlying9 (HSRC.out w' (o1.trans (oJ2.trans hS)) k hkL) rfl
                go_simp
                try with_reducible rfl
              try simp only [Act.put, List.setIfInBounds_toArray, List.set_cons_zero, List.set_cons_succ]
              refine' wpAnyH_take (i := 7) (v := _) (op_at rfl) (by kernel_rfl) (by kernel_rfl) (by kernel_rfl) (fun _ _ _ h => h) (Or.inl ⟨by rfl, ?hy115⟩) (by assumption) ?rest115
              case hy115 =>
                intro w' hS
                go_simp
                try with_reducible rfl
              try simp only [Act.put, List.setIfInBounds_toArray, List.set_cons_zero, List.set_cons_succ]
              refine' wpAnyH_take (i := 8) (v := _) (op_at rfl) (by kernel_rfl) (by kernel_rfl) (by kernel_rfl) (fun _ _ _ h => h) (Or.inl ⟨by rfl, ?hy116⟩) (by assumption) ?rest116
              case hy116 =>
                intro w' hS
                go_simp
                try with_reducible rfl
              try simp only [Act.put, List.setIfInBounds_toArray, List.set_cons_zero, List.set_cons_succ]
              refine' wpAnyH_take (i := 9) (v := _) (op_at rfl) (by kernel_rfl) (by kernel_rfl) (by kernel_rfl) (fun _ _ _ h => h) (Or.inl ⟨by rfl, ?hy117⟩) (by assumption) ?rest117
              case hy117 =>
                intro w' hS
                go_simp
                try with_reducible rfl
              try simp only [Act.put, List.setIfInBounds_toArray, List.set_cons_zero, List.set_cons_succ]
              refine' wpAnyH_take (i := 10) (v := _) (op_at rfl) (by kernel_rfl) (by kernel_rfl) (by kernel_rfl) (fun _ _ _ h => h) (Or.inl ⟨by rfl, ?hy118⟩) (by assumption) ?rest118
              case hy118 =>
                intro w' hS
                go_simp
                try with_reducible rfl
              try simp only [Act.put, List.setIfInBounds_toArray, List.set_cons_zero, List.set_cons_succ]
              refine' wpAnyH_take (i := 11) (v := _) (op_at rfl) (by kernel_rfl) (by kernel_rfl) (by kernel_rfl) (fun _ _ _ h => h) (Or.inl ⟨by rfl, ?hy119⟩) (by assumption) ?rest119
              case hy119 =>
                intro w' hS
                obtain ⟨m0, m1, m2, m3, m4, m5⟩ := HM.out w' (o1.trans (oJ2.trans hS))
                go_simp
                try with_reducible rfl
              try simp only [Act.put, List.setIfInBounds_toArray, List.set_cons_zero, List.set_cons_succ]
              refine wpAnyH_ready (rs := [12]) (by kernel_rfl) (by simp) (AllReadyH.cons (op_at rfl) (fun K hK => ?_) AllReadyH.nil)
              go_simp
              refine (ident_any M[j].i hix.1 hix.2 _).mono fun e w12 hq => ?_
              obtain ⟨C1, C2, rfl, o12, l1, l2, hne, b1, b2⟩ := hq
              rw [hxM.out] at b1
              go_wp2_with fail
              refine hK.out _ _ o12 (fun hHeld => ?_)
              clear hK K
              try simp only [Act.put, List.setIfInBounds_toArray, List.set_cons_zero, List.set_cons_succ]
              refine wpAnyH_more (S' := fun w' => Only w12 w' []) (fun w' h => Only.trans o12 h) _ _ _ _ ?_
              clear hHeld
              have hHeld : Only w12 w12 [] := Only.refl _ _
              have oK := oJ2.trans o12
              refine' wpAnyH_take (i := 13) (v := _) (op_at rfl) (by kernel_rfl) (by kernel_rfl) (by kernel_rfl) (fun _ _ _ h => h) (Or.inl ⟨by rfl, ?hy120⟩) (by assumption) ?rest120
              case hy120 =>
                intro w' hS
                have hfd : (Instr.field 30 (.agg #[.slice (some ⟨C1, 0, none⟩) 1 1, .slice (some ⟨C2, 0, none⟩) 1 1]) 0).run Try.prog w' = .ok (.slice (some ⟨C1, 0, none⟩) 1 1) w' := by kernel_rfl
                go_simp
                try with_reducible rfl
              try simp only [Act.put, List.setIfInBounds_toArray, List.set_cons_zero, List.set_cons_succ]
              refine' wpAnyH_take (i := 14) (v := _) (op_at rfl) (by kernel_rfl) (by kernel_rfl) (by kernel_rfl) (fun _ _ _ h => h) (Or.inl ⟨by rfl, ?hy121⟩) (by assumption) ?rest121
              case hy121 =>
                intro w' hS
                have hs_ := run_str (P := Try.prog) (S := 28) (T := 9) Try.underlying28 Try.underlying5 Try.underlying9 (cst_src (show (cst C1 5 (0, 0) [.int .u8 L[k].x]).ok w' from hS.at b1 (by simp))) rfl
                go_simp
                try with_reducible rfl
              try simp only [Act.put, List.setIfInBounds_toArray, List.set_cons_zero, List.set_cons_succ]
              refine' wpAnyH_take (i := 15) (v := _) (op_at rfl) (by kernel_rfl) (by kernel_rfl) (by kernel_rfl) (fun _ _ _ h => h) (Or.inl ⟨by rfl, ?hy122⟩) (by assumption) ?rest122
              case hy122 =>
                intro w' hS
                go_simp
                try with_reducible rfl
              try simp only [Act.put, List.setIfInBounds_toArray, List.set_cons_zero, List.set_cons_succ]
              refine' wpAnyH_take (i := 16) (v := _) (op_at rfl) (by kernel_rfl) (by kernel_rfl) (by kernel_rfl) (fun _ _ _ h => h) (Or.inl ⟨by rfl, ?hy123⟩) (by assumption) ?rest123
              case hy123 =>
                intro w' hS
                go_simp
                try with_reducible rfl
              try simp only [Act.put, List.setIfInBounds_toArray, List.set_cons_zero, List.set_cons_succ]
              refine' wpAnyH_take (i := 17) (v := _) (op_at rfl) (by kernel_rfl) (by kernel_rfl) (by kernel_rfl) (fun _ _ _ h => h) (Or.inl ⟨by rfl, ?hy124⟩) (by assumption) ?rest124
              case hy124 =>
                intro w' hS
                go_simp
                try with_reducible rfl
              try simp only [Act.put, List.setIfInBounds_toArray, List.set_cons_zero, List.set_cons_succ]
              refine' wpAnyH_take (i := 18) (v := _) (op_at rfl) (by kernel_rfl) (by kernel_rfl) (by kernel_rfl) (fun _ _ _ h => h) (Or.inl ⟨by rfl, ?hy125⟩) (by assumption) ?rest125
              case hy125 =>
                intro w' hS
                go_simp
                try with_reducible rfl
              try simp only [Act.put, List.setIfInBounds_toArray, List.set_cons_zero, List.set_cons_succ]
              refine' wpAnyH_take (i := 19) (v := _) (op_at rfl) (by kernel_rfl) (by kernel_rfl) (by kernel_rfl) (fun _ _ _ h => h) (Or.inl ⟨by rfl, ?hy126⟩) (by assumption) ?rest126
              case hy126 =>
                intro w' hS
                go_simp
                try with_reducible rfl
              try simp only [Act.put, List.setIfInBounds_toArray, List.set_cons_zero, List.set_cons_succ]
              refine' wpAnyH_take (i := 20) (v := _) (op_at rfl) (by kernel_rfl) (by kernel_rfl) (by kernel_rfl) (fun _ _ _ h => h) (Or.inl ⟨by rfl, ?hy127⟩) (by assumption) ?rest127
              case hy127 =>
                intro w' hS
                go_simp
                try with_reducible rfl
              try simp only [Act.put, List.setIfInBounds_toArray, List.set_cons_zero, List.set_cons_succ]
              refine' wpAnyH_take (i := 21) (v := _) (op_at rfl) (by kernel_rfl) (by kernel_rfl) (by kernel_rfl) (fun _ _ _ h => h) (Or.inl ⟨by rfl, ?hy128⟩) (by assumption) ?rest128
              case hy128 =>
                intro w' hS
                obtain ⟨e0, e1, e2, e4, e5, e6⟩ := HC.out w' (oK.trans hS)
                rw [hSt.out] at e5
                go_simp
                try with_reducible rfl
              try simp only [Act.put, List.setIfInBounds_toArray, List.set_cons_zero, List.set_cons_succ]
              refine' wpAnyH_take (i := 22) (v := _) (op_at rfl) (by kernel_rfl) (by kernel_rfl) (by kernel_rfl) (fun _ _ _ h => h) (Or.inl ⟨by rfl, ?hy129⟩) (by assumption) ?rest129
              case hy129 =>
                intro w' hS
                go_simp
                try with_reducible rfl
              try simp only [Act.put, List.setIfInBounds_toArray, List.set_cons_zero, List.set_cons_succ]
              refine' wpAnyH_take (i := 23) (v := _) (op_at rfl) (by kernel_rfl) (by kernel_rfl) (by kernel_rfl) (fun _ _ _ h => h) (Or.inl ⟨by rfl, ?hy130⟩) (by assumption) ?rest130
              case hy130 =>
                intro w' hS
                go_simp
                try with_reducible rfl
              try simp only [Act.put, List.setIfInBounds_toArray, List.set_cons_zero, List.set_cons_succ]
              refine' wpAnyH_take (i := 24) (v := _) (op_at rfl) (by kernel_rfl) (by kernel_rfl) (by kernel_rfl) (fun _ _ _ h => h) (Or.inl ⟨by rfl, ?hy131⟩) (by assumption) ?rest131
              case hy131 =>
                intro w' hS
                go_simp
                try with_reducible rfl
              try simp only [Act.put, List.setIfInBounds_toArray, List.set_cons_zero, List.set_cons_succ]
              refine' wpAnyH_take (i := 25) (v := _) (op_at rfl) (by kernel_rfl) (by kernel_rfl) (by kernel_rfl) (fun _ _ _ h => h) (Or.inl ⟨by rfl, ?hy132⟩) (by assumption) ?rest132
              case hy132 =>
                intro w' hS
                go_simp
                try with_reducible rfl
              try simp only [Act.put, List.setIfInBounds_toArray, List.set_cons_zero, List.set_cons_succ]
              refine' wpAnyH_take (i := 26) (v := _) (op_at rfl) (by kernel_rfl) (by kernel_rfl) (by kernel_rfl) (fun _ _ _ h => h) (Or.inl ⟨by rfl, ?hy133⟩) (by assumption) ?rest133
              case hy133 =>
                intro w' hS
                obtain ⟨m0, m1, m2, m3, m4, m5⟩ := HM.out w' (o1.trans (oK.trans hS))
                rw [hstM.out] at m3
                go_simp
                try with_reducible rfl
              try simp only [Act.put, List.setIfInBounds_toArray, List.set_cons_zero, List.set_cons_succ]
              refine' wpAnyH_take (i := 27) (v := _) (op_at rfl) (by kernel_rfl) (by kernel_rfl) (by kernel_rfl) (fun _ _ _ h => h) (Or.inl ⟨by rfl, ?hy134⟩) (by assumption) ?rest134
              case hy134 =>
                intro w' hS
                go_simp
                try with_reducible rfl
              try simp only [Act.put, List.setIfInBounds_toArray, List.set_cons_zero, List.set_cons_succ]
              refine' wpAnyH_take (i := 28) (v := _) (op_at rfl) (by kernel_rfl) (by kernel_rfl) (by kernel_rfl) (fun _ _ _ h => h) (Or.inl ⟨by rfl, ?hy135⟩) (by assumption) ?rest135
              case hy135 =>
                intro w' hS
                go_simp
                try with_reducible rfl
              try simp only [Act.put, List.setIfInBounds_toArray, List.set_cons_zero, List.set_cons_succ]
              refine' wpAnyH_take (i := 29) (v := _) (op_at rfl) (by kernel_rfl) (by kernel_rfl) (by kernel_rfl) (fun _ _ _ h => h) (Or.inl ⟨by rfl, ?hy136⟩) (by assumption) ?rest136
              case hy136 =>
                intro w' hS
                go_simp
                try with_reducible rfl
              try simp only [Act.put, List.setIfInBounds_toArray, List.set_cons_zero, List.set_cons_succ]
              refine' wpAnyH_take (i := 30) (v := _) (op_at rfl) (by kernel_rfl) (by kernel_rfl) (by kernel_rfl) (fun _ _ _ h => h) (Or.inl ⟨by rfl, ?hy137⟩) (by assumption) ?rest137
              case hy137 =>
                intro w' hS
                go_simp
                try with_reducible rfl
              try simp only [Act.put, List.setIfInBounds_toArray, List.set_cons_zero, List.set_cons_succ]
              refine' wpAnyH_take (i := 31) (v := _) (op_at rfl) (by kernel_rfl) (by kernel_rfl) (by kernel_rfl) (fun _ _ _ h => h) (Or.inl ⟨by rfl, ?hy138⟩) (by assumption) ?rest138
              case hy138 =>
                intro w' hS
                go_simp
                try with_reducible rfl
              try simp only [Act.put, List.setIfInBounds_toArray, List.set_cons_zero, List.set_cons_succ]
              refine' wpAnyH_take (i := 32) (v := _) (op_at rfl) (by kernel_rfl) (by kernel_rfl) (by kernel_rfl) (fun _ _ _ h => h) (Or.inl ⟨by rfl, ?hy139⟩) (by assumption) ?rest139
              case hy139 =>
                intro w' hS
                go_simp
                try with_reducible rfl
              try simp only [Act.put, List.setIfInBounds_toArray, List.set_cons_zero, List.set_cons_succ]
              refine' wpAnyH_take (i := 33) (v := _) (op_at rfl) (by kernel_rfl) (by kernel_rfl) (by kernel_rfl) (fun _ _ _ h => h) (Or.inl ⟨by rfl, ?hy140⟩) (by assumption) ?rest140
              case hy140 =>
                intro w' hS
                go_simp
                try with_reducible rfl
              try simp only [Act.put, List.setIfInBounds_toArray, List.set_cons_zero, List.set_cons_succ]
              refine' wpAnyH_take (i := 34) (v := _) (op_at rfl) (by kernel_rfl) (by kernel_rfl) (by kernel_rfl) (fun _ _ _ h => h) (Or.inl ⟨by rfl, ?hy141⟩) (by assumption) ?rest141
              case hy141 =>
                intro w' hS
                obtain ⟨m0, m1, m2, m3, m4, m5⟩ := HM.out w' (o1.trans (oK.trans hS))
                rw [hstM.out] at m3
                go_simp
                try with_reducible rfl
              try simp only [Act.put, List.setIfInBounds_toArray, List.set_cons_zero, List.set_cons_succ]
              refine' wpAnyH_take (i := 35) (v := _) (op_at rfl) (by kernel_rfl) (by kernel_rfl) (by kernel_rfl) (fun _ _ _ h => h) (Or.inl ⟨by rfl, ?hy142⟩) (by assumption) ?rest142
              case hy142 =>
                intro w' hS
                go_simp
                try with_reducible rfl
              try simp only [Act.put, List.setIfInBounds_toArray, List.set_cons_zero, List.set_cons_succ]
              refine' wpAnyH_take (i := 36) (v := _) (op_at rfl) (by kernel_rfl) (by kernel_rfl) (by kernel_rfl) (fun _ _ _ h => h) (Or.inl ⟨by rfl, ?hy143⟩) (by assumption) ?rest143
              case hy143 =>
                intro w' hS
                go_simp
                try with_reducible rfl
              try simp only [Act.put, List.setIfInBounds_toArray, List.set_cons_zero, List.set_cons_succ]
              refine wpAnyH_take (i := 37) (v := undef) (op_at rfl) (by kernel_rfl) (by kernel_rfl) (by kernel_rfl) (fun _ _ _ h => h) (Or.inr ⟨by rfl, rfl⟩) (by assumption) ?_
              try simp only [Act.put, List.setIfInBounds_toArray, List.set_cons_zero, List.set_cons_succ]
              refine wpAnyH_take (i := 38) (v := undef) (op_at rfl) (by kernel_rfl) (by kernel_rfl) (by kernel_rfl) (fun _ _ _ h => h) (Or.inr ⟨by rfl, rfl⟩) (by assumption) ?_
              try simp only [Act.put, List.setIfInBounds_toArray, List.set_cons_zero, List.set_cons_succ]
              refine wpAnyH_take (i := 39) (v := undef) (op_at rfl) (by kernel_rfl) (by kernel_rfl) (by kernel_rfl) (fun _ _ _ h => h) (Or.inr ⟨by rfl, rfl⟩) (by assumption) ?_
              try simp only [Act.put, List.setIfInBounds_toArray, List.set_cons_zero, List.set_cons_succ]
              refine wpAnyH_take (i := 40) (v := undef) (op_at rfl) (by kernel_rfl) (by kernel_rfl) (by kernel_rfl) (fun _ _ _ h => h) (Or.inr ⟨by rfl, rfl⟩) (by assumption) ?_
              try simp only [Act.put, List.setIfInBounds_toArray, List.set_cons_zero, List.set_cons_succ]
              refine wpAnyH_take (i := 41) (v := undef) (op_at rfl) (by kernel_rfl) (by kernel_rfl) (by kernel_rfl) (fun _ _ _ h => h) (Or.inr ⟨by rfl, rfl⟩) (by assumption) ?_
              try simp only [Act.put, List.setIfInBounds_toArray, List.set_cons_zero, List.set_cons_succ]
              refine wpAnyH_take (i := 42) (v := undef) (op_at rfl) (by kernel_rfl) (by kernel_rfl) (by kernel_rfl) (fun _ _ _ h => h) (Or.inr ⟨by rfl, rfl⟩) (by assumption) ?_
              try simp only [Act.put, List.setIfInBounds_toArray, List.set_cons_zero, List.set_cons_succ]
              refine wpAnyH_take (i := 43) (v := undef) (op_at rfl) (by kernel_rfl) (by kernel_rfl) (by kernel_rfl) (fun _ _ _ h => h) (Or.inr ⟨by rfl, rfl⟩) (by assumption) ?_
              try simp only [Act.put, List.setIfInBounds_toArray, List.set_cons_zero, List.set_cons_succ]
              refine wpAnyH_take (i := 44) (v := undef) (op_at rfl) (by kernel_rfl) (by kernel_rfl) (by kernel_rfl) (fun _ _ _ h => h) (Or.inr ⟨by rfl, rfl⟩) (by assumption) ?_
              try simp only [Act.put, List.setIfInBounds_toArray, List.set_cons_zero, List.set_cons_succ]
              refine wpAnyH_take (i := 45) (v := undef) (op_at rfl) (by kernel_rfl) (by kernel_rfl) (by kernel_rfl) (fun _ _ _ h => h) (Or.inr ⟨by rfl, rfl⟩) (by assumption) ?_
              try simp only [Act.put, List.setIfInBounds_toArray, List.set_cons_zero, List.set_cons_succ]
              refine wpAnyH_take (i := 46) (v := undef) (op_at rfl) (by kernel_rfl) (by kernel_rfl) (by kernel_rfl) (fun _ _ _ h => h) (Or.inr ⟨by rfl, rfl⟩) (by assumption) ?_
              try simp only [Act.put, List.setIfInBounds_toArray, List.set_cons_zero, List.set_cons_succ]
              refine wpAnyH_take (i := 47) (v := undef) (op_at rfl) (by kernel_rfl) (by kernel_rfl) (by kernel_rfl) (fun _ _ _ h => h) (Or.inr ⟨by rfl, rfl⟩) (by assumption) ?_
              try simp only [Act.put, List.setIfInBounds_toArray, List.set_cons_zero, List.set_cons_succ]
              refine' wpAnyH_take (i := 48) (v := _) (op_at rfl) (by kernel_rfl) (by kernel_rfl) (by kernel_rfl) (fun _ _ _ h => h) (Or.inl ⟨by rfl, ?hy155⟩) (by assumption) ?rest155
              case hy155 =>
                intro w' hS
                go_simp
                try with_reducible rfl
              try simp only [Act.put, List.setIfInBounds_toArray, List.set_cons_zero, List.set_cons_succ]
              refine' wpAnyH_take (i := 49) (v := _) (op_at rfl) (by kernel_rfl) (by kernel_rfl) (by kernel_rfl) (fun _ _ _ h => h) (Or.inl ⟨by rfl, ?hy156⟩) (by assumption) ?rest156
              case hy156 =>
                intro w' hS
                go_simp
                try with_reducible rfl
              try simp only [Act.put, List.setIfInBounds_toArray, List.set_cons_zero, List.set_cons_succ]
              refine' wpAnyH_take (i := 50) (v := _) (op_at rfl) (by kernel_rfl) (by kernel_rfl) (by kernel_rfl) (fun _ _ _ h => h) (Or.inl ⟨by rfl, ?hy157⟩) (by assumption) ?rest157
              case hy157 =>
                intro w' hS
                go_simp
                try with_reducible rfl
              try simp only [Act.put, List.setIfInBounds_toArray, List.set_cons_zero, List.set_cons_succ]
              refine' wpAnyH_take (i := 51) (v := _) (op_at rfl) (by kernel_rfl) (by kernel_rfl) (by kernel_rfl) (fun _ _ _ h => h) (Or.inl ⟨by rfl, ?hy158⟩) (by assumption) ?rest158
              case hy158 =>
                intro w' hS
                go_simp
                try with_reducible rfl
              try simp only [Act.put, List.setIfInBounds_toArray, List.set_cons_zero, List.set_cons_succ]
              refine' wpAnyH_take (i := 52) (v := _) (op_at rfl) (by kernel_rfl) (by kernel_rfl) (by kernel_rfl) (fun _ _ _ h => h) (Or.inl ⟨by rfl, ?hy159⟩) (by assumption) ?rest159
              case hy159 =>
                intro w' hS
                go_simp
                try with_reducible rfl
              try simp only [Act.put, List.setIfInBounds_toArray, List.set_cons_zero, List.set_cons_succ]
              refine' wpAnyH_take (i := 53) (v := _) (op_at rfl) (by kernel_rfl) (by kernel_rfl) (by kernel_rfl) (fun _ _ _ h => h) (Or.inl ⟨by rfl, ?hy160⟩) (by assumption) ?rest160
              case hy160 =>
                intro w' hS
                go_simp
                try with_reducible rfl
              try simp only [Act.put, List.setIfInBounds_toArray, List.set_cons_zero, List.set_cons_succ]
              refine' wpAnyH_take (i := 54) (v := _) (op_at rfl) (by kernel_rfl) (by kernel_rfl) (by kernel_rfl) (fun _ _ _ h => h) (Or.inl ⟨by rfl, ?hy161⟩) (by assumption) ?rest161
              case hy161 =>
                intro w' hS
                go_simp
                try with_reducible rfl
              try simp only [Act.put, List.setIfInBounds_toArray, List.set_cons_zero, List.set_cons_succ]
              refine' wpAnyH_take (i := 55) (v := _) (op_at rfl) (by kernel_rfl) (by kernel_rfl) (by kernel_rfl) (fun _ _ _ h => h) (Or.inl ⟨by rfl, ?hy162⟩) (by assumption) ?rest162
              case hy162 =>
                intro w' hS
                obtain ⟨e0, e1, e2, e4, e5, e6⟩ := HC.out w' (oK.trans hS)
                go_simp
                try with_reducible rfl
              try simp only [Act.put, List.setIfInBounds_toArray, List.set_cons_zero, List.set_cons_succ]
              refine' wpAnyH_take (i := 57) (v := _) (op_at rfl) (by kernel_rfl) (by kernel_rfl) (by kernel_rfl) (fun _ _ _ h => h) (Or.inl ⟨by rfl, ?hy163⟩) (by assumption) ?rest163
              case hy163 =>
                intro w' hS
                go_simp
                try with_reducible rfl
              try simp only [Act.put, List.setIfInBounds_toArray, List.set_cons_zero, List.set_cons_succ]
              refine' wpAnyH_take (i := 58) (v := _) (op_at rfl) (by kernel_rfl) (by kernel_rfl) (by kernel_rfl) (fun _ _ _ h => h) (Or.inl ⟨by rfl, ?hy164⟩) (by assumption) ?rest164
              case hy164 =>
                intro w' hS
                go_simp
                try with_reducible rfl
              try simp only [Act.put, List.setIfInBounds_toArray, List.set_cons_zero, List.set_cons_succ]
              refine' wpAnyH_take (i := 59) (v := _) (op_at rfl) (by kernel_rfl) (by kernel_rfl) (by kernel_rfl) (fun _ _ _ h => h) (Or.inl ⟨by rfl, ?hy165⟩) (by assumption) ?rest165
              case hy165 =>
                intro w' hS
                go_simp
                try with_reducible rfl
              try simp only [Act.put, List.setIfInBounds_toArray, List.set_cons_zero, List.set_cons_succ]
              refine' wpAnyH_take (i := 60) (v := _) (op_at rfl) (by kernel_rfl) (by kernel_rfl) (by kernel_rfl) (fun _ _ _ h => h) (Or.inl ⟨by rfl, ?hy166⟩) (by assumption) ?rest166
              case hy166 =>
                intro w' hS
                go_simp
                try with_reducible rfl
              try simp only [Act.put, List.setIfInBounds_toArray, List.set_cons_zero, List.set_cons_succ]
              refine' wpAnyH_take (i := 61) (v := _) (op_at rfl) (by kernel_rfl) (by kernel_rfl) (by kernel_rfl) (fun _ _ _ h => h) (Or.inl ⟨by rfl, ?hy167⟩) (by assumption) ?rest167
              case hy167 =>
                intro w' hS
                obtain ⟨m0, m1, m2, m3, m4, m5⟩ := HM.out w' (o1.trans (oK.trans hS))
                rw [HNN.out] at m5
                go_simp
                try with_reducible rfl
              try simp only [Act.put, List.setIfInBounds_toArray, List.set_cons_zero, List.set_cons_succ]
              refine wpAnyH_ready (rs := [56]) (by kernel_rfl) (by simp) (AllReadyH.cons (op_at rfl) (fun K hK => ?_) AllReadyH.nil)
              go_simp
              refine (HQ.out _ (o1.trans oK) k hkL).mono fun e w56 hq => ?_
              obtain ⟨rfl, hw_⟩ := hq
              subst w56
              go_wp2_with fail
              refine hK.out _ _ (Only.refl _ _) (fun hHeld => ?_)
              clear hK K
              try simp only [Act.put, List.setIfInBounds_toArray, List.set_cons_zero, List.set_cons_succ]
              refine' wpAnyH_take (i := 62) (v := _) (op_at rfl) (by kernel_rfl) (by kernel_rfl) (by kernel_rfl) (fun _ _ _ h => h) (Or.inl ⟨by rfl, ?hy168⟩) (by assumption) ?rest168
              case hy168 =>
                intro w' hS
                go_simp
                try with_reducible rfl
              try simp only [Act.put, List.setIfInBounds_toArray, List.set_cons_zero, List.set_cons_succ]
              refine' wpAnyH_take (i := 63) (v := _) (op_at rfl) (by kernel_rfl) (by kernel_rfl) (by kernel_rfl) (fun _ _ _ h => h) (Or.inl ⟨by rfl, ?hy169⟩) (by assumption) ?rest169
              case hy169 =>
                intro w' hS
                go_simp
                try with_reducible rfl
              try simp only [Act.put, List.setIfInBounds_toArray, List.set_cons_zero, List.set_cons_succ]
              refine' wpAnyH_take (i := 64) (v := _) (op_at rfl) (by kernel_rfl) (by kernel_rfl) (by kernel_rfl) (fun _ _ _ h => h) (Or.inl ⟨by rfl, ?hy170⟩) (by assumption) ?rest170
              case hy170 =>
                intro w' hS
                go_simp
                try with_reducible rfl
              try simp only [Act.put, List.setIfInBounds_toArray, List.set_cons_zero, List.set_cons_succ]
              refine wpAnyH_done (by kernel_rfl) ?_ _
              go_wp2_with fail
              exact ⟨⟨j + 1, by rw [he], by simp, by omega, oK⟩, by simp [intOf]; omega⟩
          · have dm : decide (M[j].u = L[k].u ∧ M[j].d = L[k].d) = false := by simpa using hm
            have he : hitB M L[k].u L[k].d (j + 1) = hitB M L[k].u L[k].d j := by rw [Hst.out, dm, Bool.or_false]
            rw [dm]
            clear dm hm Hst
            go_wp2_with fail
            exact ⟨⟨j + 1, by rw [he], by simp, by omega, oJ⟩, by simp [intOf]; omega⟩
        · obtain rfl : j = M.length := by omega
          have d2 : decide ((M.length : Int) < M.length) = false := by simp
          rw [g_hit_end HV.out hkL]
          have g0 : (rc (reg L[k])).toArray[0]? = some (.int .i64 L[k].u) := rfl
          have g1 : (rc (reg L[k])).toArray[1]? = some (.int .i64 L[k].d) := rfl
          have hcl := rc_len (reg L[k])
          have h1c : (rc (reg L[k])).toArray.all (·.oneCell') = true := all_oneCell_toArray (rc_one _)
          have hget := HGET.out wr (o1.trans oJ0) k hkL
          obtain ⟨e0, e1, e2, e4, e5, e6⟩ := HC.out wr oJ0
          generalize hcs : rc (reg L[k]) = cs at *
          clear hcs
          go_wp2_with fail
          refine hget.mono ?_
          rintro e w4 ⟨rfl, o4⟩
          clear hget e0 e1 e2 e4 e5 e6
          go_upto_region 16 with (first
            | (refine wpList_alloc_new rfl 36 rfl rv0 (fun _ => by kernel_rfl) ?_; intro G wG oG hGl hG)
            | (refine wpList_store_blk rfl 36 _ _ rfl G cs rfl rfl hG (by rw [hcl]; rfl) (by rw [hcl]; kernel_rfl) h1c ?_; intro wQ oH hH; have oQ := oG.new oH (fun i hi => by simp only [List.mem_singleton] at hi; omega); clear hG oG oH))
          have oQD := ((oJ0.trans o4).trans oQ).trans (Only.drew wQ [])
          refine wp_region_held_drew (S := fun w' => Only wQ.drew w' []) (by kernel_rfl) (Only.refl _ _) (fun hHeld => ?_)
          refine' wpAnyH_take (i := 0) (v := _) (op_at rfl) (by kernel_rfl) (by kernel_rfl) (by kernel_rfl) (fun _ _ _ h => h) (Or.inl ⟨by rfl, ?hy171⟩) (by assumption) ?rest171
          case hy171 =>
            intro w' hS
            go_simp
            try with_reducible rfl
          try simp only [Act.put, List.setIfInBounds_toArray, List.set_cons_zero, List.set_cons_succ]
          refine' wpAnyH_take (i := 1) (v := _) (op_at rfl) (by kernel_rfl) (by kernel_rfl) (by kernel_rfl) (fun _ _ _ h => h) (Or.inl ⟨by rfl, ?hy172⟩) (by assumption) ?rest172
          case hy172 =>
            intro w' hS
            go_simp
            try with_reducible rfl
          try simp only [Act.put, List.setIfInBounds_toArray, List.set_cons_zero, List.set_cons_succ]
          refine' wpAnyH_take (i := 2) (v := _) (op_at rfl) (by kernel_rfl) (by kernel_rfl) (by kernel_rfl) (fun _ _ _ h => h) (Or.inl ⟨by rfl, ?hy173⟩) (by assumption) ?rest173
          case hy173 =>
            intro w' hS
            go_simp
            try with_reducible rfl
          try simp only [Act.put, List.setIfInBounds_toArray, List.set_cons_zero, List.set_cons_succ]
          refine' wpAnyH_take (i := 3) (v := _) (op_at rfl) (by kernel_rfl) (by kernel_rfl) (by kernel_rfl) (fun _ _ _ h => h) (Or.inl ⟨by rfl, ?hy174⟩) (by assumption) ?rest174
          case hy174 =>
            intro w' hS
            go_simp
            try with_reducible rfl
          try simp only [Act.put, List.setIfInBounds_toArray, List.set_cons_zero, List.set_cons_succ]
          refine' wpAnyH_take (i := 4) (v := _) (op_at rfl) (by kernel_rfl) (by kernel_rfl) (by kernel_rfl) (fun _ _ _ h => h) (Or.inl ⟨by rfl, ?hy175⟩) (by assumption) ?rest175
          case hy175 =>
            intro w' hS
            go_simp
            try with_reducible rfl
          try simp only [Act.put, List.setIfInBounds_toArray, List.set_cons_zero, List.set_cons_succ]
          refine' wpAnyH_take (i := 5) (v := _) (op_at rfl) (by kernel_rfl) (by kernel_rfl) (by kernel_rfl) (fun _ _ _ h => h) (Or.inl ⟨by rfl, ?hy176⟩) (by assumption) ?rest176
          case hy176 =>
            intro w' hS
            go_simp
            try with_reducible rfl
          try simp only [Act.put, List.setIfInBounds_toArray, List.set_cons_zero, List.set_cons_succ]
          refine' wpAnyH_take (i := 6) (v := _) (op_at rfl) (by kernel_rfl) (by kernel_rfl) (by kernel_rfl) (fun _ _ _ h => h) (Or.inl ⟨by rfl, ?hy177⟩) (by assumption) ?rest177
          case hy177 =>
            intro w' hS
            go_simp
            try with_reducible rfl
          try simp only [Act.put, List.setIfInBounds_toArray, List.set_cons_zero, List.set_cons_succ]
          refine' wpAnyH_take (i := 7) (v := _) (op_at rfl) (by kernel_rfl) (by kernel_rfl) (by kernel_rfl) (fun _ _ _ h => h) (Or.inl ⟨by rfl, ?hy178⟩) (by assumption) ?rest178
          case hy178 =>
            intro w' hS
            go_simp
            try with_reducible rfl
          try simp only [Act.put, List.setIfInBounds_toArray, List.set_cons_zero, List.set_cons_succ]
          refine' wpAnyH_take (i := 8) (v := _) (op_at rfl) (by kernel_rfl) (by kernel_rfl) (by kernel_rfl) (fun _ _ _ h => h) (Or.inl ⟨by rfl, ?hy179⟩) (by assumption) ?rest179
          case hy179 =>
            intro w' hS
            have hH_ := ((Only.drew wQ []).trans hS).at hH (by simp)
            have y0 := (cell_in hH_ 0).trans g0
            have y1 := (cell_in hH_ 1).trans g1
            go_simp
            try with_reducible rfl
          try simp only [Act.put, List.setIfInBounds_toArray, List.set_cons_zero, List.set_cons_succ]
          refine' wpAnyH_take (i := 9) (v := _) (op_at rfl) (by kernel_rfl) (by kernel_rfl) (by kernel_rfl) (fun _ _ _ h => h) (Or.inl ⟨by rfl, ?hy180⟩) (by assumption) ?rest180
          case hy180 =>
            intro w' hS
            go_simp
            try with_reducible rfl
          try simp only [Act.put, List.setIfInBounds_toArray, List.set_cons_zero, List.set_cons_succ]
          refine' wpAnyH_take (i := 10) (v := _) (op_at rfl) (by kernel_rfl) (by kernel_rfl) (by kernel_rfl) (fun _ _ _ h => h) (Or.inl ⟨by rfl, ?hy181⟩) (by assumption) ?rest181
          case hy181 =>
            intro w' hS
            go_simp
            try with_reducible rfl
          try simp only [Act.put, List.setIfInBounds_toArray, List.set_cons_zero, List.set_cons_succ]
          refine' wpAnyH_take (i := 11) (v := _) (op_at rfl) (by kernel_rfl) (by kernel_rfl) (by kernel_rfl) (fun _ _ _ h => h) (Or.inl ⟨by rfl, ?hy182⟩) (by assumption) ?rest182
          case hy182 =>
            intro w' hS
            go_simp
            try with_reducible rfl
          try simp only [Act.put, List.setIfInBounds_toArray, List.set_cons_zero, List.set_cons_succ]
          refine' wpAnyH_take (i := 12) (v := _) (op_at rfl) (by kernel_rfl) (by kernel_rfl) (by kernel_rfl) (fun _ _ _ h => h) (Or.inl ⟨by rfl, ?hy183⟩) (by assumption) ?rest183
          case hy183 =>
            intro w' hS
            go_simp
            try with_reducible rfl
          try simp only [Act.put, List.setIfInBounds_toArray, List.set_cons_zero, List.set_cons_succ]
          refine' wpAnyH_take (i := 13) (v := _) (op_at rfl) (by kernel_rfl) (by kernel_rfl) (by kernel_rfl) (fun _ _ _ h => h) (Or.inl ⟨by rfl, ?hy184⟩) (by assumption) ?rest184
          case hy184 =>
            intro w' hS
            obtain ⟨e0, e1, e2, e4, e5, e6⟩ := HC.out w' (oQD.trans hS)
            go_simp
            try with_reducible rfl
          try simp only [Act.put, List.setIfInBounds_toArray, List.set_cons_zero, List.set_cons_succ]
          refine' wpAnyH_take (i := 14) (v := _) (op_at rfl) (by kernel_rfl) (by kernel_rfl) (by kernel_rfl) (fun _ _ _ h => h) (Or.inl ⟨by rfl, ?hy185⟩) (by assumption) ?rest185
          case hy185 =>
            intro w' hS
            go_simp
            try with_reducible rfl
          try simp only [Act.put, List.setIfInBounds_toArray, List.set_cons_zero, List.set_cons_succ]
          refine' wpAnyH_take (i := 15) (v := _) (op_at rfl) (by kernel_rfl) (by kernel_rfl) (by kernel_rfl) (fun _ _ _ h => h) (Or.inl ⟨by rfl, ?hy186⟩) (by assumption) ?rest186
          case hy186 =>
            intro w' hS
            go_simp
            try with_reducible rfl
          try simp only [Act.put, List.setIfInBounds_toArray, List.set_cons_zero, List.set_cons_succ]
          refine wpAnyH_done (by kernel_rfl) ?_ _
          go_wp2_with fail
          go_roundw
          case measure => simp [intOf]; omega
          case rel => first | exact ⟨k + 1, by simp, by omega, oQD⟩ | ((repeat apply Exists.intro); exact ⟨⟨k + 1, by simp, by omega, oQD⟩, rfl⟩)


    · as_aux_lemma =>
       obtain rfl : k = M.length := by omega
       have d1 : decide ((M.length : Int) < M.length) = false := by simp
       clear HA HQ HSRC hLM
       go_upto_region 18 with fail
       have oE := oR
       clear oR
       go_wp2_with fail
       go_loopw [11] (fun x wu => ∃ u : Nat, x = .int .i64 u ∧ u ≤ 3 ∧ Only w1 wu []) (fun x _ => 3 - (intOf x).toNat)
       case atStart => exact ⟨0, rfl, by omega, oE⟩
       case round =>
         clear oE
         obtain ⟨u, rfl, hu3, oU⟩ := hrel
         by_cases hu : u < 3
         · have du : decide ((u : Int) < 3) = true := by simp; omega
           have hcnt := Lib.hid (g_cnt_end HV.out (u : Int))
           go_wp2_with fail
           rw [show (Value.int IntKind.i64 0) = .int .i64 (cntM M u 0) from rfl]
           go_loopw [12, 13] (fun x y wq => ∃ k : Nat, x = .int .i64 (cntM M u k) ∧ y = .int .i64 k ∧ k ≤ M.length ∧ Only w1 wq []) (fun _ y _ => M.length - (intOf y).toNat)
           case atStart => exact ⟨0, rfl, rfl, Nat.zero_le _, oU⟩
           case round =>
             obtain ⟨k, rfl, rfl, hk, oK⟩ := hrel
             by_cases hkM : k < M.length
             · have d1 : decide ((k : Int) < M.length) = true := by simpa using hkM
               obtain ⟨mg, rfl, HM⟩ := HLN.out k hkM
               replace HM := Lib.hid HM
               obtain ⟨m0, m1, m2, m3, m4, m5⟩ := HM.out wr (o1.trans oK)
               have Hst := Lib.hid (cnt_step (M := M) (u : Int) hkM)
               have hcl := cnt_le M u k
               have hw : IntKind.i64.wrap ((cntM M u k : Int) + 1) = (cntM M u k : Int) + 1 := by rw [IntKind.wrap_i64]; omega
               by_cases hmu : M[k].u = (u : Int)
               · have dmu : decide (M[k].u = (u : Int)) = true := by simpa using hmu
                 cases hst : M[k].st with
                 | true =>
                   have he : Hid (cntM M u (k + 1) = cntM M u k) := by
                     show _ = _
                     rw [Hst.out, if_neg (by rw [hst]; simp)]; omega
                   rw [hst] at m3
                   rw [hmu] at m0
                   clear hst hmu Hst hcl
                   go_wp2_with fail
                   exact ⟨⟨k + 1, by rw [he.out], by simp, by omega, oK⟩, by simp [intOf]; omega⟩
                 | false =>
                   have he : Hid (cntM M u (k + 1) = cntM M u k + 1) := by
                     show _ = _
                     rw [Hst.out, if_pos (by rw [hst, hmu]; simp)]
                   rw [hst] at m3
                   rw [hmu] at m0
                   clear hst hmu Hst hcl
                   go_wp2_with fail
                   exact ⟨⟨k + 1, by rw [he.out]; simp, by simp, by omega, oK⟩, by simp [intOf]; omega⟩
               · have dmu : decide (M[k].u = (u : Int)) = false := by simpa using hmu
                 have he : Hid (cntM M u (k + 1) = cntM M u k) := by
                   show _ = _
                   rw [Hst.out, if_neg (by simp [hmu])]; omega
                 clear Hst hcl
                 go_wp2_with fail
                 exact ⟨⟨k + 1, by rw [he.out], by simp, by omega, oK⟩, by simp [intOf]; omega⟩
             · obtain rfl : k = M.length := by omega
               have d1 : decide ((M.length : Int) < M.length) = false := by simp
               rw [hcnt.out]
               have hlist := HLIST.out wr (o1.trans oK) (u : Int)
               obtain ⟨q, hqd⟩ : ∃ q, q = lstL (L.map reg) (u : Int) := ⟨_, rfl⟩
               have HLA : ∀ k (hk : k < q.length), ∃ m, ∃ hm : m < L.length, q[k] = (L[m].u, L[m].d) ∧ L[m].u = (u : Int) ∧ L[m].st = false := by subst hqd; exact fun k hk => g_lst_at hk
               have HAS : ∀ k (hk : k + 1 < q.length), q[k].1 < q[k + 1].1 ∨ q[k].1 = q[k + 1].1 ∧ q[k].2 < q[k + 1].2 := by subst hqd; exact fun k hk => g_lst_asc HV.out.asc hk
               replace HLA := Lib.hid HLA
               replace HAS := Lib.hid HAS
               have hlen : q.length ≤ 60 := by rw [hqd]; have := lst_len (L.map reg) (u : Int); rw [List.length_map] at this; have := HV.out.mlen; omega
               rw [← hqd] at hlist ⊢
               clear hqd
               go_wp2_with fail
               refine hlist.mono ?_
               rintro e w3 ⟨al, cl, rfl, sL⟩
               have oL := oK.trans sL.only
               have hrowL := (show w3.ownsRow 0 26 2 (.slice al q.length cl) q.length (fl wc q) from sL.head)
               clear hlist sL hcnt
               have HLW : ∀ k (hk : k < q.length), ∃ lg, al = some ⟨lg, 0, none⟩ ∧ ∀ w', Only w3 w' [] → w'.cell? ⟨lg, k * 2, none⟩ = some (.int .i64 q[k].1) ∧ w'.cell? ⟨lg, k * 2 + 1, none⟩ = some (.int .i64 q[k].2) := fun k hk => by
                 obtain ⟨lg, rfl, _⟩ := own_some hrowL (by omega)
                 refine ⟨lg, rfl, fun w' o => ?_⟩
                 have hr := own_only hrowL o (fun _ _ => by simp)
                 exact ⟨rec_cell wc_len hr hk 0 rfl, rec_cell wc_len hr hk 1 rfl⟩
               replace HLW := Lib.hid HLW
               clear hrowL
               go_wp2_with fail
               go_loopw [15] (fun x wk => ∃ k : Nat, x = .int .i64 k ∧ k ≤ q.length ∧ Only w3 wk []) (fun x _ => q.length - (intOf x).toNat)
               case atStart => exact ⟨0, rfl, Nat.zero_le _, Only.refl _ _⟩
               case round =>
                 obtain ⟨k, rfl, hk, oW⟩ := hrel
                 by_cases hkq : k < q.length
                 · have d2 : decide ((k : Int) < q.length) = true := by simpa using hkq
                   obtain ⟨lg, rfl, HW⟩ := HLW.out k hkq
                   obtain ⟨m, hm, em, hmu, hms⟩ := HLA.out k hkq
                   rw [em] at HW
                   replace HW := Lib.hid HW
                   have hget := HGET.out wr (o1.trans (oL.trans oW)) m hm
                   have g5 : (rc (reg L[m])).toArray[5]? = some (.bool L[m].st) := rfl
                   rw [hms] at g5
                   have hcl := rc_len (reg L[m])
                   have h1c : (rc (reg L[m])).toArray.all (·.oneCell') = true := all_oneCell_toArray (rc_one _)
                   obtain ⟨q0, q1⟩ := HW.out wr oW
                   generalize hcs : rc (reg L[m]) = cs at *
                   clear hcs hms
                   have Hmu := Lib.hid hmu
                   clear hmu
                   go_wp2_with fail
                   refine hget.mono ?_
                   rintro e w4 ⟨rfl, o4⟩
                   clear hget q0 q1
                   go_upto_region 34 with (first
                     | (refine wpList_alloc_new rfl 36 rfl rv0 (fun _ => by kernel_rfl) ?_; intro G wG oG hGl hG)
                     | (refine wpList_store_blk rfl 36 _ _ rfl G cs rfl rfl hG (by rw [hcl]; rfl) (by rw [hcl]; kernel_rfl) h1c ?_; intro wQ oH hH; have oQ := oG.new oH (fun i hi => by simp only [List.mem_singleton] at hi; omega); clear hG oG oH))
                   have oQD := ((oW.trans o4).trans oQ).trans (Only.drew wQ [])
                   by_cases hk0 : k = 0
                   · have dk : decide (0 < (k : Int)) = false := by simp [hk0]
                     have dk2 : decide (0 < k) = false := by simp [hk0]
                     clear hk0
                     refine wp_region_held_drew (S := fun w' => Only wQ.drew w' []) (by kernel_rfl) (Only.refl _ _) (fun hHeld => ?_)
                     refine' wpAnyH_take (i := 0) (v := _) (op_at rfl) (by kernel_rfl) (by kernel_rfl) (by kernel_rfl) (fun _ _ _ h => h) (Or.inl ⟨by rfl, ?hy187⟩) (by assumption) ?rest187
                     case hy187 =>
                       intro w' hS
                       go_simp
                       try with_reducible rfl
                     try simp only [Act.put, List.setIfInBounds_toArray, List.set_cons_zero, List.set_cons_succ]
                     refine' wpAnyH_take (i := 1) (v := _) (op_at rfl) (by kernel_rfl) (by kernel_rfl) (by kernel_rfl) (fun _ _ _ h => h) (Or.inl ⟨by rfl, ?hy188⟩) (by assumption) ?rest188
                     case hy188 =>
                       intro w' hS
                       go_simp
                       try with_reducible rfl
                     try simp only [Act.put, List.setIfInBounds_toArray, List.set_cons_zero, List.set_cons_succ]
                     refine' wpAnyH_take (i := 2) (v := _) (op_at rfl) (by kernel_rfl) (by kernel_rfl) (by kernel_rfl) (fun _ _ _ h => h) (Or.inl ⟨by rfl, ?hy189⟩) (by assumption) ?rest189
                     case hy189 =>
                       intro w' hS
                       go_simp
                       try with_reducible rfl
                     try simp only [Act.put, List.setIfInBounds_toArray, List.set_cons_zero, List.set_cons_succ]
                     refine' wpAnyH_take (i := 3) (v := _) (op_at rfl) (by kernel_rfl) (by kernel_rfl) (by kernel_rfl) (fun _ _ _ h => h) (Or.inl ⟨by rfl, ?hy190⟩) (by assumption) ?rest190
                     case hy190 =>
                       intro w' hS
                       go_simp
                       try with_reducible rfl
                     try simp only [Act.put, List.setIfInBounds_toArray, List.set_cons_zero, List.set_cons_succ]
                     refine' wpAnyH_take (i := 4) (v := _) (op_at rfl) (by kernel_rfl) (by kernel_rfl) (by kernel_rfl) (fun _ _ _ h => h) (Or.inl ⟨by rfl, ?hy191⟩) (by assumption) ?rest191
                     case hy191 =>
                       intro w' hS
                       obtain ⟨q0, q1⟩ := HW.out w' (oQD.trans hS)
                       rw [Hmu.out] at q0
                       go_simp
                       try with_reducible rfl
                     try simp only [Act.put, List.setIfInBounds_toArray, List.set_cons_zero, List.set_cons_succ]
                     refine' wpAnyH_take (i := 5) (v := _) (op_at rfl) (by kernel_rfl) (by kernel_rfl) (by kernel_rfl) (fun _ _ _ h => h) (Or.inl ⟨by rfl, ?hy192⟩) (by assumption) ?rest192
                     case hy192 =>
                       intro w' hS
                       go_simp
                       try with_reducible rfl
                     try simp only [Act.put, List.setIfInBounds_toArray, List.set_cons_zero, List.set_cons_succ]
                     refine' wpAnyH_take (i := 6) (v := _) (op_at rfl) (by kernel_rfl) (by kernel_rfl) (by kernel_rfl) (fun _ _ _ h => h) (Or.inl ⟨by rfl, ?hy193⟩) (by assumption) ?rest193
                     case hy193 =>
                       intro w' hS
                       go_simp
                       try with_reducible rfl
                     try simp only [Act.put, List.setIfInBounds_toArray, List.set_cons_zero, List.set_cons_succ]
                     refine' wpAnyH_take (i := 7) (v := _) (op_at rfl) (by kernel_rfl) (by kernel_rfl) (by kernel_rfl) (fun _ _ _ h => h) (Or.inl ⟨by rfl, ?hy194⟩) (by assumption) ?rest194
                     case hy194 =>
                       intro w' hS
                       go_simp
                       try with_reducible rfl
                     try simp only [Act.put, List.setIfInBounds_toArray, List.set_cons_zero, List.set_cons_succ]
                     refine' wpAnyH_take (i := 8) (v := _) (op_at rfl) (by kernel_rfl) (by kernel_rfl) (by kernel_rfl) (fun _ _ _ h => h) (Or.inl ⟨by rfl, ?hy195⟩) (by assumption) ?rest195
                     case hy195 =>
                       intro w' hS
                       go_simp
                       try with_reducible rfl
                     try simp only [Act.put, List.setIfInBounds_toArray, List.set_cons_zero, List.set_cons_succ]
                     refine' wpAnyH_take (i := 9) (v := _) (op_at rfl) (by kernel_rfl) (by kernel_rfl) (by kernel_rfl) (fun _ _ _ h => h) (Or.inl ⟨by rfl, ?hy196⟩) (by assumption) ?rest196
                     case hy196 =>
                       intro w' hS
                       have hH_ := ((Only.drew wQ []).trans hS).at hH (by simp)
                       have y5 := (cell_in hH_ 5).trans g5
                       go_simp
                       try with_reducible rfl
                     try simp only [Act.put, List.setIfInBounds_toArray, List.set_cons_zero, List.set_cons_succ]
                     refine' wpAnyH_take (i := 10) (v := _) (op_at rfl) (by kernel_rfl) (by kernel_rfl) (by kernel_rfl) (fun _ _ _ h => h) (Or.inl ⟨by rfl, ?hy197⟩) (by assumption) ?rest197
                     case hy197 =>
                       intro w' hS
                       go_simp
                       try with_reducible rfl
                     try simp only [Act.put, List.setIfInBounds_toArray, List.set_cons_zero, List.set_cons_succ]
                     refine' wpAnyH_take (i := 11) (v := _) (op_at rfl) (by kernel_rfl) (by kernel_rfl) (by kernel_rfl) (fun _ _ _ h => h) (Or.inl ⟨by rfl, ?hy198⟩) (by assumption) ?rest198
                     case hy198 =>
                       intro w' hS
                       go_simp
                       try with_reducible rfl
                     try simp only [Act.put, List.setIfInBounds_toArray, List.set_cons_zero, List.set_cons_succ]
                     refine' wpAnyH_take (i := 12) (v := _) (op_at rfl) (by kernel_rfl) (by kernel_rfl) (by kernel_rfl) (fun _ _ _ h => h) (Or.inl ⟨by rfl, ?hy199⟩) (by assumption) ?rest199
                     case hy199 =>
                       intro w' hS
                       go_simp
                       try with_reducible rfl
                     try simp only [Act.put, List.setIfInBounds_toArray, List.set_cons_zero, List.set_cons_succ]
                     refine' wpAnyH_take (i := 13) (v := _) (op_at rfl) (by kernel_rfl) (by kernel_rfl) (by kernel_rfl) (fun _ _ _ h => h) (Or.inl ⟨by rfl, ?hy200⟩) (by assumption) ?rest200
                     case hy200 =>
                       intro w' hS
                       go_simp
                       try with_reducible rfl
                     try simp only [Act.put, List.setIfInBounds_toArray, List.set_cons_zero, List.set_cons_succ]
                     refine' wpAnyH_take (i := 14) (v := _) (op_at rfl) (by kernel_rfl) (by kernel_rfl) (by kernel_rfl) (fun _ _ _ h => h) (Or.inl ⟨by rfl, ?hy201⟩) (by assumption) ?rest201
                     case hy201 =>
                       intro w' hS
                       go_simp
                       try with_reducible rfl
                     try simp only [Act.put, List.setIfInBounds_toArray, List.set_cons_zero, List.set_cons_succ]
                     refine wpAnyH_take (i := 15) (v := undef) (op_at rfl) (by kernel_rfl) (by kernel_rfl) (by kernel_rfl) (fun _ _ _ h => h) (Or.inr ⟨by rfl, rfl⟩) (by assumption) ?_
                     try simp only [Act.put, List.setIfInBounds_toArray, List.set_cons_zero, List.set_cons_succ]
                     refine wpAnyH_take (i := 16) (v := undef) (op_at rfl) (by kernel_rfl) (by kernel_rfl) (by kernel_rfl) (fun _ _ _ h => h) (Or.inr ⟨by rfl, rfl⟩) (by assumption) ?_
                     try simp only [Act.put, List.setIfInBounds_toArray, List.set_cons_zero, List.set_cons_succ]
                     refine wpAnyH_take (i := 17) (v := undef) (op_at rfl) (by kernel_rfl) (by kernel_rfl) (by kernel_rfl) (fun _ _ _ h => h) (Or.inr ⟨by rfl, rfl⟩) (by assumption) ?_
                     try simp only [Act.put, List.setIfInBounds_toArray, List.set_cons_zero, List.set_cons_succ]
                     refine wpAnyH_take (i := 18) (v := undef) (op_at rfl) (by kernel_rfl) (by kernel_rfl) (by kernel_rfl) (fun _ _ _ h => h) (Or.inr ⟨by rfl, rfl⟩) (by assumption) ?_
                     try simp only [Act.put, List.setIfInBounds_toArray, List.set_cons_zero, List.set_cons_succ]
                     refine wpAnyH_take (i := 19) (v := undef) (op_at rfl) (by kernel_rfl) (by kernel_rfl) (by kernel_rfl) (fun _ _ _ h => h) (Or.inr ⟨by rfl, rfl⟩) (by assumption) ?_
                     try simp only [Act.put, List.setIfInBounds_toArray, List.set_cons_zero, List.set_cons_succ]
                     refine wpAnyH_take (i := 20) (v := undef) (op_at rfl) (by kernel_rfl) (by kernel_rfl) (by kernel_rfl) (fun _ _ _ h => h) (Or.inr ⟨by rfl, rfl⟩) (by assumption) ?_
                     try simp only [Act.put, List.setIfInBounds_toArray, List.set_cons_zero, List.set_cons_succ]
                     refine wpAnyH_take (i := 21) (v := undef) (op_at rfl) (by kernel_rfl) (by kernel_rfl) (by kernel_rfl) (fun _ _ _ h => h) (Or.inr ⟨by rfl, rfl⟩) (by assumption) ?_
                     try simp only [Act.put, List.setIfInBounds_toArray, List.set_cons_zero, List.set_cons_succ]
                     refine wpAnyH_take (i := 22) (v := undef) (op_at rfl) (by kernel_rfl) (by kernel_rfl) (by kernel_rfl) (fun _ _ _ h => h) (Or.inr ⟨by rfl, rfl⟩) (by assumption) ?_
                     try simp only [Act.put, List.setIfInBounds_toArray, List.set_cons_zero, List.set_cons_succ]
                     refine wpAnyH_take (i := 23) (v := undef) (op_at rfl) (by kernel_rfl) (by kernel_rfl) (by kernel_rfl) (fun _ _ _ h => h) (Or.inr ⟨by rfl, rfl⟩) (by assumption) ?_
                     try simp only [Act.put, List.setIfInBounds_toArray, List.set_cons_zero, List.set_cons_succ]
                     refine wpAnyH_take (i := 24) (v := undef) (op_at rfl) (by kernel_rfl) (by kernel_rfl) (by kernel_rfl) (fun _ _ _ h => h) (Or.inr ⟨by rfl, rfl⟩) (by assumption) ?_
                     try simp only [Act.put, List.setIfInBounds_toArray, List.set_cons_zero, List.set_cons_succ]
                     refine wpAnyH_take (i := 25) (v := undef) (op_at rfl) (by kernel_rfl) (by kernel_rfl) (by kernel_rfl) (fun _ _ _ h => h) (Or.inr ⟨by rfl, rfl⟩) (by assumption) ?_
                     try simp only [Act.put, List.setIfInBounds_toArray, List.set_cons_zero, List.set_cons_succ]
                     refine' wpAnyH_take (i := 26) (v := _) (op_at rfl) (by kernel_rfl) (by kernel_rfl) (by kernel_rfl) (fun _ _ _ h => h) (Or.inl ⟨by rfl, ?hy213⟩) (by assumption) ?rest213
                     case hy213 =>
                       intro w' hS
                       go_simp
                       try with_reducible rfl
                     try simp only [Act.put, List.setIfInBounds_toArray, List.set_cons_zero, List.set_cons_succ]
                     refine' wpAnyH_take (i := 27) (v := _) (op_at rfl) (by kernel_rfl) (by kernel_rfl) (by kernel_rfl) (fun _ _ _ h => h) (Or.inl ⟨by rfl, ?hy214⟩) (by assumption) ?rest214
                     case hy214 =>
                       intro w' hS
                       go_simp
                       try with_reducible rfl
                     try simp only [Act.put, List.setIfInBounds_toArray, List.set_cons_zero, List.set_cons_succ]
                     refine wpAnyH_done (by kernel_rfl) ?_ _
                     go_wp2_with fail
                     exact ⟨⟨k + 1, by simp, by omega, oQD⟩, by simp [intOf]; omega⟩
                   · obtain ⟨k', hk'⟩ : ∃ k', k = k' + 1 := ⟨k - 1, by omega⟩
                     have hk'q : k' < q.length := by omega
                     obtain ⟨lg', hlg, HW'⟩ := HLW.out k' hk'q
                     obtain rfl : lg' = lg := by simpa using hlg.symm
                     obtain ⟨m', hm', em', hx1, hx2⟩ := HLA.out k' hk'q
                     clear hx1 hx2
                     rw [em'] at HW'
                     replace HW' := Lib.hid HW'
                     have dk : decide (0 < (k : Int)) = true := by simp; omega
                     have dk2 : decide (0 < k) = true := by simp; omega
                     have hasc : Hid (L[m'].u < L[m].u ∨ L[m'].u = L[m].u ∧ L[m'].d < L[m].d) := by
                       show _ ∨ _
                       have := HAS.out k' (by omega)
                       have e2 : q[k' + 1]'(by omega) = q[k] := by simp [hk']
                       rw [e2, em, em'] at this
                       exact this
                     have hks : (k : Int) - 1 = (k' : Int) := by omega
                     have hwk : IntKind.i64.wrap (k' : Int) = (k' : Int) := by rw [IntKind.wrap_i64]; omega
                     have hk'i : (0 : Int) ≤ (k' : Int) ∧ (k' : Int) < q.length := by omega
                     have HK := Lib.hid hk'
                     clear hk0 hlg hk' em em'
                     refine wp_region_held_drew (S := fun w' => Only wQ.drew w' []) (by kernel_rfl) (Only.refl _ _) (fun hHeld => ?_)
                     refine' wpAnyH_take (i := 0) (v := _) (op_at rfl) (by kernel_rfl) (by kernel_rfl) (by kernel_rfl) (fun _ _ _ h => h) (Or.inl ⟨by rfl, ?hy215⟩) (by assumption) ?rest215
                     case hy215 =>
                       intro w' hS
                       go_simp
                       try with_reducible rfl
                     try simp only [Act.put, List.setIfInBounds_toArray, List.set_cons_zero, List.set_cons_succ]
                     refine' wpAnyH_take (i := 1) (v := _) (op_at rfl) (by kernel_rfl) (by kernel_rfl) (by kernel_rfl) (fun _ _ _ h => h) (Or.inl ⟨by rfl, ?hy216⟩) (by assumption) ?rest216
                     case hy216 =>
                       intro w' hS
                       go_simp
                       try with_reducible rfl
                     try simp only [Act.put, List.setIfInBounds_toArray, List.set_cons_zero, List.set_cons_succ]
                     refine' wpAnyH_take (i := 2) (v := _) (op_at rfl) (by kernel_rfl) (by kernel_rfl) (by kernel_rfl) (fun _ _ _ h => h) (Or.inl ⟨by rfl, ?hy217⟩) (by assumption) ?rest217
                     case hy217 =>
                       intro w' hS
                       go_simp
                       try with_reducible rfl
                     try simp only [Act.put, List.setIfInBounds_toArray, List.set_cons_zero, List.set_cons_succ]
                     refine' wpAnyH_take (i := 3) (v := _) (op_at rfl) (by kernel_rfl) (by kernel_rfl) (by kernel_rfl) (fun _ _ _ h => h) (Or.inl ⟨by rfl, ?hy218⟩) (by assumption) ?rest218
                     case hy218 =>
                       intro w' hS
                       go_simp
                       try with_reducible rfl
                     try simp only [Act.put, List.setIfInBounds_toArray, List.set_cons_zero, List.set_cons_succ]
                     refine' wpAnyH_take (i := 4) (v := _) (op_at rfl) (by kernel_rfl) (by kernel_rfl) (by kernel_rfl) (fun _ _ _ h => h) (Or.inl ⟨by rfl, ?hy219⟩) (by assumption) ?rest219
                     case hy219 =>
                       intro w' hS
                       obtain ⟨q0, q1⟩ := HW.out w' (oQD.trans hS)
                       rw [Hmu.out] at q0
                       go_simp
                       try with_reducible rfl
                     try simp only [Act.put, List.setIfInBounds_toArray, List.set_cons_zero, List.set_cons_succ]
                     refine' wpAnyH_take (i := 5) (v := _) (op_at rfl) (by kernel_rfl) (by kernel_rfl) (by kernel_rfl) (fun _ _ _ h => h) (Or.inl ⟨by rfl, ?hy220⟩) (by assumption) ?rest220
                     case hy220 =>
                       intro w' hS
                       go_simp
                       try with_reducible rfl
                     try simp only [Act.put, List.setIfInBounds_toArray, List.set_cons_zero, List.set_cons_succ]
                     refine' wpAnyH_take (i := 6) (v := _) (op_at rfl) (by kernel_rfl) (by kernel_rfl) (by kernel_rfl) (fun _ _ _ h => h) (Or.inl ⟨by rfl, ?hy221⟩) (by assumption) ?rest221
                     case hy221 =>
                       intro w' hS
                       go_simp
                       try with_reducible rfl
                     try simp only [Act.put, List.setIfInBounds_toArray, List.set_cons_zero, List.set_cons_succ]
                     refine' wpAnyH_take (i := 7) (v := _) (op_at rfl) (by kernel_rfl) (by kernel_rfl) (by kernel_rfl) (fun _ _ _ h => h) (Or.inl ⟨by rfl, ?hy222⟩) (by assumption) ?rest222
                     case hy222 =>
                       intro w' hS
                       go_simp
                       try with_reducible rfl
                     try simp only [Act.put, List.setIfInBounds_toArray, List.set_cons_zero, List.set_cons_succ]
                     refine' wpAnyH_take (i := 8) (v := _) (op_at rfl) (by kernel_rfl) (by kernel_rfl) (by kernel_rfl) (fun _ _ _ h => h) (Or.inl ⟨by rfl, ?hy223⟩) (by assumption) ?rest223
                     case hy223 =>
                       intro w' hS
                       go_simp
                       try with_reducible rfl
                     try simp only [Act.put, List.setIfInBounds_toArray, List.set_cons_zero, List.set_cons_succ]
                     refine' wpAnyH_take (i := 9) (v := _) (op_at rfl) (by kernel_rfl) (by kernel_rfl) (by kernel_rfl) (fun _ _ _ h => h) (Or.inl ⟨by rfl, ?hy224⟩) (by assumption) ?rest224
                     case hy224 =>
                       intro w' hS
                       have hH_ := ((Only.drew wQ []).trans hS).at hH (by simp)
                       have y5 := (cell_in hH_ 5).trans g5
                       go_simp
                       try with_reducible rfl
                     try simp only [Act.put, List.setIfInBounds_toArray, List.set_cons_zero, List.set_cons_succ]
                     refine' wpAnyH_take (i := 10) (v := _) (op_at rfl) (by kernel_rfl) (by kernel_rfl) (by kernel_rfl) (fun _ _ _ h => h) (Or.inl ⟨by rfl, ?hy225⟩) (by assumption) ?rest225
                     case hy225 =>
                       intro w' hS
                       go_simp
                       try with_reducible rfl
                     try simp only [Act.put, List.setIfInBounds_toArray, List.set_cons_zero, List.set_cons_succ]
                     refine' wpAnyH_take (i := 11) (v := _) (op_at rfl) (by kernel_rfl) (by kernel_rfl) (by kernel_rfl) (fun _ _ _ h => h) (Or.inl ⟨by rfl, ?hy226⟩) (by assumption) ?rest226
                     case hy226 =>
                       intro w' hS
                       go_simp
                       try with_reducible rfl
                     try simp only [Act.put, List.setIfInBounds_toArray, List.set_cons_zero, List.set_cons_succ]
                     refine' wpAnyH_take (i := 12) (v := _) (op_at rfl) (by kernel_rfl) (by kernel_rfl) (by kernel_rfl) (fun _ _ _ h => h) (Or.inl ⟨by rfl, ?hy227⟩) (by assumption) ?rest227
                     case hy227 =>
                       intro w' hS
                       go_simp
                       try with_reducible rfl
                     try simp only [Act.put, List.setIfInBounds_toArray, List.set_cons_zero, List.set_cons_succ]
                     refine' wpAnyH_take (i := 13) (v := _) (op_at rfl) (by kernel_rfl) (by kernel_rfl) (by kernel_rfl) (fun _ _ _ h => h) (Or.inl ⟨by rfl, ?hy228⟩) (by assumption) ?rest228
                     case hy228 =>
                       intro w' hS
                       go_simp
                       try with_reducible rfl
                     try simp only [Act.put, List.setIfInBounds_toArray, List.set_cons_zero, List.set_cons_succ]
                     refine' wpAnyH_take (i := 14) (v := _) (op_at rfl) (by kernel_rfl) (by kernel_rfl) (by kernel_rfl) (fun _ _ _ h => h) (Or.inl ⟨by rfl, ?hy229⟩) (by assumption) ?rest229
                     case hy229 =>
                       intro w' hS
                       go_simp
                       try with_reducible rfl
                     try simp only [Act.put, List.setIfInBounds_toArray, List.set_cons_zero, List.set_cons_succ]
                     refine' wpAnyH_take (i := 15) (v := _) (op_at rfl) (by kernel_rfl) (by kernel_rfl) (by kernel_rfl) (fun _ _ _ h => h) (Or.inl ⟨by rfl, ?hy230⟩) (by assumption) ?rest230
                     case hy230 =>
                       intro w' hS
                       go_simp
                       try with_reducible rfl
                     try simp only [Act.put, List.setIfInBounds_toArray, List.set_cons_zero, List.set_cons_succ]
                     refine' wpAnyH_take (i := 16) (v := _) (op_at rfl) (by kernel_rfl) (by kernel_rfl) (by kernel_rfl) (fun _ _ _ h => h) (Or.inl ⟨by rfl, ?hy231⟩) (by assumption) ?rest231
                     case hy231 =>
                       intro w' hS
                       go_simp
                       try with_reducible rfl
                     try simp only [Act.put, List.setIfInBounds_toArray, List.set_cons_zero, List.set_cons_succ]
                     refine' wpAnyH_take (i := 17) (v := _) (op_at rfl) (by kernel_rfl) (by kernel_rfl) (by kernel_rfl) (fun _ _ _ h => h) (Or.inl ⟨by rfl, ?hy232⟩) (by assumption) ?rest232
                     case hy232 =>
                       intro w' hS
                       go_simp
                       try with_reducible rfl
                     try simp only [Act.put, List.setIfInBounds_toArray, List.set_cons_zero, List.set_cons_succ]
                     refine' wpAnyH_take (i := 18) (v := _) (op_at rfl) (by kernel_rfl) (by kernel_rfl) (by kernel_rfl) (fun _ _ _ h => h) (Or.inl ⟨by rfl, ?hy233⟩) (by assumption) ?rest233
                     case hy233 =>
                       intro w' hS
                       go_simp
                       try with_reducible rfl
                     try simp only [Act.put, List.setIfInBounds_toArray, List.set_cons_zero, List.set_cons_succ]
                     refine' wpAnyH_take (i := 19) (v := _) (op_at rfl) (by kernel_rfl) (by kernel_rfl) (by kernel_rfl) (fun _ _ _ h => h) (Or.inl ⟨by rfl, ?hy234⟩) (by assumption) ?rest234
                     case hy234 =>
                       intro w' hS
                       obtain ⟨q0, q1⟩ := HW'.out w' (oQD.trans hS)
                       go_simp
                       try with_reducible rfl
                     try simp only [Act.put, List.setIfInBounds_toArray, List.set_cons_zero, List.set_cons_succ]
                     refine' wpAnyH_take (i := 20) (v := _) (op_at rfl) (by kernel_rfl) (by kernel_rfl) (by kernel_rfl) (fun _ _ _ h => h) (Or.inl ⟨by rfl, ?hy235⟩) (by assumption) ?rest235
                     case hy235 =>
                       intro w' hS
                       go_simp
                       try with_reducible rfl
                     try simp only [Act.put, List.setIfInBounds_toArray, List.set_cons_zero, List.set_cons_succ]
                     refine' wpAnyH_take (i := 21) (v := _) (op_at rfl) (by kernel_rfl) (by kernel_rfl) (by kernel_rfl) (fun _ _ _ h => h) (Or.inl ⟨by rfl, ?hy236⟩) (by assumption) ?rest236
                     case hy236 =>
                       intro w' hS
                       go_simp
                       try with_reducible rfl
                     try simp only [Act.put, List.setIfInBounds_toArray, List.set_cons_zero, List.set_cons_succ]
                     refine' wpAnyH_take (i := 22) (v := _) (op_at rfl) (by kernel_rfl) (by kernel_rfl) (by kernel_rfl) (fun _ _ _ h => h) (Or.inl ⟨by rfl, ?hy237⟩) (by assumption) ?rest237
                     case hy237 =>
                       intro w' hS
                       go_simp
                       try with_reducible rfl
                     try simp only [Act.put, List.setIfInBounds_toArray, List.set_cons_zero, List.set_cons_succ]
                     refine' wpAnyH_take (i := 23) (v := _) (op_at rfl) (by kernel_rfl) (by kernel_rfl) (by kernel_rfl) (fun _ _ _ h => h) (Or.inl ⟨by rfl, ?hy238⟩) (by assumption) ?rest238
                     case hy238 =>
                       intro w' hS
                       obtain ⟨q0, q1⟩ := HW.out w' (oQD.trans hS)
                       go_simp
                       try with_reducible rfl
                     try simp only [Act.put, List.setIfInBounds_toArray, List.set_cons_zero, List.set_cons_succ]
                     refine wpAnyH_ready (rs := [24]) (by kernel_rfl) (by simp) (AllReadyH.cons (op_at rfl) (fun K hK => ?_) AllReadyH.nil)
                     go_simp
                     refine (ahead_l L[m'].u L[m'].d L[m].u L[m].d true (by simpa using hasc.out) _).mono fun e w5 hq => ?_
                     obtain ⟨rfl, o5⟩ := hq
                     go_wp2_with fail
                     refine hK.out _ _ o5 (fun hHeld => ?_)
                     clear hK K
                     try simp only [Act.put, List.setIfInBounds_toArray, List.set_cons_zero, List.set_cons_succ]
                     refine' wpAnyH_take (i := 25) (v := _) (op_at rfl) (by kernel_rfl) (by kernel_rfl) (by kernel_rfl) (fun _ _ _ h => h) (Or.inl ⟨by rfl, ?hy239⟩) (by assumption) ?rest239
                     case hy239 =>
                       intro w' hS
                       go_simp
                       try with_reducible rfl
                     try simp only [Act.put, List.setIfInBounds_toArray, List.set_cons_zero, List.set_cons_succ]
                     refine' wpAnyH_take (i := 26) (v := _) (op_at rfl) (by kernel_rfl) (by kernel_rfl) (by kernel_rfl) (fun _ _ _ h => h) (Or.inl ⟨by rfl, ?hy240⟩) (by assumption) ?rest240
                     case hy240 =>
                       intro w' hS
                       go_simp
                       try with_reducible rfl
                     try simp only [Act.put, List.setIfInBounds_toArray, List.set_cons_zero, List.set_cons_succ]
                     refine' wpAnyH_take (i := 27) (v := _) (op_at rfl) (by kernel_rfl) (by kernel_rfl) (by kernel_rfl) (fun _ _ _ h => h) (Or.inl ⟨by rfl, ?hy241⟩) (by assumption) ?rest241
                     case hy241 =>
                       intro w' hS
                       go_simp
                       try with_reducible rfl
                     try simp only [Act.put, List.setIfInBounds_toArray, List.set_cons_zero, List.set_cons_succ]
                     refine wpAnyH_done (by kernel_rfl) ?_ _
                     go_wp2_with fail
                     exact ⟨⟨k + 1, by simp, by omega, oQD.trans o5⟩, by simp [intOf]; omega⟩
                 · obtain rfl : k = q.length := by omega
                   have d2 : decide ((q.length : Int) < q.length) = false := by simp
                   have oF := oL.trans oW
                   go_wp2_with fail
                   go_roundw
                   case measure => simp [intOf]; omega
                   case rel => exact ⟨u + 1, by simp, by omega, oF⟩
         · obtain rfl : u = 3 := by omega
           have du : decide (((3 : Nat) : Int) < 3) = false := by decide
           rw [show ((3 : Nat) : Int) = 3 from rfl] at *
           go_wp2_with fail
           go_ret
           exact ⟨rfl, o1.trans oU⟩

end Go.Proofs.Ytdlbkdnpbcpjfaa
