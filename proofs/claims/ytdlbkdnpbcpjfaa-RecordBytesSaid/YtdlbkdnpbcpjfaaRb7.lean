/- chain.Read. Printed by gen_rb7.py. -/
import Derived.Test.YtdlbkdnpbcpjfaaRbE
set_option linter.unusedSimpArgs false
set_option linter.unusedVariables false
namespace Go.Proofs.Ytdlbkdnpbcpjfaa
open Go.RowKit Go.Pw
set_option linter.unusedVariables false

/-- What chain.Read answers. -/
def RdSto (R : Nat) (p : Value) (s : List Int × Bool) (w : World) (e : Ending) (w' : World) : Prop :=
  ∃ r s', pStore s = (r, s') ∧ RT R p s' w w' ∧ match r with
    | some l' => ∃ S l, e = .returned (.tuple #[.pointer (some ⟨S, 0, none⟩), .bool true]) ∧ StoI w.heap.size w'.heap.size w' (some S) l ∧ l.map Sk.c = l' ∧ l.length ≤ 32
    | none => ∃ q, e = .returned (.tuple #[.pointer q, .bool false])

set_option maxRecDepth 100000 in
set_option maxHeartbeats 3200000 in
theorem sread_any {R : Nat} {p : Value} {s : List Int × Bool} {w : World} (h : RT R p s w w) :
    Calls Try.prog 86 #[.pointer (some ⟨R, 0, none⟩)] w (RdSto R p s w) := by
  obtain ⟨i0, hi0, hz0, hz1, hz2⟩ := info_parts sk_info
  have hRl := h.rlt
  go_enter Try.func86, Try.ntmps86
  go_wp2_with (refine wpList_box_new rfl 154 _ rfl (.agg #[.slice none 0 0]) rfl ?_; intro S wS oS hSl hS)
  refine (rcount_rt (h.new oS).here 32 (by omega)).mono ?_
  rintro e w1 ⟨c, s1, Hc, rfl, hc32, rt1⟩
  have hSR : S ∉ [R] := by simp; omega
  have hS1 : w1.heap[S]? = some (.cells #[.slice none 0 0] 154 (0, 0)) := rt1.only.at hS hSR
  have rtA := (h.new oS).back rt1
  have Hst : Hid (pStore s = fin (pSks c [] s1)) := by
    show _ = _
    rw [pStore, (pC_nat Hc.out).1, (pC_nat Hc.out).2]
  clear rt1 hS h Hc
  go_wp2_with fail
  go_loopw [10] (fun y wr => ∃ (i : Nat) (l : List Sk) (v : Value) (s2 : List Int × Bool), y = .int .i64 i ∧ i ≤ c ∧ Hid (l.length = i) ∧ Hid (pSks (c - i) (l.map Sk.c) s2 = pSks c [] s1) ∧ RT R p s2 w wr ∧ wr.heap[S]? = some (.cells #[v] 154 (0, 0)) ∧ wr.ownsRow 0 151 3 v l.length (fl skc l) ∧ Hid (∀ k, v.ownBlock = some k → w.heap.size ≤ k ∧ k ≠ S) ∧ Hid (∀ x ∈ l, EI w.heap.size v S wr fun a b w => SkI a b w x)) (fun y _ => c - (intOf y).toNat)
  case atStart => exact ⟨0, [], .slice none 0 0, s1, rfl, Nat.zero_le _, rfl, rfl, rtA, hS1, World.ownsRow_nil _ _ _ _, fun k hk => by simp [Value.ownBlock] at hk, fun x hx => by simp at hx⟩
  case round =>
    clear hS1 rtA
    obtain ⟨i, l, v, s2, rfl, hi, Hl, HP, rt, hSr, hrow, Hv, HE⟩ := hrel
    have hl32 : l.length ≤ 32 := by have := Hl.out; omega
    by_cases hic : i < c
    · have d1 : decide ((i : Int) < c) = true := by simpa using hic
      have hRr : R < wr.heap.size := Nat.lt_of_lt_of_le hRl rt.only.size
      go_wp2_with fail
      refine (rbytes_rt rt.here).mono ?_
      rintro e w2 ⟨v1, xs1, s3, H3, rfl, g1, hl1, rt3⟩
      obtain ⟨a1, c1, rfl⟩ := g1.1
      go_wp2_with fail
      refine (rnum_rt rt3.here).mono ?_
      rintro e w3 ⟨n2, s4, H4, rfl, n20, n21, rt4⟩
      have hn2 : IntKind.u32.wrap n2 = n2 := wrap_u32 ⟨n20, n21⟩
      go_wp2_with fail
      refine (rbytes_rt rt4.here).mono ?_
      rintro e w4 ⟨v3, xs3, s5, H5, rfl, g3, hl3, rt5⟩
      obtain ⟨a3, c3, rfl⟩ := g3.1
      have o24 := rt4.only.trans rt5.only
      have o4 := rt3.only.trans o24
      have rtE : RT R p s5 w w4 := rt.back ((rt3.back rt4).back rt5)
      have gx : RdI wr.heap.size w4.heap.size w4 (.slice a1 xs1.length c1) xs1 := (g1.next o24 (by simpa using hRr)).rdI hl1
      have gz : RdI wr.heap.size w4.heap.size w4 (.slice a3 xs3.length c3) xs3 := (g3.mono (rt3.only.trans rt4.only).size).rdI hl3
      have hpSk : Hid (pSk s2 = (⟨xs1, n2, xs3⟩, s5)) := by
        show _ = _
        simp only [pSk, H3.out, H4.out, H5.out]
      have hVR : ∀ k, v.ownBlock = some k → k ∉ [R] := fun k hk => by have := (Hv.out k hk).1; simp; omega
      have hrow4 := own_only hrow o4 (fun k hk hm => hVR k hk hm)
      have hS4 := o4.at hSr hSR
      have hE4 : Hid (∀ x ∈ l, EI w.heap.size v S w4 fun a b w => SkI a b w x) := fun x hx => (HE.out x hx).keep (kp_sk x) o4 fun k hk => .inl (by simp at hk; omega)
      have hvl := own_lt hrow
      have Hvl := Lib.hid hvl
      have hSl : S < wr.heap.size := (Array.getElem?_eq_some_iff.1 hSr).1
      have hoc : ([.slice a1 xs1.length c1, .int .u32 n2, .slice a3 xs3.length c3] : List Value).toArray.all (·.oneCell') = true := by simp [Value.oneCell']
      have hU : U32 n2 := ⟨n20, n21⟩
      have hwr : w.heap.size ≤ wr.heap.size := rt.only.size
      clear g1 g3 rt3 rt4 rt5 o24 HE hvl hrow hSr H3 H4 H5 n20 n21 rt
      go_upto_region 5 with (first
        | (refine wpList_alloc_new rfl 151 rfl (.agg #[.slice none 0 0, .int .u32 0, .slice none 0 0]) (fun _ => by kernel_rfl) ?_; intro X wX oX hXl hX)
        | (refine wpList_store_blk rfl 151 _ _ rfl X [.slice a1 xs1.length c1, .int .u32 n2, .slice a3 xs3.length c3] rfl rfl hX rfl (by kernel_rfl) hoc ?_; intro w5 oY hX5; have o45 := oX.new oY (fun i hi => by simp only [List.mem_singleton] at hi; omega); clear oX oY hX))
      have x0_ : w5.cell? ⟨X, 0, none⟩ = some (.slice a1 xs1.length c1) := cell_in hX5 0
      have x1_ : w5.cell? ⟨X, 1, none⟩ = some (.int .u32 n2) := cell_in hX5 1
      have hS5 := o45.at hS4 (by simp)
      have hrow5 := own_only hrow4 o45 (fun _ _ => by simp)
      have gx5 := gx.keep o45 (by simp)
      have hE5 : Hid (∀ x ∈ l, EI w.heap.size v S w5 fun a b w => SkI a b w x) := fun x hx => (hE4.out x hx).keep (kp_sk x) o45 (by simp)
      have hfind := sfind_any S v (.slice a1 xs1.length c1) l xs1 n2 w5 hS5 (own_src hrow5) (by omega) (fun x hx => by have := (hE5.out x hx).fin (kp_sk x); exact ⟨this.o.1, this.o.2.2.2⟩) gx5.1 gx5.2.2.2
      have rtF := rtE.new o45
      have hnn := idxP_nn (fun x : Sk => sameK xs1 n2 x.c) l
      generalize idxP (fun x : Sk => sameK xs1 n2 x.c) l = r at *
      clear hS4 hrow4 hE4 gx rtE
      cases hany : l.any (fun x : Sk => sameK xs1 n2 x.c) with
      | true =>
        rw [hany] at hnn
        have Hany := Lib.hid hany
        clear hany
        go_wp2_with fail
        refine hfind.mono ?_
        rintro e w6 ⟨rfl, o6⟩
        clear x0_ x1_ hfind
        go_wp2_with fail
        refine bodyPost_ret (v := .tuple #[.pointer none, .bool false]) (by simp [results, Try.results86, go_sem]) rfl ?_
        refine ⟨none, s5, ?_, rtF.new o6, none, rfl⟩
        rw [Hst.out, ← HP.out, show c - i = (c - i - 1) + 1 by omega, pSks, hpSk.out, if_pos (by rw [List.any_map]; exact Hany.out)]
        unfold fin
        split <;> rfl
      | false =>
        rw [hany] at hnn
        have Hany := Lib.hid hany
        clear hany
        go_wp2_with fail
        refine hfind.mono ?_
        rintro e w6 ⟨rfl, o6⟩
        clear x0_ x1_ hfind
        have hS6 : w6.drew.heap[S]? = some (.cells #[v] 154 (0, 0)) := o6.at hS5 (by simp)
        have hX6 : w6.drew.heap[X]? = some (.cells #[.slice a1 xs1.length c1, .int .u32 n2, .slice a3 xs3.length c3] 151 (0, 0)) := o6.at hX5 (by simp)
        have hrow6 : w6.drew.ownsRow 0 151 3 v l.length (fl skc l) := own_only hrow5 (o6.trans (Only.drew w6 [])) (fun _ _ => by simp)
        have hSn : S ∉ v.ownBlock.toList := fun hm => (Hv.out S (by simpa using hm)).2 rfl
        have hXn : X ∉ v.ownBlock.toList := fun hm => by have := Hvl.out X (by simpa using hm); have := o4.size; omega
        have rtG := rtF.new (o6.trans (Only.drew w6 []))
        have gz6 := (gz.keep o45 (by simp)).keep (o6.trans (Only.drew w6 [])) (by simp)
        have gx6 := gx5.keep (o6.trans (Only.drew w6 [])) (by simp)
        have hE6 : Hid (∀ x ∈ l, EI w.heap.size v S w6.drew fun a b w => SkI a b w x) := fun x hx => (hE5.out x hx).keep (kp_sk x) (o6.trans (Only.drew w6 [])) (by simp)
        clear hS5 hX5 hrow5 gx5 gz hE5 rtF
        go_upto_region 7 with fail
        refine wp_region_t (S := fun w' => Only w6.drew w' v.ownBlock.toList) 10 (by kernel_rfl) (by kernel_rfl) (Only.refl _ _) (fun hZ hHeld => ?_)
        refine' wpAnyT_take (i := 0) (v := _) hZ (op_at' rfl) (by rfl) (by kernel_rfl) (by kernel_rfl) (by kernel_rfl) (by kernel_rfl) (fun _ _ _ h => h) (Or.inl ⟨by rfl, ?hy1⟩) (by assumption) ?rest1
        case hy1 =>
          intro w' hS
          go_simp
          try with_reducible rfl
        try simp only [Act.put, List.setIfInBounds_toArray, List.set_cons_zero, List.set_cons_succ]
        refine' wpAnyT_take (i := 1) (v := _) hZ (op_at' rfl) (by rfl) (by kernel_rfl) (by kernel_rfl) (by kernel_rfl) (by kernel_rfl) (fun _ _ _ h => h) (Or.inl ⟨by rfl, ?hy2⟩) (by assumption) ?rest2
        case hy2 =>
          intro w' hS
          go_simp
          try with_reducible rfl
        try simp only [Act.put, List.setIfInBounds_toArray, List.set_cons_zero, List.set_cons_succ]
        refine' wpAnyT_take (i := 2) (v := _) hZ (op_at' rfl) (by rfl) (by kernel_rfl) (by kernel_rfl) (by kernel_rfl) (by kernel_rfl) (fun _ _ _ h => h) (Or.inl ⟨by rfl, ?hy3⟩) (by assumption) ?rest3
        case hy3 =>
          intro w' hS
          go_simp
          try with_reducible rfl
        try simp only [Act.put, List.setIfInBounds_toArray, List.set_cons_zero, List.set_cons_succ]
        refine' wpAnyT_take (i := 3) (v := _) hZ (op_at' rfl) (by rfl) (by kernel_rfl) (by kernel_rfl) (by kernel_rfl) (by kernel_rfl) (fun _ _ _ h => h) (Or.inl ⟨by rfl, ?hy4⟩) (by assumption) ?rest4
        case hy4 =>
          intro w' hS
          go_simp
          try with_reducible rfl
        try simp only [Act.put, List.setIfInBounds_toArray, List.set_cons_zero, List.set_cons_succ]
        refine' wpAnyT_take (i := 4) (v := _) hZ (op_at' rfl) (by rfl) (by kernel_rfl) (by kernel_rfl) (by kernel_rfl) (by kernel_rfl) (fun _ _ _ h => h) (Or.inl ⟨by rfl, ?hy5⟩) (by assumption) ?rest5
        case hy5 =>
          intro w' hS
          have q_ := cell_of_one (hS.at hS6 hSn)
          go_simp
          try with_reducible rfl
        try simp only [Act.put, List.setIfInBounds_toArray, List.set_cons_zero, List.set_cons_succ]
        refine' wpAnyT_take (i := 5) (v := _) hZ (op_at' rfl) (by rfl) (by kernel_rfl) (by kernel_rfl) (by kernel_rfl) (by kernel_rfl) (fun _ _ _ h => h) (Or.inl ⟨by rfl, ?hy6⟩) (by assumption) ?rest6
        case hy6 =>
          intro w' hS
          have x_ := hS.at hX6 hXn
          have x0_ : w'.cell? ⟨X, 0, none⟩ = some (.slice a1 xs1.length c1) := cell_in x_ 0
          have x1_ : w'.cell? ⟨X, 1, none⟩ = some (.int .u32 n2) := cell_in x_ 1
          have x2_ : w'.cell? ⟨X, 2, none⟩ = some (.slice a3 xs3.length c3) := cell_in x_ 2
          go_simp
          try with_reducible rfl
        try simp only [Act.put, List.setIfInBounds_toArray, List.set_cons_zero, List.set_cons_succ]
        refine wpAnyT_one (i := 6) (by kernel_rfl) (op_at' rfl) (fun K hK => ?_)
        refine step_buildSlice_one (by rfl) 148 _ (by rfl) 151 i0 _ [.slice a1 xs1.length c1, .int .u32 n2, .slice a3 xs3.length c3] (by rfl) Try.underlying148 hi0 hz0 hz1 rfl (by simp) (by simp) (fun Y w7 o7 hYl hY7 => ?_)
        go_wp2_with fail
        refine hK.out _ _ (o7.mono (by simp)) (fun hHeld => ?_)
        clear hK K
        try simp only [Act.put, List.setIfInBounds_toArray, List.set_cons_zero, List.set_cons_succ]
        refine wpAnyT_one (i := 7) (by kernel_rfl) (op_at' rfl) (fun K hK => ?_)
        refine step_append_src (by rfl) _ _ 148 (by rfl) 151 i0 _ 3 56 Try.underlying148 hi0 hz0 hz1 hz2 rfl (by decide) v l.length _ (by rfl) (own_only hrow6 o7 (fun _ _ => by simp)) _ 1 [.slice a1 xs1.length c1, .int .u32 n2, .slice a3 xs3.length c3] (by rfl) (src_blk hY7 (by rfl)) (by simp [Value.oneCell']) (by unfold maxLen; omega) (by omega) (fun v8 w8 g1 g2 g3 => ?_)
        obtain ⟨a8, c8, rfl⟩ := own_slice g1
        have o8 : Only w7 w8 v.ownBlock.toList := Only.grown g2 (fun k hk => by simp [hk])
        go_wp2_with fail
        refine hK.out _ _ ((o7.mono (by simp)).trans o8) (fun hHeld => ?_)
        clear hK K
        try simp only [Act.put, List.setIfInBounds_toArray, List.set_cons_zero, List.set_cons_succ]
        refine' wpAnyT_take (i := 8) (v := _) hZ (op_at' rfl) (by rfl) (by kernel_rfl) (by kernel_rfl) (by kernel_rfl) (by kernel_rfl) (fun _ _ _ h => h) (Or.inl ⟨by rfl, ?hy7⟩) (by assumption) ?rest7
        case hy7 =>
          intro w' hS
          go_simp
          try with_reducible rfl
        try simp only [Act.put, List.setIfInBounds_toArray, List.set_cons_zero, List.set_cons_succ]
        refine' wpAnyT_take (i := 9) (v := _) hZ (op_at' rfl) (by rfl) (by kernel_rfl) (by kernel_rfl) (by kernel_rfl) (by kernel_rfl) (fun _ _ _ h => h) (Or.inl ⟨by rfl, ?hy8⟩) (by assumption) ?rest8
        case hy8 =>
          intro w' hS
          go_simp
          try with_reducible rfl
        try simp only [Act.put, List.setIfInBounds_toArray, List.set_cons_zero, List.set_cons_succ]
        refine wpAnyT_last (by kernel_rfl) (op_at' rfl) (by kernel_rfl) (fun K hK => ?_)
        have q8_ := cell_of_one (((o7.mono (by simp)).trans o8).at hS6 hSn)
        have f8_ := free_of_one (((o7.mono (by simp)).trans o8).at hS6 hSn)
        go_simp
        go_wp2_with fail
        refine hK.out _ _ ?_
        clear hK K
        try simp only [Act.put, List.setIfInBounds_toArray, List.set_cons_zero, List.set_cons_succ]
        have oA : Only w6.drew w8 v.ownBlock.toList := (o7.mono (by simp)).trans o8
        have oB : Only w8 (w8.setCell ⟨S, 0, none⟩ (Value.slice a8 (l.length + 1) c8)) [S] := Only.setCell w8 _ (Value.slice a8 (l.length + 1) c8) [S] (by simp)
        have oC : Only w6.drew (w8.setCell ⟨S, 0, none⟩ (Value.slice a8 (l.length + 1) c8)) (S :: v.ownBlock.toList) := (oA.mono (by simp +contextual)).trans (oB.mono (by simp +contextual))
        have hLC : ∀ k ∈ S :: v.ownBlock.toList, w.heap.size ≤ k := fun k hk => by
          rcases List.mem_cons.1 hk with e | e
          · omega
          · exact (Hv.out k (by simpa using e)).1
        have hLr : ∀ k ∈ S :: v.ownBlock.toList, k < wr.heap.size := fun k hk => by
          rcases List.mem_cons.1 hk with e | e
          · omega
          · exact Hvl.out k (by simpa using e)
        have hrz : wr.heap.size ≤ w4.heap.size := o4.size
        have h46 : w4.heap.size ≤ w6.drew.heap.size := (o45.trans (o6.trans (Only.drew w6 []))).size
        have h67 : w6.drew.heap.size ≤ w7.heap.size := o7.size
        have hv8 : ∀ k, (Value.slice a8 (l.length + 1) c8).ownBlock = some k → (k < wr.heap.size ∧ v.ownBlock = some k) ∨ w7.heap.size ≤ k := fun k hk => (g3 k hk).imp (fun e => ⟨Hvl.out k e, e⟩) id
        have hv8S : S ∉ (Value.slice a8 (l.length + 1) c8).ownBlock.toList := fun hm => by
          rcases hv8 S (by simpa using hm) with e | e
          · exact (Hv.out S e.2).2 rfl
          · omega
        have HR : Hid (RT R p s5 w (w8.setCell ⟨S, 0, none⟩ (Value.slice a8 (l.length + 1) c8))) := rtG.keep oC hLC
        have HS : Hid ((w8.setCell ⟨S, 0, none⟩ (Value.slice a8 (l.length + 1) c8)).heap[S]? = some (.cells #[(Value.slice a8 (l.length + 1) c8)] 154 (0, 0))) := set_one (oA.at hS6 hSn)
        have HO : Hid ((w8.setCell ⟨S, 0, none⟩ (Value.slice a8 (l.length + 1) c8)).ownsRow 0 151 3 (Value.slice a8 (l.length + 1) c8) (l.length + 1) (fl skc l ++ [.slice a1 xs1.length c1, .int .u32 n2, .slice a3 xs3.length c3])) := own_only g1 oB (fun k hk hm => by
          rw [List.mem_singleton] at hm
          exact hv8S (by rw [← hm]; simp [hk]))
        have HV8 : Hid (∀ k, (Value.slice a8 (l.length + 1) c8).ownBlock = some k → w.heap.size ≤ k ∧ k ≠ S) := fun k hk => ⟨by
          rcases hv8 k hk with e | e
          · exact (Hv.out k e.2).1
          · have := rtG.only.size; omega, fun e => hv8S (by rw [← e]; simp [hk])⟩
        have HE8 : Hid (∀ y ∈ l ++ [(⟨⟨xs1, n2, xs3⟩, .slice a1 xs1.length c1, .slice a3 xs3.length c3, ⟨rfl, rfl⟩⟩ : Sk)], EI w.heap.size (Value.slice a8 (l.length + 1) c8) S (w8.setCell ⟨S, 0, none⟩ (Value.slice a8 (l.length + 1) c8)) fun a b w => SkI a b w y) := fun y hy => by
          rcases List.mem_append.1 hy with hy | hy
          · exact (hE6.out y hy).app (kp_sk y) oC (fun k hk => by
              rcases List.mem_cons.1 hk with e | e
              · exact .inr (.inr (.inl e))
              · exact .inr (.inl (by simpa using e))) g3 h67
          · rw [List.mem_singleton] at hy
            subst hy
            have hL2 : ∀ k ∈ S :: v.ownBlock.toList, k < wr.heap.size ∨ w4.heap.size ≤ k := fun k hk => .inl (hLr k hk)
            exact ⟨wr.heap.size, w4.heap.size, hwr, Nat.le_trans h46 oC.size, fun k hk => (hv8 k hk).imp (fun e => e.1) (fun e => by omega), .inl hSl, gx6.keep oC hL2, gz6.keep oC hL2, hU⟩
        have HPn : Hid (pSks (c - (i + 1)) ((l ++ [(⟨⟨xs1, n2, xs3⟩, .slice a1 xs1.length c1, .slice a3 xs3.length c3, ⟨rfl, rfl⟩⟩ : Sk)]).map Sk.c) s5 = pSks c [] s1) := by
          show _ = _
          rw [← HP.out, show c - i = (c - (i + 1)) + 1 by omega, pSks, hpSk.out, if_neg (by rw [List.any_map]; simpa using Hany.out), List.map_append]
          rfl
        clear hHeld g1 g2 g3 o8 o7 oA oB oC
        go_wp2_with fail
        exact ⟨⟨i + 1, _, _, s5, by simp, by omega, by show _ = _; rw [List.length_append, Hl.out]; rfl, HPn, HR.out, HS.out, by rw [List.length_append, fl_snoc]; exact HO.out, HV8, HE8⟩, by simp [intOf]; omega⟩
    · obtain rfl : i = c := by omega
      have d1 : decide ((i : Int) < i) = false := by simp
      have hfs : Hid (pStore s = fin (some (l.map Sk.c), s2)) := by
        show _ = _
        rw [Hst.out, ← HP.out, Nat.sub_self, pSks]
      have hbad := rbad_rt rt
      have hsz := own_lt hrow
      have hSto : Hid (StoI w.heap.size wr.heap.size wr (some S) l) := ⟨hSl, (Array.getElem?_eq_some_iff.1 hSr).1, v, hSr, ⟨own_src hrow, fun k hk => ⟨(Hv.out k hk).1, hsz k hk⟩⟩, fun x hx => (HE.out x hx).fin (kp_sk x)⟩
      have Hrt := rt
      clear HE hrow hSr Hv hsz HP Hl
      go_wp2_with fail
      refine hbad.mono ?_
      rintro e w2 ⟨rfl, rfl⟩
      clear hbad
      cases hb : s2.2 with
      | true =>
        go_wp2_with fail
        refine bodyPost_ret (v := .tuple #[.pointer (some ⟨S, 0, none⟩), .bool false]) (by simp [results, Try.results86, go_sem]) rfl ?_
        exact ⟨none, s2, by rw [hfs.out]; simp [fin, hb], Hrt, _, rfl⟩
      | false =>
        go_wp2_with fail
        refine bodyPost_ret (v := .tuple #[.pointer (some ⟨S, 0, none⟩), .bool true]) (by simp [results, Try.results86, go_sem]) rfl ?_
        exact ⟨some (l.map Sk.c), s2, by rw [hfs.out]; simp [fin, hb], Hrt, S, l, rfl, hSto.out, rfl, hl32⟩
end Go.Proofs.Ytdlbkdnpbcpjfaa
