/- session.Read. Printed by gen_rb9.py. -/
import Derived.Test.YtdlbkdnpbcpjfaaRb8
set_option linter.unusedSimpArgs false
set_option linter.unusedVariables false
namespace Go.Pw
open Go.RowKit
set_option linter.unusedVariables false
theorem step_store_at {P : Program} {ops : Array Oper} {o : Oper} {a : Act} {w : World} {K : Act → World → Prop} {Q : Exit → Act → World → Prop} {E : Prop}
    (hg : o.guard = none) (ty : TypeId) (x y : Operand) (hop : o.op = .store ty x y) (b off : Nat) (cells : List Value) (hx : a.eval x = .pointer (some ⟨b, off, none⟩)) (hy : a.eval y = .agg cells.toArray) {old : List Value} {t : TypeId} (hc : w.heap[b]? = some (.cells old.toArray t (0, 0)))
    (hs : off + cells.length ≤ old.length) (hi : (P.info? ty).map (·.size) = some cells.length) (h1 : ∀ u ∈ cells, u.oneCell' = true)
    (hK : ∀ w', Only w w' [b] → w'.heap[b]? = some (.cells (setL old off cells).toArray t (0, 0)) → K (a.put o.dst undef) w') : if Region.wanted o (yielded ops a.tmps) = true then Oper.wp P o a w K Q else E :=
  step_store_cells hg ty x y hop b off (.agg cells.toArray) cells rfl hx hy (block_there hc off _ (by simpa using hs)) hi h1 (hK _ (only_setCells _ _ _) (by rw [setCells_block _ _ _ _ hc]))
end Go.Pw
namespace Go.Proofs.Ytdlbkdnpbcpjfaa
open Go.RowKit Go.Pw
set_option linter.unusedVariables false

theorem RN_le (k : Int) (l : List Int) (b : Bool) : (RN k l b).2.1.length ≤ l.length := by
  unfold RN
  split
  · simp
  · simp
theorem pB_len (s : List Int × Bool) : (pB s).1.length + (pB s).2.1.length ≤ s.1.length := by
  have := RN_le 4 s.1 s.2
  unfold pB
  simp only
  generalize RN 4 s.1 s.2 = r at *
  unfold BV BR
  split <;> simp <;> omega
theorem pN_le (s : List Int × Bool) : (pN s).2.1.length ≤ s.1.length := RN_le _ _ _
theorem pH_len (s : List Int × Bool) : (pH s).1.ag.length + (pH s).1.sg.length + (pH s).1.key.length ≤ s.1.length := by
  have h1 := pB_len s
  have h2 := pB_len (pB s).2
  have h3 := pB_len (pB (pB s).2).2
  unfold pH pI
  simp only
  split <;> simp only <;> omega
/-- What ReadHello answers, in one form. -/
theorem decH_uni {ps : List Int} {w w' : World} {e : Ending} (h : DecH ps w e w') : ∃ (a : HelloD) (s : List Int × Bool) (hcs : List Value) (er : Int), pH (ps, false) = (a, s) ∧ Only w w' [] ∧ e = .returned (.tuple #[.agg hcs.toArray, .int .i64 er]) ∧ hcs.length = 6 ∧ (∀ u ∈ hcs, u.oneCell' = true) ∧
    ((er = 0 ∧ Ends s = true ∧ ∃ va vs vk, hcs = [va, vs, vk, .int .u32 a.signed, .bool a.has, .int .u32 a.once] ∧ GotH w w' a va vs vk) ∨ (er = 4 ∧ Ends s = false)) := by
  obtain ⟨a, s, h1, h2, h3⟩ := h
  rcases h3 with ⟨h3, va, vs, vk, rfl, h4⟩ | ⟨h3, rfl⟩
  · refine ⟨a, s, [va, vs, vk, .int .u32 a.signed, .bool a.has, .int .u32 a.once], 0, h1, h2, rfl, rfl, ?_, .inl ⟨rfl, h3, va, vs, vk, rfl, h4⟩⟩
    obtain ⟨_, _, rfl⟩ := h4.ga.1
    obtain ⟨_, _, rfl⟩ := h4.gs.1
    obtain ⟨_, _, rfl⟩ := h4.gk.1
    simp [Value.oneCell']
  · exact ⟨a, s, [.slice none 0 0, .slice none 0 0, .slice none 0 0, .int .u32 0, .bool false, .int .u32 0], 4, h1, h2, rfl, rfl, by simp [Value.oneCell'], .inr ⟨rfl, h3⟩⟩
theorem rdSta_uni {R : Nat} {p : Value} {s : List Int × Bool} {w w' : World} {e : Ending} (h : RdSta R p s w e w') : ∃ (r : Option TD) (s' : List Int × Bool) (scs : List Value) (ok : Bool), pSta s = (r, s') ∧ RT R p s' w w' ∧ e = .returned (.tuple #[.agg scs.toArray, .bool ok]) ∧ scs.length = 9 ∧ (∀ u ∈ scs, u.oneCell' = true) ∧
    ((ok = true ∧ ∃ x : Sta, r = some x.c ∧ scs = stc x ∧ StaI w.heap.size w'.heap.size w' x ∧ x.l.length ≤ 32) ∨ (ok = false ∧ r = none)) := by
  obtain ⟨r, s', h1, h2, h3⟩ := h
  cases r with
  | none => exact ⟨none, s', [.slice none 0 0, .slice none 0 0, .slice none 0 0, .slice none 0 0, .int .u32 0, .slice none 0 0, .int .u32 0, .int .u32 0, .pointer none], false, h1, h2, h3, rfl, by simp [Value.oneCell'], .inr ⟨rfl, rfl⟩⟩
  | some d =>
    obtain ⟨x, rfl, rfl, h4, h5⟩ := h3
    exact ⟨_, s', stc x, true, h1, h2, rfl, rfl, stc_one x, .inl ⟨rfl, x, rfl, rfl, h4, h5⟩⟩
/-- What session.Read answers. -/
def RdQu (R : Nat) (p : Value) (s : List Int × Bool) (w : World) (e : Ending) (w' : World) : Prop :=
  ∃ r s', pQu s = (r, s') ∧ RT R p s' w w' ∧ match r with
    | some l' => ∃ Q l, e = .returned (.tuple #[.pointer (some ⟨Q, 0, none⟩), .bool true]) ∧ QuI w.heap.size w'.heap.size w' Q l ∧ l.map Se.c = l' ∧ l.length ≤ 4 ∧ ∀ x ∈ l, x.st.l.length ≤ 32
    | none => ∃ q, e = .returned (.tuple #[.pointer q, .bool false])

set_option maxRecDepth 100000 in
set_option maxHeartbeats 6400000 in
theorem seread_any {R : Nat} {p : Value} {s : List Int × Bool} {w : World} (h : RT R p s w w) (hsp : slen p ≤ 50000) :
    Calls Try.prog 54 #[.pointer (some ⟨R, 0, none⟩)] w (RdQu R p s w) := by
  obtain ⟨i0, hi0, hz0, hz1, hz2⟩ := info_parts inss_info
  have hRl := h.rlt
  go_enter Try.func54, Try.ntmps54
  go_wp2_with (refine wpList_box_new rfl 74 _ rfl (.agg #[.slice none 0 0]) rfl ?_; intro Q wS oS hQl hQ)
  refine (rcount_rt (h.new oS).here 4 (by omega)).mono ?_
  rintro e w1 ⟨c, s1, Hc, rfl, hc4, rt1⟩
  have hQR : Q ∉ [R] := by simp; omega
  have hQ1 : w1.heap[Q]? = some (.cells #[.slice none 0 0] 74 (0, 0)) := rt1.only.at hQ hQR
  have rtA := (h.new oS).back rt1
  have Hst0 : pQu s = fin (pSes c [] s1) := by rw [pQu, (pC_nat Hc.out).1, (pC_nat Hc.out).2]
  have Hst := Lib.hid Hst0
  clear Hst0
  clear rt1 hQ h Hc
  go_wp2_with fail
  go_loopw [14] (fun y wr => ∃ (i : Nat) (l : List Se) (v : Value) (s2 : List Int × Bool), y = .int .i64 i ∧ i ≤ c ∧ Hid (l.length = i) ∧ Hid (pSes (c - i) (l.map Se.c) s2 = pSes c [] s1) ∧ RT R p s2 w wr ∧ wr.heap[Q]? = some (.cells #[v] 74 (0, 0)) ∧ wr.ownsRow 0 97 18 v l.length (fl sec l) ∧ Hid (∀ k, v.ownBlock = some k → w.heap.size ≤ k ∧ k ≠ Q) ∧ Hid (∀ x ∈ l, EI w.heap.size v Q wr fun a b w => SeI a b w x) ∧ Hid (∀ x ∈ l, x.st.l.length ≤ 32)) (fun y _ => c - (intOf y).toNat)
  case atStart => exact ⟨0, [], .slice none 0 0, s1, rfl, Nat.zero_le _, rfl, rfl, rtA, hQ1, World.ownsRow_nil _ _ _ _, fun k hk => by simp [Value.ownBlock] at hk, fun x hx => by simp at hx, fun x hx => by simp at hx⟩
  case round =>
    clear hQ1 rtA
    obtain ⟨i, l, v, s2, rfl, hi, Hl, HP, rt, hQr, hrow, Hv, HEl, H32⟩ := hrel
    have hl32 : l.length ≤ 4 := by have := Hl.out; omega
    by_cases hic : i < c
    · have d1 : decide ((i : Int) < c) = true := by simpa using hic
      have RW1 := rt
      have m1 : w.heap.size ≤ wr.heap.size := rt.only.size
      have hvl := own_lt hrow
      have Hvl := Lib.hid hvl
      have hQlt : Q < wr.heap.size := (Array.getElem?_eq_some_iff.1 hQr).1
      clear hvl
      go_wp2_with fail
      refine (rbytes_rt RW1.here).mono ?_
      rintro e w2 ⟨v2, x2, s3, H2, rfl, g2, l2, rt2⟩
      obtain ⟨a2, c2, rfl⟩ := g2.1
      have o2 := rt2.only
      have m2 := o2.size
      have RW2 := RW1.back rt2
      have i2 := g2.rdI l2
      clear g2 rt2 l2
      go_wp2_with fail
      refine (rbytes_rt RW2.here).mono ?_
      rintro e w3 ⟨v3, x3, s4, H3, rfl, g3, l3, rt3⟩
      obtain ⟨a3, c3, rfl⟩ := g3.1
      have o3 := rt3.only
      have m3 := o3.size
      have RW3 := RW2.back rt3
      have i3 := g3.rdI l3
      clear g3 rt3 l3
      replace i2 := i2.keep o3 (fun k hk => by simp only [List.mem_singleton] at hk; omega)
      go_wp2_with fail
      refine (rflag_rt RW3.here).mono ?_
      rintro e w4 ⟨f4, s5, H4, rfl, rt4⟩
      have o4 := rt4.only
      have m4 := o4.size
      have RW4 := RW3.back rt4
      clear rt4
      replace i2 := i2.keep o4 (fun k hk => by simp only [List.mem_singleton] at hk; omega)
      replace i3 := i3.keep o4 (fun k hk => by simp only [List.mem_singleton] at hk; omega)
      have hob : ([.slice a2 x2.length c2, .slice a3 x3.length c3, .slice none 0 0, .slice none 0 0, .slice none 0 0, .int .u32 0, .bool false, .int .u32 0, .bool f4, .slice none 0 0, .slice none 0 0, .slice none 0 0, .slice none 0 0, .int .u32 0, .slice none 0 0, .int .u32 0, .int .u32 0, .pointer none] : List Value).toArray.all (·.oneCell') = true := by simp [Value.oneCell']
      go_wp2_with (first
        | (refine wpList_alloc_new rfl 97 rfl (.agg #[.slice none 0 0, .slice none 0 0, .slice none 0 0, .slice none 0 0, .slice none 0 0, .int .u32 0, .bool false, .int .u32 0, .bool false, .slice none 0 0, .slice none 0 0, .slice none 0 0, .slice none 0 0, .int .u32 0, .slice none 0 0, .int .u32 0, .int .u32 0, .pointer none]) (fun _ => by kernel_rfl) ?_; intro T wT oT hTl hT)
        | (refine wpList_store_blk rfl 97 _ _ rfl T [.slice a2 x2.length c2, .slice a3 x3.length c3, .slice none 0 0, .slice none 0 0, .slice none 0 0, .int .u32 0, .bool false, .int .u32 0, .bool f4, .slice none 0 0, .slice none 0 0, .slice none 0 0, .slice none 0 0, .int .u32 0, .slice none 0 0, .int .u32 0, .int .u32 0, .pointer none] rfl rfl hT rfl (by kernel_rfl) hob ?_; intro w5 oU hT5; have o5 := oT.new oU (fun i hi => by simp only [List.mem_singleton] at hi; omega); have m5 := o5.size; have hTlt := (Array.getElem?_eq_some_iff.1 hT5).1; clear hT oT oU))
      have RW5 := RW4.new o5
      replace i2 := i2.keep o5 (by simp)
      replace i3 := i3.keep o5 (by simp)
      have hTR : T ∉ [R] := by simp; omega
      refine (rbytes_rt RW5.here).mono ?_
      rintro e w6 ⟨v6, x6, s6, H6, rfl, g6, l6, rt6⟩
      obtain ⟨a6, c6, rfl⟩ := g6.1
      have o6 := rt6.only
      have m6 := o6.size
      have RW6 := RW5.back rt6
      have hT6 := o6.at hT5 hTR
      replace i2 := i2.keep o6 (fun k hk => by simp only [List.mem_singleton] at hk; omega)
      replace i3 := i3.keep o6 (fun k hk => by simp only [List.mem_singleton] at hk; omega)
      have hx6 : x6.length ≤ 50000 := by
        have h1 := pB_len s5
        rw [H6.out] at h1
        have := RW5.le
        simp only at h1
        omega
      have hdh := dechello_any (.slice a6 x6.length c6) x6 w6 g6.2.1 g6.2.2.2 (by omega)
      clear g6 rt6 l6 hT5
      go_wp2_with fail
      refine hdh.mono ?_
      intro e w7 hq
      obtain ⟨ah, sh, hcs, er, Hph, o7, rfl, hcl6, hc1, hcase⟩ := decH_uni hq
      have m7 := o7.size
      have RW7 := RW6.new o7
      have hT7 := o7.at hT6 (by simp)
      replace i2 := i2.keep o7 (by simp)
      replace i3 := i3.keep o7 (by simp)
      have hca : hcs.toArray.all (·.oneCell') = true := all_oneCell_toArray hc1
      clear hdh hq hT6
      go_wp2_with (first
        | (refine wpList_alloc_new rfl 90 rfl (.agg #[.slice none 0 0, .slice none 0 0, .slice none 0 0, .int .u32 0, .bool false, .int .u32 0]) (fun _ => by kernel_rfl) ?_; intro H wH oH hHl hH)
        | (refine wpList_store_blk rfl 90 _ _ rfl H hcs rfl rfl hH (by rw [hcl6]; rfl) (by rw [hcl6]; kernel_rfl) hca ?_; intro w8 oU hH8; have o8 := oH.new oU (fun i hi => by simp only [List.mem_singleton] at hi; omega); have m8 := o8.size; have hHlt := (Array.getElem?_eq_some_iff.1 hH8).1; clear hH oH oU))
      have RW8 := RW7.new o8
      have hT8 := o8.at hT7 (by simp)
      replace i2 := i2.keep o8 (by simp)
      replace i3 := i3.keep o8 (by simp)
      have hHR : H ∉ [R] := by simp; omega
      refine (stread_any RW8.here).mono ?_
      intro e w9 hq
      obtain ⟨rs, s9, scs, ok, Hps, rt9, rfl, scl9, sc1, scase⟩ := rdSta_uni hq
      have o9 := rt9.only
      have m9 := o9.size
      have RW9 := RW8.back rt9
      have hT9 := o9.at hT8 hTR
      have hH9 := o9.at hH8 hHR
      replace i2 := i2.keep o9 (fun k hk => by simp only [List.mem_singleton] at hk; omega)
      replace i3 := i3.keep o9 (fun k hk => by simp only [List.mem_singleton] at hk; omega)
      have sca : scs.toArray.all (·.oneCell') = true := all_oneCell_toArray sc1
      clear hq rt9 hT7 hT8 hH8
      go_upto_region 7 with (first
        | (refine wpList_alloc_new rfl 95 rfl (.agg #[.slice none 0 0, .slice none 0 0, .slice none 0 0, .slice none 0 0, .int .u32 0, .slice none 0 0, .int .u32 0, .int .u32 0, .pointer none]) (fun _ => by kernel_rfl) ?_; intro U wU oU hUl hU)
        | (refine wpList_store_blk rfl 95 _ _ rfl U scs rfl rfl hU (by rw [scl9]; rfl) (by rw [scl9]; kernel_rfl) sca ?_; intro w10 oV hU10; have o10 := oU.new oV (fun i hi => by simp only [List.mem_singleton] at hi; omega); have m10 := o10.size; clear hU oU oV))
      have RW10 := RW9.new (o10.trans (Only.drew w10 []))
      have hTd : w10.drew.heap[T]? = some (.cells ([.slice a2 x2.length c2, .slice a3 x3.length c3, .slice none 0 0, .slice none 0 0, .slice none 0 0, .int .u32 0, .bool false, .int .u32 0, .bool f4, .slice none 0 0, .slice none 0 0, .slice none 0 0, .slice none 0 0, .int .u32 0, .slice none 0 0, .int .u32 0, .int .u32 0, .pointer none] : List Value).toArray 97 (0, 0)) := o10.at hT9 (by simp)
      have hHd : w10.drew.heap[H]? = some (.cells hcs.toArray 90 (0, 0)) := o10.at hH9 (by simp)
      have hUd : w10.drew.heap[U]? = some (.cells scs.toArray 95 (0, 0)) := hU10
      replace i2 := i2.keep (o10.trans (Only.drew w10 [])) (by simp)
      replace i3 := i3.keep (o10.trans (Only.drew w10 [])) (by simp)
      clear hT9 hH9 hU10
      refine wp_region_t (S := fun w' => w'.heap[H]? = some (.cells hcs.toArray 90 (0, 0)) ∧ w'.heap[U]? = some (.cells scs.toArray 95 (0, 0))) 5 (by kernel_rfl) (by kernel_rfl) ⟨hHd, hUd⟩ (fun hZ hHeld => ?_)
      refine wpAnyT_take (i := 0) hZ (op_at' rfl) (by rfl) (by kernel_rfl) (by kernel_rfl) (by kernel_rfl) (by kernel_rfl) (fun _ _ _ h => h) (yieldsIf_load_mid (by rfl) _ _ rfl H 0 rfl hcs _ (fun w' hS => block_range hS.1) Try.underlying90 (by rfl) (by rw [hcl6]; kernel_rfl)) (by assumption) ?_
      try simp only [Act.put, List.setIfInBounds_toArray, List.set_cons_zero, List.set_cons_succ]
      refine wpAnyT_take (i := 1) hZ (op_at' rfl) (by rfl) (by kernel_rfl) (by kernel_rfl) (by kernel_rfl) (by kernel_rfl) (fun _ _ _ h => h) (yieldsIf_load_mid (by rfl) _ _ rfl U 0 rfl scs _ (fun w' hS => block_range hS.2) Try.underlying95 (by rfl) (by rw [scl9]; kernel_rfl)) (by assumption) ?_
      try simp only [Act.put, List.setIfInBounds_toArray, List.set_cons_zero, List.set_cons_succ]
      refine' wpAnyT_take (i := 2) (v := _) hZ (op_at' rfl) (by rfl) (by kernel_rfl) (by kernel_rfl) (by kernel_rfl) (by kernel_rfl) (fun _ _ _ h => h) (Or.inl ⟨by rfl, ?hy11⟩) (by assumption) ?rest11
      case hy11 =>
        intro w' hS
        go_simp
        try with_reducible rfl
      try simp only [Act.put, List.setIfInBounds_toArray, List.set_cons_zero, List.set_cons_succ]
      refine wpAnyT_one (i := 3) (by kernel_rfl) (op_at' rfl) (fun K hK => ?_)
      refine step_store_at (by rfl) 90 _ _ (by rfl) T 2 hcs (by rfl) (by rfl) hTd (by rw [hcl6]; simp) (by rw [hcl6]; kernel_rfl) hc1 (fun w11 o11 hT11 => ?_)
      go_wp2_with fail
      refine hK.out _ _ ⟨o11.at hHd (by simp; omega), o11.at hUd (by simp; omega)⟩ (fun hHeld => ?_)
      clear hK K
      try simp only [Act.put, List.setIfInBounds_toArray, List.set_cons_zero, List.set_cons_succ]
      refine' wpAnyT_take (i := 4) (v := _) hZ (op_at' rfl) (by rfl) (by kernel_rfl) (by kernel_rfl) (by kernel_rfl) (by kernel_rfl) (fun _ _ _ h => h) (Or.inl ⟨by rfl, ?hy12⟩) (by assumption) ?rest12
      case hy12 =>
        intro w' hS
        go_simp
        try with_reducible rfl
      try simp only [Act.put, List.setIfInBounds_toArray, List.set_cons_zero, List.set_cons_succ]
      refine wpAnyT_last (by kernel_rfl) (op_at' rfl) (by kernel_rfl) (fun K hK => ?_)
      refine step_store_at (by rfl) 95 _ _ (by rfl) T 9 scs (by rfl) (by rfl) hT11 (by rw [scl9, setL_length]; simp) (by rw [scl9]; kernel_rfl) sc1 (fun w12 o12 hT12 => ?_)
      go_wp2_with fail
      refine hK.out _ _ ?_
      clear hK K
      try simp only [Act.put, List.setIfInBounds_toArray, List.set_cons_zero, List.set_cons_succ]
      have o712 : Only w10.drew w12 [T] := o11.trans o12
      have m12 : w10.heap.size ≤ w12.heap.size := o712.size
      have RW12 := RW10.keep o712 (fun k hk => by simp only [List.mem_singleton] at hk; omega)
      replace i2 := i2.keep o712 (fun k hk => by simp only [List.mem_singleton] at hk; omega)
      replace i3 := i3.keep o712 (fun k hk => by simp only [List.mem_singleton] at hk; omega)
      have hwT : wr.heap.size ≤ T := by omega
      have hAll : Only wr w12 [R, T] := ((((((((o2.trans (o3.trans o4)).mono (L' := [R, T]) (by simp +contextual)).trans (o5.mono (by simp))).trans (o6.mono (by simp +contextual))).trans (o7.mono (by simp))).trans (o8.mono (by simp))).trans (o9.mono (by simp +contextual))).trans ((o10.trans (Only.drew w10 [])).mono (by simp))).trans (o712.mono (by simp +contextual))
      have hpE0 : pSe s2 = (if Ends sh then rs.map (fun t => (⟨x2, x3, f4, ah, t⟩ : ED)) else none, s9) := by simp only [pSe, H2.out, H3.out, H4.out, H6.out, Hph, Hps]
      have hpE := Lib.hid hpE0
      have hci : c - i = (c - (i + 1)) + 1 := by omega
      have Hci := Lib.hid hci
      clear hpE0 hci hHeld o11 o12 hHd hUd hTd hT11
      rcases scase with ⟨rfl, x, hrx, hsx, hIx, hx32⟩ | ⟨rfl, hrn⟩
      · rcases hcase with ⟨rfl, hend, va, vs, vk, hhx, hG⟩ | ⟨rfl, hend⟩
        · obtain ⟨xe, hxe⟩ : ∃ xe : Se, xe = ⟨⟨x2, x3, f4, ah, x.c⟩, .slice a2 x2.length c2, .slice a3 x3.length c3, va, vs, vk, x, ⟨rfl, rfl, hc1 va (by rw [hhx]; simp), hc1 vs (by rw [hhx]; simp), hc1 vk (by rw [hhx]; simp)⟩⟩ := ⟨_, rfl⟩
          have hpX0 : pSe s2 = (some xe.c, s9) := by rw [hpE.out, if_pos hend, hrx, hxe]; rfl
          have hpX := Lib.hid hpX0
          have hTX : w12.heap[T]? = some (.cells (sec xe).toArray 97 (0, 0)) := by
            have e1 : sec xe = [.slice a2 x2.length c2, .slice a3 x3.length c3, va, vs, vk, .int .u32 ah.signed, .bool ah.has, .int .u32 ah.once, .bool f4] ++ stc x := by rw [hxe]; rfl
            rw [hT12, e1, hhx, hsx]
            rfl
          have hah : ah.ag.length + ah.sg.length + ah.key.length ≤ 50000 := by
            have h1 := pH_len (x6, false)
            rw [Hph] at h1
            simp only at h1
            omega
          have o812 : Only w7 w12 [R, T] := ((o8.mono (L' := [R, T]) (by simp)).trans (o9.mono (by simp +contextual))).trans (((o10.trans (Only.drew w10 [])).mono (by simp)).trans (o712.mono (by simp +contextual)))
          have o912 : Only w9 w12 [T] := ((o10.trans (Only.drew w10 [])).mono (by simp)).trans o712
          have KP2 : ∀ k ∈ [R, T], k < w6.heap.size ∨ w7.heap.size ≤ k := fun k hk => by
            simp only [List.mem_cons, List.not_mem_nil, or_false] at hk
            omega
          have KP3 : ∀ k ∈ [T], k < w8.heap.size ∨ w9.heap.size ≤ k := fun k hk => by
            simp only [List.mem_singleton] at hk
            omega
          have hSX : Hid (SeI wr.heap.size w12.heap.size w12 xe) := by
            show SeI _ _ _ _
            rw [hxe]
            exact ⟨i2.wide (by omega) (by omega), i3.wide (by omega) (by omega), ((hG.ga.rdI hG.la).keep o812 KP2).wide (by omega) (by omega), ((hG.gs.rdI hG.ls).keep o812 KP2).wide (by omega) (by omega), ((hG.gk.rdI hG.lk).keep o812 KP2).wide (by omega) (by omega), hah, hG.us, hG.uo, (hIx.keep o912 KP3).wide (by omega) (by omega), rfl⟩
          have hX32 : Hid (xe.st.l.length ≤ 32) := by show _ ≤ _; rw [hxe]; exact hx32
          have hXid : xe.c.id = x2 := by rw [hxe]
          have HXid := Lib.hid hXid
          have t0_ : w12.cell? ⟨T, 0, none⟩ = some (.slice a2 x2.length c2) := by
            have := cell_in hTX 0
            rw [hxe] at this
            exact this
          have hVR : ∀ k, v.ownBlock = some k → k ∉ [R, T] := fun k hk => by
            have h1 := (Hv.out k hk).1
            have h2 := Hvl.out k hk
            simp only [List.mem_cons, List.not_mem_nil, or_false]
            omega
          have hQ12 := hAll.at hQr (by simp only [List.mem_cons, List.not_mem_nil, or_false]; omega)
          have hrow12 := own_only hrow hAll (fun k hk hm => hVR k hk hm)
          have hE12 : Hid (∀ y ∈ l, EI w.heap.size v Q w12 fun a b w => SeI a b w y) := fun y hy => (HEl.out y hy).keep (kp_se y) hAll fun k hk => by
            simp only [List.mem_cons, List.not_mem_nil, or_false] at hk
            rcases hk with rfl | rfl
            · exact .inl hRl
            · exact .inr (.inr (.inr hwT))
          have hfind := qfind_any Q v (.slice a2 x2.length c2) l x2 w12 hQ12 (own_src hrow12) (by omega) (fun y hy => by have := (hE12.out y hy).fin (kp_se y); exact ⟨this.i.1, this.i.2.2.2⟩) i2.1 i2.2.2.2
          have hnn := idxP_nn (fun x : Se => decide (x.c.id = x2)) l
          generalize idxP (fun x : Se => decide (x.c.id = x2)) l = r at *
          clear hxe hpX0 hhx hsx hIx hG hrx hc1 sc1 hT12 hca sca hcl6 scl9 hXid hrow hQr HEl i2 i3 o812 o912 KP2 KP3 hob hend
          cases hany : l.any (fun x : Se => decide (x.c.id = x2)) with
          | true =>
            rw [hany] at hnn
            have Hany := Lib.hid hany
            clear hany
            go_wp2_with fail
            refine hfind.mono ?_
            rintro e w13 ⟨rfl, o13⟩
            clear t0_ hfind
            go_wp2_with fail
            refine bodyPost_ret (v := .tuple #[.pointer none, .bool false]) (by simp [results, Try.results54, go_sem]) rfl ?_
            exact ⟨none, s9, by rw [Hst.out, ← HP.out, Hci.out, pSes_dup hpX.out (by rw [List.any_map, HXid.out]; exact Hany.out), fin_none], RW12.new o13, none, rfl⟩
          | false =>
            rw [hany] at hnn
            have Hany := Lib.hid hany
            clear hany
            go_wp2_with fail
            refine hfind.mono ?_
            rintro e w13 ⟨rfl, o13⟩
            clear t0_ hfind
            have oD := o13.trans (Only.drew w13 [])
            have hQ13 : w13.drew.heap[Q]? = some (.cells #[v] 74 (0, 0)) := o13.at hQ12 (by simp)
            have hT13 : w13.drew.heap[T]? = some (.cells (sec xe).toArray 97 (0, 0)) := o13.at hTX (by simp)
            have hrow13 : w13.drew.ownsRow 0 97 18 v l.length (fl sec l) := own_only hrow12 oD (fun _ _ => by simp)
            have hQn : Q ∉ v.ownBlock.toList := fun hm => (Hv.out Q (by simpa using hm)).2 rfl
            have hTn : T ∉ v.ownBlock.toList := fun hm => by have := Hvl.out T (by simpa using hm); omega
            have rtG := RW12.new oD
            have hS13 : Hid (SeI wr.heap.size w12.heap.size w13.drew xe) := hSX.out.keep oD (by simp)
            have hE13 : Hid (∀ y ∈ l, EI w.heap.size v Q w13.drew fun a b w => SeI a b w y) := fun y hy => (hE12.out y hy).keep (kp_se y) oD (by simp)
            have mD : w12.heap.size ≤ w13.drew.heap.size := oD.size
            clear hQ12 hTX hrow12 hE12 hSX
            go_upto_region 10 with fail
            refine wp_region_t (S := fun w' => Only w13.drew w' v.ownBlock.toList) 10 (by kernel_rfl) (by kernel_rfl) (Only.refl _ _) (fun hZ hHeld => ?_)
            refine' wpAnyT_take (i := 0) (v := _) hZ (op_at' rfl) (by rfl) (by kernel_rfl) (by kernel_rfl) (by kernel_rfl) (by kernel_rfl) (fun _ _ _ h => h) (Or.inl ⟨by rfl, ?hy1⟩) (by assumption) ?rest1
            case hy1 =>
              intro w' hS
              go_simp
              try with_reducible rfl
            try simp only [Act.put, List.setIfInBounds_toArray, List.set_cons_zero, List.set_cons_succ]
            refine' wpAnyT_take (i := 1) (v := _) hZ (op_at' rfl) (by rfl) (by kernel_rfl) (by kernel_rfl) (by kernel_rfl) (by kernel_rfl) (fun _ _ _ h => h) (Or.inl ⟨by rfl, ?hy2⟩) (by assumption) ?rest2
            case hy2 =>
              intro w' hS
              go_simp
              try with_reducible rfl
            try simp only [Act.put, List.setIfInBounds_toArray, List.set_cons_zero, List.set_cons_succ]
            refine' wpAnyT_take (i := 2) (v := _) hZ (op_at' rfl) (by rfl) (by kernel_rfl) (by kernel_rfl) (by kernel_rfl) (by kernel_rfl) (fun _ _ _ h => h) (Or.inl ⟨by rfl, ?hy3⟩) (by assumption) ?rest3
            case hy3 =>
              intro w' hS
              go_simp
              try with_reducible rfl
            try simp only [Act.put, List.setIfInBounds_toArray, List.set_cons_zero, List.set_cons_succ]
            refine' wpAnyT_take (i := 3) (v := _) hZ (op_at' rfl) (by rfl) (by kernel_rfl) (by kernel_rfl) (by kernel_rfl) (by kernel_rfl) (fun _ _ _ h => h) (Or.inl ⟨by rfl, ?hy4⟩) (by assumption) ?rest4
            case hy4 =>
              intro w' hS
              go_simp
              try with_reducible rfl
            try simp only [Act.put, List.setIfInBounds_toArray, List.set_cons_zero, List.set_cons_succ]
            refine' wpAnyT_take (i := 4) (v := _) hZ (op_at' rfl) (by rfl) (by kernel_rfl) (by kernel_rfl) (by kernel_rfl) (by kernel_rfl) (fun _ _ _ h => h) (Or.inl ⟨by rfl, ?hy5⟩) (by assumption) ?rest5
            case hy5 =>
              intro w' hS
              have q_ := cell_of_one (hS.at hQ13 hQn)
              go_simp
              try with_reducible rfl
            try simp only [Act.put, List.setIfInBounds_toArray, List.set_cons_zero, List.set_cons_succ]
            refine wpAnyT_take (i := 5) hZ (op_at' rfl) (by rfl) (by kernel_rfl) (by kernel_rfl) (by kernel_rfl) (by kernel_rfl) (fun _ _ _ h => h) (yieldsIf_load_mid (by rfl) _ _ rfl T 0 rfl (sec xe) _ (fun w' hS => block_range (hS.at hT13 hTn)) Try.underlying97 (by rfl) (by rw [sec_len]; kernel_rfl)) (by assumption) ?_
            try simp only [Act.put, List.setIfInBounds_toArray, List.set_cons_zero, List.set_cons_succ]
            refine wpAnyT_one (i := 6) (by kernel_rfl) (op_at' rfl) (fun K hK => ?_)
            refine step_buildSlice_one (by rfl) 72 _ (by rfl) 97 i0 _ (sec xe) (by rfl) Try.underlying72 hi0 hz0 (by rw [hz1, sec_len]) (by rw [sec_len]; rfl) (by rw [sec_len]; decide) (by rw [sec_len]; decide) (fun Y w14 o14 hYl hY14 => ?_)
            go_wp2_with fail
            refine hK.out _ _ (o14.mono (by simp)) (fun hHeld => ?_)
            clear hK K
            try simp only [Act.put, List.setIfInBounds_toArray, List.set_cons_zero, List.set_cons_succ]
            refine wpAnyT_one (i := 7) (by kernel_rfl) (op_at' rfl) (fun K hK => ?_)
            refine step_append_src (by rfl) _ _ 72 (by rfl) 97 i0 _ 18 296 Try.underlying72 hi0 hz0 hz1 hz2 rfl (by decide) v l.length _ (by rfl) (own_only hrow13 o14 (fun _ _ => by simp)) _ 1 (sec xe) (by rfl) (src_blk hY14 (by rw [sec_len])) (sec_one xe) (by unfold maxLen; omega) (by omega) (fun v8 w15 q1 q2 q3 => ?_)
            obtain ⟨a8, c8, rfl⟩ := own_slice q1
            have o15 : Only w14 w15 v.ownBlock.toList := Only.grown q2 (fun k hk => by simp [hk])
            go_wp2_with fail
            refine hK.out _ _ ((o14.mono (by simp)).trans o15) (fun hHeld => ?_)
            clear hK K
            try simp only [Act.put, List.setIfInBounds_toArray, List.set_cons_zero, List.set_cons_succ]
            refine' wpAnyT_take (i := 8) (v := _) hZ (op_at' rfl) (by rfl) (by kernel_rfl) (by kernel_rfl) (by kernel_rfl) (by kernel_rfl) (fun _ _ _ h => h) (Or.inl ⟨by rfl, ?hy7⟩) (by assumption) ?rest7
            case hy7 =>
              intro w' hS
              go_simp
              try with_reducible rfl
            try simp only [Act.put, List.setIfInBounds_toArray, List.set_cons_zero, List.set_cons_succ]
            refine' wpAnyT_take (i := 9) (v := _) hZ (op_at' rfl) (by rfl) (by kernel_rfl) (by kernel_rfl) (by kernel_rfl) (by kernel_rfl) (fun _ _ _ h => h) (Or.inl ⟨by rfl, ?hy8⟩) (by assumption) ?rest8
            case hy8 =>
              intro w' hS
              go_simp
              try with_reducible rfl
            try simp only [Act.put, List.setIfInBounds_toArray, List.set_cons_zero, List.set_cons_succ]
            refine wpAnyT_last (by kernel_rfl) (op_at' rfl) (by kernel_rfl) (fun K hK => ?_)
            have q8_ := cell_of_one (((o14.mono (by simp)).trans o15).at hQ13 hQn)
            have f8_ := free_of_one (((o14.mono (by simp)).trans o15).at hQ13 hQn)
            go_simp
            go_wp2_with fail
            refine hK.out _ _ ?_
            clear hK K
            try simp only [Act.put, List.setIfInBounds_toArray, List.set_cons_zero, List.set_cons_succ]
            have oA : Only w13.drew w15 v.ownBlock.toList := (o14.mono (by simp)).trans o15
            have oB : Only w15 (w15.setCell ⟨Q, 0, none⟩ (Value.slice a8 (l.length + 1) c8)) [Q] := Only.setCell w15 _ (Value.slice a8 (l.length + 1) c8) [Q] (by simp)
            have oC : Only w13.drew (w15.setCell ⟨Q, 0, none⟩ (Value.slice a8 (l.length + 1) c8)) (Q :: v.ownBlock.toList) := (oA.mono (by simp +contextual)).trans (oB.mono (by simp +contextual))
            have hLC : ∀ k ∈ Q :: v.ownBlock.toList, w.heap.size ≤ k := fun k hk => by
              rcases List.mem_cons.1 hk with e | e
              · omega
              · exact (Hv.out k (by simpa using e)).1
            have hLr : ∀ k ∈ Q :: v.ownBlock.toList, k < wr.heap.size := fun k hk => by
              rcases List.mem_cons.1 hk with e | e
              · omega
              · exact Hvl.out k (by simpa using e)
            have h67 : w13.drew.heap.size ≤ w14.heap.size := o14.size
            have hv8 : ∀ k, (Value.slice a8 (l.length + 1) c8).ownBlock = some k → (k < wr.heap.size ∧ v.ownBlock = some k) ∨ w14.heap.size ≤ k := fun k hk => (q3 k hk).imp (fun e => ⟨Hvl.out k e, e⟩) id
            have hv8Q : Q ∉ (Value.slice a8 (l.length + 1) c8).ownBlock.toList := fun hm => by
              rcases hv8 Q (by simpa using hm) with e | e
              · exact (Hv.out Q e.2).2 rfl
              · omega
            have HR : Hid (RT R p s9 w (w15.setCell ⟨Q, 0, none⟩ (Value.slice a8 (l.length + 1) c8))) := rtG.keep oC hLC
            have HS : Hid ((w15.setCell ⟨Q, 0, none⟩ (Value.slice a8 (l.length + 1) c8)).heap[Q]? = some (.cells #[(Value.slice a8 (l.length + 1) c8)] 74 (0, 0))) := set_one (oA.at hQ13 hQn)
            have HO : Hid ((w15.setCell ⟨Q, 0, none⟩ (Value.slice a8 (l.length + 1) c8)).ownsRow 0 97 18 (Value.slice a8 (l.length + 1) c8) (l.length + 1) (fl sec l ++ sec xe)) := own_only q1 oB (fun k hk hm => by
              rw [List.mem_singleton] at hm
              exact hv8Q (by rw [← hm]; simp [hk]))
            have HVV : Hid (∀ k, (Value.slice a8 (l.length + 1) c8).ownBlock = some k → w.heap.size ≤ k ∧ k ≠ Q) := fun k hk => ⟨by
              rcases hv8 k hk with e | e
              · exact (Hv.out k e.2).1
              · omega, fun e => hv8Q (by rw [← e]; simp [hk])⟩
            have HE8 : Hid (∀ y ∈ l ++ [xe], EI w.heap.size (Value.slice a8 (l.length + 1) c8) Q (w15.setCell ⟨Q, 0, none⟩ (Value.slice a8 (l.length + 1) c8)) fun a b w => SeI a b w y) := fun y hy => by
              rcases List.mem_append.1 hy with hy | hy
              · exact (hE13.out y hy).app (kp_se y) oC (fun k hk => by
                  rcases List.mem_cons.1 hk with e | e
                  · exact .inr (.inr (.inl e))
                  · exact .inr (.inl (by simpa using e))) q3 h67
              · rw [List.mem_singleton] at hy
                subst hy
                have hL2 : ∀ k ∈ Q :: v.ownBlock.toList, k < wr.heap.size ∨ w12.heap.size ≤ k := fun k hk => .inl (hLr k hk)
                exact ⟨wr.heap.size, w12.heap.size, m1, Nat.le_trans mD oC.size, fun k hk => (hv8 k hk).imp (fun e => e.1) (fun e => by omega), .inl hQlt, hS13.out.keep oC hL2⟩
            have HPn : Hid (pSes (c - (i + 1)) ((l ++ [xe]).map Se.c) s9 = pSes c [] s1) := by
              refine Lib.hid (?_ : pSes (c - (i + 1)) ((l ++ [xe]).map Se.c) s9 = pSes c [] s1)
              rw [← HP.out, Hci.out, pSes_more hpX.out (by rw [List.any_map, HXid.out]; exact Hany.out), List.map_append]
              rfl
            have H32n : Hid (∀ y ∈ l ++ [xe], y.st.l.length ≤ 32) := fun y hy => by
              rcases List.mem_append.1 hy with hy | hy
              · exact H32.out y hy
              · rw [List.mem_singleton] at hy
                rw [hy]; exact hX32.out
            clear hHeld q1 q2 q3 o14 o15 oA oB oC
            go_wp2_with fail
            exact ⟨⟨i + 1, _, _, s9, by simp, by omega, Lib.hid (by rw [List.length_append, Hl.out]; rfl), HPn, HR.out, HS.out, by rw [List.length_append, fl_snoc]; exact HO.out, HVV, HE8, H32n⟩, by simp [intOf]; omega⟩
        · have hpN0 : pSe s2 = (none, s9) := by rw [hpE.out, hend]; rfl
          clear hrx hsx hIx hend i2 i3
          go_wp2_with fail
          refine bodyPost_ret (v := .tuple #[.pointer none, .bool false]) (by simp [results, Try.results54, go_sem]) rfl ?_
          exact ⟨none, s9, by rw [Hst.out, ← HP.out, Hci.out, pSes_none hpN0, fin_none], RW12, none, rfl⟩
      · have hpN0 : pSe s2 = (none, s9) := by rw [hpE.out, hrn]; split <;> rfl
        clear hrn i2 i3
        go_wp2_with fail
        refine bodyPost_ret (v := .tuple #[.pointer none, .bool false]) (by simp [results, Try.results54, go_sem]) rfl ?_
        exact ⟨none, s9, by rw [Hst.out, ← HP.out, Hci.out, pSes_none hpN0, fin_none], RW12, none, rfl⟩
    · obtain rfl : i = c := by omega
      have d1 : decide ((i : Int) < i) = false := by simp
      have hfs0 : pQu s = fin (some (l.map Se.c), s2) := by rw [Hst.out, ← HP.out, Nat.sub_self, pSes_zero]
      have hfs := Lib.hid hfs0
      clear hfs0
      have hbad := rbad_rt rt
      have hsz := own_lt hrow
      have hQu : Hid (QuI w.heap.size wr.heap.size wr Q l) := ⟨hQl, (Array.getElem?_eq_some_iff.1 hQr).1, v, hQr, ⟨own_src hrow, fun k hk => ⟨(Hv.out k hk).1, hsz k hk⟩⟩, fun x hx => (HEl.out x hx).fin (kp_se x)⟩
      have Hrt := rt
      clear HEl hrow hQr Hv hsz HP Hl
      go_wp2_with fail
      refine hbad.mono ?_
      rintro e w2 ⟨rfl, rfl⟩
      clear hbad
      cases hb : s2.2 with
      | true =>
        go_wp2_with fail
        refine bodyPost_ret (v := .tuple #[.pointer (some ⟨Q, 0, none⟩), .bool false]) (by simp [results, Try.results54, go_sem]) rfl ?_
        exact ⟨none, s2, by rw [hfs.out]; simp [fin, hb], Hrt, _, rfl⟩
      | false =>
        go_wp2_with fail
        refine bodyPost_ret (v := .tuple #[.pointer (some ⟨Q, 0, none⟩), .bool true]) (by simp [results, Try.results54, go_sem]) rfl ?_
        exact ⟨some (l.map Se.c), s2, by rw [hfs.out]; simp [fin, hb], Hrt, Q, l, rfl, hQu.out, rfl, hl32, H32.out⟩
end Go.Proofs.Ytdlbkdnpbcpjfaa
