/- ratchet.Read. Printed by gen_rb8.py. -/
import Derived.Test.YtdlbkdnpbcpjfaaRb7
set_option linter.unusedSimpArgs false
set_option linter.unusedVariables false
namespace Go.Pw
open Go.RowKit
set_option linter.unusedVariables false
/-- A struct is stored into a part of a block; one cell is. -/
theorem wpList_store_at {P : Program} {ops : Array Oper} {rest : List Oper} {op : Oper} {a : Act} {w : World} {Q : Exit → Act → World → Prop} (hgd : op.guard = none) (ty : TypeId) (x y : Operand) (ho : op.op = .store ty x y)
    (b o : Nat) (cells : List Value) (hx : a.eval x = .pointer (some ⟨b, o, none⟩)) (hy : a.eval y = .agg cells.toArray) {old : List Value} {t : TypeId} (hc : w.heap[b]? = some (.cells old.toArray t (0, 0)))
    (hs : o + cells.length ≤ old.length) (hi : (P.info? ty).map (·.size) = some cells.length) (h1 : cells.toArray.all (·.oneCell') = true)
    (h : ∀ w', Only w w' [b] → w'.heap[b]? = some (.cells (setL old o cells).toArray t (0, 0)) → wpList P ops Q rest (a.put op.dst undef) w') : wpList P ops Q (op :: rest) a w := by
  refine wpList_store_mid hgd ty x y ho b o cells.toArray hx hy (block_there hc o _ (by simpa using hs)) (by simpa using hi) h1 ?_
  refine h _ (only_setCells _ _ _) ?_
  rw [setCells_block _ _ _ _ hc]
theorem wpList_store_cell {P : Program} {ops : Array Oper} {rest : List Oper} {op : Oper} {a : Act} {w : World} {Q : Exit → Act → World → Prop} (hgd : op.guard = none) (ty : TypeId) (x y : Operand) (ho : op.op = .store ty x y)
    (b i : Nat) (v : Value) (hx : a.eval x = .pointer (some ⟨b, i, none⟩)) (hy : a.eval y = v) (hv : v.cells = #[v]) {old : List Value} {T : TypeId} (hc : w.heap[b]? = some (.cells old.toArray T (0, 0))) (hlt : i < old.length)
    (hs : (P.info? ty).map (·.size) = some 1) (h1 : v.oneCell' = true)
    (h : ∀ w', Only w w' [b] → w'.heap[b]? = some (.cells (old.set i v).toArray T (0, 0)) → wpList P ops Q rest (a.put op.dst undef) w') : wpList P ops Q (op :: rest) a w :=
  wpList_plain hgd fun K hK => by
    have hst := run_storeCells_cells (P := P) b i [v] 0 w (fun j hj => by simp at hj; subst hj; rw [Pw.cell_in hc]; simp [hlt]) (fun j hj => free_in hc _) (by simpa using h1)
    have hsv : (storeVar ty ⟨b, i, none⟩ v).run P w = .ok () (w.setCells b i [v]) := by
      cases hq : P.info? ty with
      | none => simp [hq] at hs
      | some inf =>
        have hz : inf.size = 1 := by simpa [hq] using hs
        simp only [Nat.add_zero] at hst
        simp [storeVar, sizeOf, typeInfo, hq, hv, hz, hst]
    unfold Oper.wp execOp
    simp only [ho, hx, hy, Instr.storeAt, Instr.sureAddr, Sem.run_bind, Sem.run_pure, Result.andThen_ok, hsv]
    refine hK _ _ (h _ (only_setCells _ _ _) ?_)
    rw [setCells_block _ _ _ _ hc]
    rfl
end Go.Pw
namespace Go.Proofs.Ytdlbkdnpbcpjfaa
open Go.RowKit Go.Pw
set_option linter.unusedVariables false

/-- What ratchet.Read answers. -/
def RdSta (R : Nat) (p : Value) (s : List Int × Bool) (w : World) (e : Ending) (w' : World) : Prop :=
  ∃ r s', pSta s = (r, s') ∧ RT R p s' w w' ∧ match r with
    | some d => ∃ x : Sta, x.c = d ∧ e = .returned (.tuple #[.agg (stc x).toArray, .bool true]) ∧ StaI w.heap.size w'.heap.size w' x ∧ x.l.length ≤ 32
    | none => e = .returned (.tuple #[.agg #[.slice none 0 0, .slice none 0 0, .slice none 0 0, .slice none 0 0, .int .u32 0, .slice none 0 0, .int .u32 0, .int .u32 0, .pointer none], .bool false])

set_option maxRecDepth 100000 in
set_option maxHeartbeats 3200000 in
theorem stread_any {R : Nat} {p : Value} {s : List Int × Bool} {w : World} (h : RT R p s w w) :
    Calls Try.prog 75 #[.pointer (some ⟨R, 0, none⟩)] w (RdSta R p s w) := by
  have hRl := h.rlt
  go_enter Try.func75, Try.ntmps75
  go_wp2_with (refine wpList_alloc_new rfl 95 rfl (.agg #[.slice none 0 0, .slice none 0 0, .slice none 0 0, .slice none 0 0, .int .u32 0, .slice none 0 0, .int .u32 0, .int .u32 0, .pointer none]) (fun _ => by kernel_rfl) ?_; intro A wA oA hAl hA)
  have hAR : A ∉ [R] := by simp; omega
  have hAlt := (Array.getElem?_eq_some_iff.1 hA).1
  have RW0 := h.new oA
  have m0 := oA.size
  refine (rbytes_rt RW0.here).mono ?_
  rintro e w1 ⟨v1, x1, s1, H1, rfl, g1, l1, rt1⟩
  obtain ⟨a1, c1, rfl⟩ := g1.1
  have o1 := rt1.only
  have m1 := o1.size
  have RW1 := RW0.back rt1
  have i1 := g1.rdI l1
  clear g1 rt1 l1
  go_wp2_with fail
  refine (rbytes_rt RW1.here).mono ?_
  rintro e w2 ⟨v2, x2, s2, H2, rfl, g2, l2, rt2⟩
  obtain ⟨a2, c2, rfl⟩ := g2.1
  have o2 := rt2.only
  have m2 := o2.size
  have RW2 := RW1.back rt2
  have i2 := g2.rdI l2
  clear g2 rt2 l2
  replace i1 := i1.keep o2 (fun k hk => by simp only [List.mem_singleton] at hk; omega)
  go_wp2_with fail
  refine (rbytes_rt RW2.here).mono ?_
  rintro e w3 ⟨v3, x3, s3, H3, rfl, g3, l3, rt3⟩
  obtain ⟨a3, c3, rfl⟩ := g3.1
  have o3 := rt3.only
  have m3 := o3.size
  have RW3 := RW2.back rt3
  have i3 := g3.rdI l3
  clear g3 rt3 l3
  replace i1 := i1.keep o3 (fun k hk => by simp only [List.mem_singleton] at hk; omega)
  replace i2 := i2.keep o3 (fun k hk => by simp only [List.mem_singleton] at hk; omega)
  have hA3 := ((o1.trans o2).trans o3).at hA hAR
  have hob : ([.slice a1 x1.length c1, .slice a2 x2.length c2, .slice a3 x3.length c3, .slice none 0 0, .int .u32 0, .slice none 0 0, .int .u32 0, .int .u32 0, .pointer none] : List Value).toArray.all (·.oneCell') = true := by simp [Value.oneCell']
  go_wp2_with (first
    | (refine wpList_alloc_new rfl 95 rfl (.agg #[.slice none 0 0, .slice none 0 0, .slice none 0 0, .slice none 0 0, .int .u32 0, .slice none 0 0, .int .u32 0, .int .u32 0, .pointer none]) (fun _ => by kernel_rfl) ?_; intro T wT oT hTl hT)
    | (refine wpList_store_blk rfl 95 _ _ rfl T [.slice a1 x1.length c1, .slice a2 x2.length c2, .slice a3 x3.length c3, .slice none 0 0, .int .u32 0, .slice none 0 0, .int .u32 0, .int .u32 0, .pointer none] rfl rfl hT rfl (by kernel_rfl) hob ?_; intro wU oU hTU; have oTU := oT.new oU (fun i hi => by simp only [List.mem_singleton] at hi; omega); have mU := oTU.size; have hTlt := (Array.getElem?_eq_some_iff.1 hTU).1; clear hT oT oU))
  have hTR : T ∉ [R] := by simp; omega
  have hAU := oTU.at hA3 (by simp)
  have RWU := RW3.new oTU
  replace i1 := i1.keep oTU (by simp)
  replace i2 := i2.keep oTU (by simp)
  replace i3 := i3.keep oTU (by simp)
  refine (rbytes_rt RWU.here).mono ?_
  rintro e w4 ⟨v4, x4, s4, H4, rfl, g4, l4, rt4⟩
  obtain ⟨a4, c4, rfl⟩ := g4.1
  have o4 := rt4.only
  have m4 := o4.size
  have RW4 := RWU.back rt4
  have i4 := g4.rdI l4
  clear g4 rt4 l4
  replace i1 := i1.keep o4 (fun k hk => by simp only [List.mem_singleton] at hk; omega)
  replace i2 := i2.keep o4 (fun k hk => by simp only [List.mem_singleton] at hk; omega)
  replace i3 := i3.keep o4 (fun k hk => by simp only [List.mem_singleton] at hk; omega)
  have hT4 := o4.at hTU hTR
  go_wp2_with fail
  refine (rnum_rt RW4.here).mono ?_
  rintro e w5 ⟨n5, s5, H5, rfl, p5, q5, rt5⟩
  have hn5 : IntKind.u32.wrap n5 = n5 := wrap_u32 ⟨p5, q5⟩
  have o5 := rt5.only
  have m5 := o5.size
  have RW5 := RW4.back rt5
  clear rt5
  replace i1 := i1.keep o5 (fun k hk => by simp only [List.mem_singleton] at hk; omega)
  replace i2 := i2.keep o5 (fun k hk => by simp only [List.mem_singleton] at hk; omega)
  replace i3 := i3.keep o5 (fun k hk => by simp only [List.mem_singleton] at hk; omega)
  replace i4 := i4.keep o5 (fun k hk => by simp only [List.mem_singleton] at hk; omega)
  have hT5 := o5.at hT4 hTR
  have ho6 : ([.slice a4 x4.length c4, .int .u32 n5] : List Value).toArray.all (·.oneCell') = true := by simp [Value.oneCell']
  go_wp2_with (refine wpList_store_at rfl 92 _ _ rfl T 3 [.slice a4 x4.length c4, .int .u32 n5] rfl rfl hT5 (by simp) (by kernel_rfl) ho6 ?_; intro w6 o6 hT6)
  have hT6 : w6.heap[T]? = some (.cells #[.slice a1 x1.length c1, .slice a2 x2.length c2, .slice a3 x3.length c3, .slice a4 x4.length c4, .int .u32 n5, .slice none 0 0, .int .u32 0, .int .u32 0, .pointer none] 95 (0, 0)) := hT6
  have m6 := o6.size
  have RW6 := RW5.keep o6 (fun k hk => by simp only [List.mem_singleton] at hk; omega)
  replace i1 := i1.keep o6 (fun k hk => by simp only [List.mem_singleton] at hk; omega)
  replace i2 := i2.keep o6 (fun k hk => by simp only [List.mem_singleton] at hk; omega)
  replace i3 := i3.keep o6 (fun k hk => by simp only [List.mem_singleton] at hk; omega)
  replace i4 := i4.keep o6 (fun k hk => by simp only [List.mem_singleton] at hk; omega)
  refine (rbytes_rt RW6.here).mono ?_
  rintro e w7 ⟨v7, x7, s7, H7, rfl, g7, l7, rt7⟩
  obtain ⟨a7, c7, rfl⟩ := g7.1
  have o7 := rt7.only
  have m7 := o7.size
  have RW7 := RW6.back rt7
  have i7 := g7.rdI l7
  clear g7 rt7 l7
  replace i1 := i1.keep o7 (fun k hk => by simp only [List.mem_singleton] at hk; omega)
  replace i2 := i2.keep o7 (fun k hk => by simp only [List.mem_singleton] at hk; omega)
  replace i3 := i3.keep o7 (fun k hk => by simp only [List.mem_singleton] at hk; omega)
  replace i4 := i4.keep o7 (fun k hk => by simp only [List.mem_singleton] at hk; omega)
  have hT7 := o7.at hT6 hTR
  go_wp2_with fail
  refine (rnum_rt RW7.here).mono ?_
  rintro e w8 ⟨n8, s8, H8, rfl, p8, q8, rt8⟩
  have hn8 : IntKind.u32.wrap n8 = n8 := wrap_u32 ⟨p8, q8⟩
  have o8 := rt8.only
  have m8 := o8.size
  have RW8 := RW7.back rt8
  clear rt8
  replace i1 := i1.keep o8 (fun k hk => by simp only [List.mem_singleton] at hk; omega)
  replace i2 := i2.keep o8 (fun k hk => by simp only [List.mem_singleton] at hk; omega)
  replace i3 := i3.keep o8 (fun k hk => by simp only [List.mem_singleton] at hk; omega)
  replace i4 := i4.keep o8 (fun k hk => by simp only [List.mem_singleton] at hk; omega)
  replace i7 := i7.keep o8 (fun k hk => by simp only [List.mem_singleton] at hk; omega)
  have hT8 := o8.at hT7 hTR
  have ho9 : ([.slice a7 x7.length c7, .int .u32 n8] : List Value).toArray.all (·.oneCell') = true := by simp [Value.oneCell']
  go_wp2_with (refine wpList_store_at rfl 92 _ _ rfl T 5 [.slice a7 x7.length c7, .int .u32 n8] rfl rfl hT8 (by simp) (by kernel_rfl) ho9 ?_; intro w9 o9 hT9)
  have hT9 : w9.heap[T]? = some (.cells #[.slice a1 x1.length c1, .slice a2 x2.length c2, .slice a3 x3.length c3, .slice a4 x4.length c4, .int .u32 n5, .slice a7 x7.length c7, .int .u32 n8, .int .u32 0, .pointer none] 95 (0, 0)) := hT9
  have m9 := o9.size
  have RW9 := RW8.keep o9 (fun k hk => by simp only [List.mem_singleton] at hk; omega)
  replace i1 := i1.keep o9 (fun k hk => by simp only [List.mem_singleton] at hk; omega)
  replace i2 := i2.keep o9 (fun k hk => by simp only [List.mem_singleton] at hk; omega)
  replace i3 := i3.keep o9 (fun k hk => by simp only [List.mem_singleton] at hk; omega)
  replace i4 := i4.keep o9 (fun k hk => by simp only [List.mem_singleton] at hk; omega)
  replace i7 := i7.keep o9 (fun k hk => by simp only [List.mem_singleton] at hk; omega)
  refine (rnum_rt RW9.here).mono ?_
  rintro e w10 ⟨n10, s10, H10, rfl, p10, q10, rt10⟩
  have hn10 : IntKind.u32.wrap n10 = n10 := wrap_u32 ⟨p10, q10⟩
  have o10 := rt10.only
  have m10 := o10.size
  have RW10 := RW9.back rt10
  clear rt10
  replace i1 := i1.keep o10 (fun k hk => by simp only [List.mem_singleton] at hk; omega)
  replace i2 := i2.keep o10 (fun k hk => by simp only [List.mem_singleton] at hk; omega)
  replace i3 := i3.keep o10 (fun k hk => by simp only [List.mem_singleton] at hk; omega)
  replace i4 := i4.keep o10 (fun k hk => by simp only [List.mem_singleton] at hk; omega)
  replace i7 := i7.keep o10 (fun k hk => by simp only [List.mem_singleton] at hk; omega)
  have hT10 := o10.at hT9 hTR
  go_wp2_with (refine wpList_store_cell rfl 88 _ _ rfl T 7 (.int .u32 n10) rfl rfl rfl hT10 (by simp) (by kernel_rfl) rfl ?_; intro w11 o11 hT11)
  have hT11 : w11.heap[T]? = some (.cells #[.slice a1 x1.length c1, .slice a2 x2.length c2, .slice a3 x3.length c3, .slice a4 x4.length c4, .int .u32 n5, .slice a7 x7.length c7, .int .u32 n8, .int .u32 n10, .pointer none] 95 (0, 0)) := hT11
  have m11 := o11.size
  have RW11 := RW10.keep o11 (fun k hk => by simp only [List.mem_singleton] at hk; omega)
  replace i1 := i1.keep o11 (fun k hk => by simp only [List.mem_singleton] at hk; omega)
  replace i2 := i2.keep o11 (fun k hk => by simp only [List.mem_singleton] at hk; omega)
  replace i3 := i3.keep o11 (fun k hk => by simp only [List.mem_singleton] at hk; omega)
  replace i4 := i4.keep o11 (fun k hk => by simp only [List.mem_singleton] at hk; omega)
  replace i7 := i7.keep o11 (fun k hk => by simp only [List.mem_singleton] at hk; omega)
  refine (sread_any RW11.here).mono ?_
  rintro e w12 ⟨r, s12, H12, rt12, hr⟩
  have o12 := rt12.only
  have m12 := o12.size
  have RW12 := RW11.back rt12
  have hT12 := o12.at hT11 hTR
  have hA12 := ((((((((o4.trans o5).mono (L' := [R, T]) (by simp +contextual)).trans (o6.mono (by simp +contextual))).trans ((o7.trans o8).mono (by simp +contextual))).trans (o9.mono (by simp +contextual))).trans (o10.mono (by simp +contextual))).trans (o11.mono (by simp +contextual))).trans (o12.mono (by simp +contextual))).at hAU (by simp; omega)
  clear rt12
  replace i1 := i1.keep o12 (fun k hk => by simp only [List.mem_singleton] at hk; omega)
  replace i2 := i2.keep o12 (fun k hk => by simp only [List.mem_singleton] at hk; omega)
  replace i3 := i3.keep o12 (fun k hk => by simp only [List.mem_singleton] at hk; omega)
  replace i4 := i4.keep o12 (fun k hk => by simp only [List.mem_singleton] at hk; omega)
  replace i7 := i7.keep o12 (fun k hk => by simp only [List.mem_singleton] at hk; omega)
  cases r with
  | none =>
    obtain ⟨q, rfl⟩ := hr
    have hpS : Hid (pSta s = (none, s12)) := by
      show _ = _
      simp only [pSta, H1.out, H2.out, H3.out, H4.out, H5.out, H7.out, H8.out, H10.out, H12]
      rfl
    have hoz : ([.slice none 0 0, .slice none 0 0, .slice none 0 0, .slice none 0 0, .int .u32 0, .slice none 0 0, .int .u32 0, .int .u32 0, .pointer none] : List Value).toArray.all (·.oneCell') = true := by simp [Value.oneCell']
    go_wp2_with (first
      | (refine wpList_store_cell rfl 93 _ _ rfl T 8 (.pointer q) rfl rfl rfl hT12 (by simp) (by kernel_rfl) rfl ?_; intro w13 o13 hT13; have hA13 := o13.at hA12 (by simp; omega))
      | (refine wpList_store_blk rfl 95 _ _ rfl A [.slice none 0 0, .slice none 0 0, .slice none 0 0, .slice none 0 0, .int .u32 0, .slice none 0 0, .int .u32 0, .int .u32 0, .pointer none] rfl rfl hA13 rfl (by kernel_rfl) hoz ?_; intro w14 o14 hA14))
    have d0 : w14.cell? ⟨A, 0, none⟩ = some (.slice none 0 0) := cell_in hA14 0
    have d1 : w14.cell? ⟨A, 1, none⟩ = some (.slice none 0 0) := cell_in hA14 1
    have d2 : w14.cell? ⟨A, 2, none⟩ = some (.slice none 0 0) := cell_in hA14 2
    have d3 : w14.cell? ⟨A, 3, none⟩ = some (.slice none 0 0) := cell_in hA14 3
    have d4 : w14.cell? ⟨A, 4, none⟩ = some (.int .u32 0) := cell_in hA14 4
    have d5 : w14.cell? ⟨A, 5, none⟩ = some (.slice none 0 0) := cell_in hA14 5
    have d6 : w14.cell? ⟨A, 6, none⟩ = some (.int .u32 0) := cell_in hA14 6
    have d7 : w14.cell? ⟨A, 7, none⟩ = some (.int .u32 0) := cell_in hA14 7
    have d8 : w14.cell? ⟨A, 8, none⟩ = some (.pointer none) := cell_in hA14 8
    clear hT13 hT12 hA13 hA12
    refine bodyPost_ret (v := .tuple #[.agg #[.slice none 0 0, .slice none 0 0, .slice none 0 0, .slice none 0 0, .int .u32 0, .slice none 0 0, .int .u32 0, .int .u32 0, .pointer none], .bool false]) (by simp [results, Try.results75, go_sem, d0, d1, d2, d3, d4, d5, d6, d7, d8]) rfl ?_
    exact ⟨none, s12, hpS.out, (RW12.keep o13 (fun k hk => by simp only [List.mem_singleton] at hk; omega)).keep o14 (fun k hk => by simp only [List.mem_singleton] at hk; omega), rfl⟩
  | some l' =>
    obtain ⟨S, l, rfl, hSto, hlm, hl32⟩ := hr
    have hpS : Hid (pSta s = (some ⟨x1, x2, x3, x4, n5, x7, n8, n10, l'⟩, s12)) := by
      show _ = _
      simp only [pSta, H1.out, H2.out, H3.out, H4.out, H5.out, H7.out, H8.out, H10.out, H12]
      rfl
    have hoz : ([.slice a1 x1.length c1, .slice a2 x2.length c2, .slice a3 x3.length c3, .slice a4 x4.length c4, .int .u32 n5, .slice a7 x7.length c7, .int .u32 n8, .int .u32 n10, .pointer (some ⟨S, 0, none⟩)] : List Value).toArray.all (·.oneCell') = true := by simp [Value.oneCell']
    go_wp2_with (first
      | (refine wpList_store_cell rfl 93 _ _ rfl T 8 (.pointer (some ⟨S, 0, none⟩)) rfl rfl rfl hT12 (by simp) (by kernel_rfl) rfl ?_; intro w13 o13 hT13; have hA13 := o13.at hA12 (by simp; omega); have hT13 : w13.heap[T]? = some (.cells #[.slice a1 x1.length c1, .slice a2 x2.length c2, .slice a3 x3.length c3, .slice a4 x4.length c4, .int .u32 n5, .slice a7 x7.length c7, .int .u32 n8, .int .u32 n10, .pointer (some ⟨S, 0, none⟩)] 95 (0, 0)) := hT13)
      | (refine wpList_load_blk rfl 95 _ rfl T rfl [.slice a1 x1.length c1, .slice a2 x2.length c2, .slice a3 x3.length c3, .slice a4 x4.length c4, .int .u32 n5, .slice a7 x7.length c7, .int .u32 n8, .int .u32 n10, .pointer (some ⟨S, 0, none⟩)] _ hT13 Try.underlying95 (by rfl) (by kernel_rfl) ?_)
      | (refine wpList_store_blk rfl 95 _ _ rfl A [.slice a1 x1.length c1, .slice a2 x2.length c2, .slice a3 x3.length c3, .slice a4 x4.length c4, .int .u32 n5, .slice a7 x7.length c7, .int .u32 n8, .int .u32 n10, .pointer (some ⟨S, 0, none⟩)] rfl rfl hA13 rfl (by kernel_rfl) hoz ?_; intro w14 o14 hA14))
    have d0 : w14.cell? ⟨A, 0, none⟩ = some (.slice a1 x1.length c1) := cell_in hA14 0
    have d1 : w14.cell? ⟨A, 1, none⟩ = some (.slice a2 x2.length c2) := cell_in hA14 1
    have d2 : w14.cell? ⟨A, 2, none⟩ = some (.slice a3 x3.length c3) := cell_in hA14 2
    have d3 : w14.cell? ⟨A, 3, none⟩ = some (.slice a4 x4.length c4) := cell_in hA14 3
    have d4 : w14.cell? ⟨A, 4, none⟩ = some (.int .u32 n5) := cell_in hA14 4
    have d5 : w14.cell? ⟨A, 5, none⟩ = some (.slice a7 x7.length c7) := cell_in hA14 5
    have d6 : w14.cell? ⟨A, 6, none⟩ = some (.int .u32 n8) := cell_in hA14 6
    have d7 : w14.cell? ⟨A, 7, none⟩ = some (.int .u32 n10) := cell_in hA14 7
    have d8 : w14.cell? ⟨A, 8, none⟩ = some (.pointer (some ⟨S, 0, none⟩)) := cell_in hA14 8
    have m13 := o13.size
    have m14 := o14.size
    clear hT13 hT12 hA13 hA12
    refine bodyPost_ret (v := .tuple #[.agg #[.slice a1 x1.length c1, .slice a2 x2.length c2, .slice a3 x3.length c3, .slice a4 x4.length c4, .int .u32 n5, .slice a7 x7.length c7, .int .u32 n8, .int .u32 n10, .pointer (some ⟨S, 0, none⟩)], .bool true]) (by simp [results, Try.results75, go_sem, d0, d1, d2, d3, d4, d5, d6, d7, d8]) rfl ?_
    refine ⟨some _, s12, hpS.out, (RW12.keep o13 (fun k hk => by simp only [List.mem_singleton] at hk; omega)).keep o14 (fun k hk => by simp only [List.mem_singleton] at hk; omega), ⟨⟨x1, x2, x3, x4, n5, x7, n8, n10, l'⟩, .slice a1 x1.length c1, .slice a2 x2.length c2, .slice a3 x3.length c3, .slice a4 x4.length c4, .slice a7 x7.length c7, some S, l, ⟨rfl, rfl, rfl, rfl, rfl⟩⟩, rfl, rfl, ?_, hl32⟩
    exact ⟨((i1.keep o13 (fun k hk => by simp only [List.mem_singleton] at hk; omega)).keep o14 (fun k hk => by simp only [List.mem_singleton] at hk; omega)).wide (by omega) (by omega), ((i2.keep o13 (fun k hk => by simp only [List.mem_singleton] at hk; omega)).keep o14 (fun k hk => by simp only [List.mem_singleton] at hk; omega)).wide (by omega) (by omega), ((i3.keep o13 (fun k hk => by simp only [List.mem_singleton] at hk; omega)).keep o14 (fun k hk => by simp only [List.mem_singleton] at hk; omega)).wide (by omega) (by omega), ((i4.keep o13 (fun k hk => by simp only [List.mem_singleton] at hk; omega)).keep o14 (fun k hk => by simp only [List.mem_singleton] at hk; omega)).wide (by omega) (by omega), ((i7.keep o13 (fun k hk => by simp only [List.mem_singleton] at hk; omega)).keep o14 (fun k hk => by simp only [List.mem_singleton] at hk; omega)).wide (by omega) (by omega), ⟨p5, q5⟩, ⟨p8, q8⟩, ⟨p10, q10⟩, ((hSto.keep o13 (fun k hk => by simp only [List.mem_singleton] at hk; omega)).keep o14 (fun k hk => by simp only [List.mem_singleton] at hk; omega)).wide (by omega) (by omega), hlm.symm⟩
end Go.Proofs.Ytdlbkdnpbcpjfaa
