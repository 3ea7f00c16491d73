/- DeviceSends: the tied card of the law. No condition beyond the row's own. -/
import Derived.Test.YtjfmelmiegnmjaaGreatDoorXSnDSends
import Derived.ChangeSlices
import Derived.Test.YtjfmelmiegnmjaaGreatDoorTDeviceSends
set_option linter.all false
open Go Go.Sx Go.Proofs Go.RowKit
set_option linter.all false
namespace Go.Proofs.YtjfmelmiegnmjaaGreatDoor
set_option maxRecDepth 100000
/-- A slice of bytes that came in: empty; or a text in a block of cells. -/
theorem reads_text {P : Program} {W : World} {t e : TypeId} {cs : List Value} (hT : P.underlying t = some (.slice e)) (hE : P.underlying e = some (.int .u8)) (hc : P.cellsOf e = 1) (h : Reads P W t cs) :
    ∃ (ao : Option Addr) (n c : Nat), cs = [.slice ao n c] ∧ n ≤ c ∧ c ≤ 9223372036854775807 ∧ (ao = none → c = 0) ∧
      (0 < n → ∃ b o ds T fr, ao = some ⟨b, o, none⟩ ∧ W.heap[b]? = some (.cells ds T fr) ∧ o + n ≤ ds.size ∧ ∀ i, i < n → ∃ v : Nat, v < 256 ∧ ds[o + i]? = some (.int .u8 v)) := by
  obtain ⟨H, enc, fuel, x, h⟩ := h
  rcases Go.ChangeShapes.open_ints hT hE hc h with ⟨rfl, _⟩ | ⟨a, len, cap, zs, rfl, _, hl, hm, hz, _, hcell, hwz⟩
  · exact ⟨none, 0, 0, rfl, Nat.le_refl _, by omega, fun _ => rfl, fun h => by omega⟩
  · have hzl : zs.length = cap := by simpa using hz
    refine ⟨some a, len, cap, rfl, hl, by unfold maxLen at hm; exact hm, (fun h => by cases h), fun hn => ?_⟩
    have hb : ∀ i, i < zs.length → ∃ v : Nat, v < 256 ∧ zs.getD i 0 = (v : Int) := fun i hi => by
      have hw := hwz zs[i] (List.getElem_mem hi)
      rw [List.getD_eq_getElem?_getD, List.getElem?_eq_getElem hi]
      simp [Lit.wf, IntKind.min, IntKind.max, IntKind.signed, IntKind.bits] at hw
      exact ⟨zs[i].toNat, by omega, by show zs[i] = _; omega⟩
    obtain ⟨b, o, s⟩ := a
    have c0 := hcell 0 (by omega)
    unfold Addr.add at c0
    rw [if_pos rfl] at c0
    unfold World.cell? at c0
    cases hh : W.heap[b]? with
    | none => simp only [hh] at c0; cases c0
    | some ob =>
      cases ob with
      | cells ds T fr =>
        simp only [hh] at c0
        cases s with
        | some k => simp at c0
        | none =>
          have each : ∀ i, i < len → ∃ v : Nat, v < 256 ∧ ds[o + i]? = some (.int .u8 v) := fun i hi => by
            obtain ⟨v, hv1, hv2⟩ := hb i (by omega)
            have := hcell i (by omega)
            rw [hv2] at this
            refine ⟨v, hv1, ?_⟩
            unfold Addr.add at this
            by_cases h0 : i = 0
            · subst h0
              rw [if_pos rfl] at this
              unfold World.cell? at this
              simp only [hh, Option.isSome_none, Bool.false_eq_true, if_false] at this
              exact this
            · rw [if_neg h0] at this
              unfold World.cell? at this
              simp only [hh, Option.isSome_none, Bool.false_eq_true, if_false] at this
              exact this
          refine ⟨b, o, ds, T, fr, rfl, hh, ?_, each⟩
          obtain ⟨v, _, hv⟩ := each (len - 1) (by omega)
          have := (Array.getElem?_eq_some_iff.1 hv).1
          omega
      | _ => simp only [hh] at c0; cases c0

theorem byte_loc (v : Nat) (h : v < 256) : ∃ l : Sx.Loc, l.len = v := ⟨⟨0, 0, v⟩, by unfold Sx.Loc.len; show v % 18446744073709551616 = v; omega⟩

/-- What came in is said by names. -/
theorem ctx_of {W : World} {E : Nat → Nat} (hW : ∀ id c, (id, c) ∈ roW → BlkOK (env0 Tryz.prog) W id (.mk (E id) 0 c)) (hne : ∀ id c', (id, c') ∈ roW → ∃ c el fr, W.heap[id]? = some (.cells c el fr) ∧ ∀ (j : Nat) (u : Value), c[j]? = some u → ∃ k z, u = .int k z ∧ k ≠ .u8)
    {t : Int} {ao : Option Addr} {n c : Nat} (ht : -9223372036854775808 ≤ t ∧ t ≤ 9223372036854775807)
    (hnc : n ≤ c) (hc : c ≤ 9223372036854775807) (hao : ao = none → c = 0)
    (htx : 0 < n → ∃ b o ds T fr, ao = some ⟨b, o, none⟩ ∧ W.heap[b]? = some (.cells ds T fr) ∧ o + n ≤ ds.size ∧ ∀ i, i < n → ∃ v : Nat, v < 256 ∧ ds[o + i]? = some (.int .u8 v)) :
    ∃ ls, Ctx W E ls t ao n c := by
  obtain ⟨lt, hlt⟩ := Sx.Loc.int_of t
  have hgl := Nat.le_of_ble_eq_true hglW
  by_cases h0 : n = 0
  · subst h0
    obtain ⟨l0, ha, hb⟩ := Sx.Loc.at0_of ao (c := c) (by omega)
    refine ⟨[l0, l0, l0, l0, lt], hW, ht, ⟨lt, rfl, hlt⟩, by omega, fun _ => ?_, fun lo hi h1 h2 _ => by omega, fun h => by omega⟩
    exact den_slcU ((nm_at (by decide) (by decide)).trans rfl) ha hb hao hc
  · obtain ⟨b, o, ds, T, fr, rfl, hb, hsz, hby⟩ := htx (by omega)
    have hall : ∀ j, ∃ l : Sx.Loc, j < n → l.len < 256 ∧ ds[o + j]? = some (.int .u8 (.ofNat l.len)) := fun j => by
      by_cases hj : j < n
      · obtain ⟨v, h1, h2⟩ := hby j hj
        obtain ⟨l, hl⟩ := byte_loc v h1
        exact ⟨l, fun _ => by rw [hl]; exact ⟨h1, h2⟩⟩
      · exact ⟨⟨0, 0, 0⟩, fun h => absurd h hj⟩
    obtain ⟨f, hf⟩ := Classical.axiomOfChoice hall
    obtain ⟨p1, p2⟩ := packT (a := n) (b := c) (by omega) ⟨b, o, 0⟩
    have hT : ∀ (ls : List Sx.Loc), nmW ls 200 = some ⟨b, o, n + 18446744073709551616 * c⟩ → nmW ls 201 = some (f 0) → nmW ls 202 = some (f 1) → nmW ls 203 = some (f 2) → ∀ (m : Nat) (pre : List AV), m ≤ n → (∃ us, denL (envN Tryz.prog (nmW ls)) pre = some us ∧ pre.all AV.one = true ∧ us.length ≤ m ∧ ∀ j u, us[j]? = some u → ds[o + j]? = some u) → ∃ T, Rep (envN Tryz.prog (nmW ls)) (stX roW E T pre).get W := by
      intro ls e0 e1 e2 e3 m pre hm ⟨us, g1, g2, g3, g4⟩
      refine ⟨T, rep_stY hroW hgl hW (l := ⟨b, o, n + 18446744073709551616 * c⟩) e0 hb g1 g2 ?_ ?_ g4 ?_ ?_ ?_⟩
      · rw [p1]; omega
      · rw [p1]; exact hsz
      · intro j hj
        rw [p1] at hj
        exact hby j hj
      · rw [p1, p2]; exact ⟨hnc, hc⟩
      · intro id c' hm' hid
        obtain ⟨c0, el, fr0, q1, q2⟩ := hne id c' hm'
        have hid : id = b := hid
        rw [← hid] at hb
        rw [q1] at hb
        injection hb with hb
        injection hb with hb _ _
        obtain ⟨v, _, hv⟩ := hby 0 (by omega)
        rw [← hb] at hv
        obtain ⟨kd, z, hz, hk⟩ := q2 _ _ hv
        injection hz with hz _
        exact hk hz.symm
    have tok : ∀ (ls : List Sx.Loc) (id j : Nat), 200 ≤ id → id < 256 → nmW ls id = some (f j) → j < n → den (envN Tryz.prog (nmW ls)) (.tok .u8 id 0 255) = some (.int .u8 (.ofNat (f j).len)) := fun ls id j h1 h2 h3 h4 => by
      have := (hf j h4).1
      exact den_tok ((nm_at h1 h2).trans h3) (Nat.zero_le _) (by omega)
    refine ⟨[⟨b, o, n + 18446744073709551616 * c⟩, f 0, f 1, f 2, lt], hW, ht, ⟨lt, rfl, hlt⟩, by omega, fun h => absurd h h0, fun lo hi h1 h2 h3 => ?_, fun h => ?_⟩
    · have := den_slcT (σ := envN Tryz.prog (nmW [⟨b, o, n + 18446744073709551616 * c⟩, f 0, f 1, f 2, lt])) (id := 200) (lo := lo) (hi := hi) (l := ⟨b, o, n + 18446744073709551616 * c⟩) ((nm_at (by decide) (by decide)).trans rfl) (by rw [p1]; exact h2) (by rw [p1]; exact h3)
      rw [p1, p2] at this
      exact this
    · refine hT _ rfl rfl rfl rfl 1 pre1 h ⟨[.int .u8 (.ofNat (f 0).len)], denL_cons' (tok _ 201 0 (by decide) (by decide) rfl (by omega)) denL_nil', rfl, Nat.le_refl _, fun j u hu => ?_⟩
      match j, hu with
      | 0, hu => obtain rfl := Option.some.inj hu; exact (hf 0 (by omega)).2

theorem laid_ne {laid : List (String × DataW Unit)} {W : World} (h : laidMet Tryz.prog laid W) {n1 n2 n3 : String} {d1 d2 d3 : DataW Unit} (i1 : (n1, d1) ∈ laid) (i2 : (n2, d2) ∈ laid) (i3 : (n3, d3) ∈ laid)
    (e1 : d1 = Lib.tabData .u32 fsts) (e2 : d2 = Lib.tabData .u32 rnds) (e3 : d3 = Lib.tabData .u64 pows) (g1 : Tryz.prog.globalNamed n1 = some 1) (g2 : Tryz.prog.globalNamed n2 = some 2) (g3 : Tryz.prog.globalNamed n3 = some 5) :
    ∀ id c', (id, c') ∈ roW → ∃ c el fr, W.heap[id]? = some (.cells c el fr) ∧ ∀ (j : Nat) (u : Value), c[j]? = some u → ∃ k z, u = .int k z ∧ k ≠ .u8 := by
  subst e1 e2 e3
  obtain ⟨c1, el1, fr1, a1, b1⟩ := laid_tab_obj h i1 g1 tFst Tryz.underlying394 Tryz.underlying24 (by kernel_rfl) (by kernel_rfl) (by decide)
  obtain ⟨c2, el2, fr2, a2, b2⟩ := laid_tab_obj h i2 g2 tRnd Tryz.underlying465 Tryz.underlying24 (by kernel_rfl) (by kernel_rfl) (by decide)
  obtain ⟨c3, el3, fr3, a3, b3⟩ := laid_tab_obj h i3 g3 tPow Tryz.underlying505 Tryz.underlying42 (by kernel_rfl) (by kernel_rfl) (by decide)
  intro id c' hm
  simp only [roW, List.mem_cons, List.not_mem_nil, or_false, Prod.mk.injEq] at hm
  rcases hm with ⟨rfl, _⟩ | ⟨rfl, _⟩ | ⟨rfl, _⟩
  · refine ⟨c1, el1, fr1, a1, fun j u hj => ?_⟩
    obtain ⟨z, hz⟩ := b1 j u hj
    exact ⟨_, z, hz, by decide⟩
  · refine ⟨c2, el2, fr2, a2, fun j u hj => ?_⟩
    obtain ⟨z, hz⟩ := b2 j u hj
    exact ⟨_, z, hz, by decide⟩
  · refine ⟨c3, el3, fr3, a3, fun j u hj => ?_⟩
    obtain ⟨z, hz⟩ := b3 j u hj
    exact ⟨_, z, hz, by decide⟩
theorem u8_in {H : Type} {enc : TypeId × Value → H} {base : Nat} {W : World} {v : Value} {d : DataW H} {p : List MemPlace} (k0 : Value.okWide Tryz.prog W .any base 5 v) (t0 : DataW.Trod enc Tryz.prog W 0 (fun _ => true) true 5 v d p) : ∃ m : Nat, m < 256 ∧ v = .int .u8 m := by
  obtain ⟨n, rfl⟩ := Go.WideShapes.okWide_int Tryz.underlying5 k0
  obtain ⟨n', he, hw⟩ := reads_int Tryz.underlying5 (reads_of t0)
  obtain rfl : n = n' := by simpa [Value.cells] using he
  have h0 : 0 ≤ n ∧ n < 256 := by
    simp [Lit.wf, IntKind.min, IntKind.max, IntKind.signed, IntKind.bits] at hw
    omega
  obtain ⟨m, rfl⟩ := Int.eq_ofNat_of_zero_le h0.1
  exact ⟨m, by have := h0.2; omega, rfl⟩
theorem int_in {H : Type} {enc : TypeId × Value → H} {base : Nat} {W : World} {v : Value} {d : DataW H} {p : List MemPlace} (k0 : Value.okWide Tryz.prog W .any base 3 v) (t0 : DataW.Trod enc Tryz.prog W 0 (fun _ => true) true 3 v d p) : ∃ t : Int, (-9223372036854775808 ≤ t ∧ t ≤ 9223372036854775807) ∧ v = .int .i64 t := by
  obtain ⟨n, rfl⟩ := Go.WideShapes.okWide_int Tryz.underlying3 k0
  obtain ⟨n', he, hw⟩ := reads_int Tryz.underlying3 (reads_of t0)
  obtain rfl : n = n' := by simpa [Value.cells] using he
  refine ⟨n, ?_, rfl⟩
  simp [Lit.wf, IntKind.min, IntKind.max, IntKind.signed, IntKind.bits] at hw
  omega
theorem deviceSends_walk : deviceSends.Walk := by
  intro H enc base W v0 v1 v2 d0 p0 d1 p1 d2 p2 hL k0 t0 k1 t1 k2 t2
  obtain ⟨m, hm, rfl⟩ := u8_in k0 t0
  obtain ⟨t, ht, rfl⟩ := int_in k1 t1
  obtain ⟨ao', n', c', rfl⟩ := Go.WideShapes.okWide_slice Tryz.underlying50 k2
  obtain ⟨ao, n, c, he, q1, q2, q3, q4⟩ := reads_text Tryz.underlying50 Tryz.underlying5 (by kernel_rfl) (reads_of t2)
  obtain ⟨rfl, rfl, rfl⟩ : ao' = ao ∧ n' = n ∧ c' = c := by simpa [Value.cells] using he
  rw [MakeChecks.laidMetH_plain _ _ _ (by kernel_rfl)] at hL
  have i1 := List.mem_of_getElem? (show Rows.deviceSendsRow.laid[4]? = some (_, _) from rfl)
  have i2 := List.mem_of_getElem? (show Rows.deviceSendsRow.laid[3]? = some (_, _) from rfl)
  have i3 := List.mem_of_getElem? (show Rows.deviceSendsRow.laid[2]? = some (_, _) from rfl)
  obtain ⟨E, hb⟩ := laid_ro hL i1 i2 i3 (by kernel_rfl) (by kernel_rfl) (by kernel_rfl) (by kernel_rfl) (by kernel_rfl) (by kernel_rfl)
  obtain ⟨ls, C⟩ := ctx_of (E := E) hb (laid_ne hL i1 i2 i3 (by kernel_rfl) (by kernel_rfl) (by kernel_rfl) (by kernel_rfl) (by kernel_rfl) (by kernel_rfl)) ht q1 q2 q3 q4
  exact law_all C m hm

theorem deviceSendsCard_holds : Rows.DeviceSendsCardSaid := deviceSends.card deviceSends_walk
end Go.Proofs.YtjfmelmiegnmjaaGreatDoor
