/- WorldErrs: the tied card of the law. No condition beyond the row's own. -/
import Derived.Test.YtadbbdnjcpaooaaGreatDoorXXv
import Derived.ChangeSlices
import Derived.Test.YtadbbdnjcpaooaaGreatDoorTWorldErrs
set_option linter.all false
open Go Go.Sx Go.Proofs Go.RowKit
set_option linter.all false
namespace Go.Proofs.YtadbbdnjcpaooaaGreatDoor
set_option maxRecDepth 100000
--BEGIN
/-- A slice of bytes that came in: empty; or a text in a block of cells. -/
theorem reads_text {P : Program} {W : World} {t e : TypeId} {cs : List Value} (hT : P.underlying t = some (.slice e)) (hE : P.underlying e = some (.int .u8)) (hc : P.cellsOf e = 1) (h : Reads P W t cs) :
    ∃ (ao : Option Addr) (n c : Nat), cs = [.slice ao n c] ∧ n ≤ c ∧ c ≤ 9223372036854775807 ∧ (ao = none → c = 0) ∧
      (0 < n → ∃ b o ds T fr, ao = some ⟨b, o, none⟩ ∧ W.heap[b]? = some (.cells ds T fr) ∧ o + n ≤ ds.size ∧ ∀ i, i < n → ∃ v : Nat, v < 256 ∧ ds[o + i]? = some (.int .u8 v)) := by
  obtain ⟨H, enc, fuel, x, h⟩ := h
  rcases Go.ChangeShapes.open_ints hT hE hc h with ⟨rfl, _⟩ | ⟨a, len, cap, zs, rfl, _, hl, hm, hz, _, hcell, hwz⟩
  · exact ⟨none, 0, 0, rfl, Nat.le_refl _, by omega, fun _ => rfl, fun h => by omega⟩
  · have hzl : zs.length = cap := by simpa using hz
    refine ⟨some a, len, cap, rfl, hl, by unfold maxLen at hm; exact hm, (fun h => by cases h), fun hn => ?_⟩
    have hb : ∀ i, i < zs.length → ∃ v : Nat, v < 256 ∧ zs.getD i 0 = (v : Int) := fun i hi => by
      have hw := hwz zs[i] (List.getElem_mem hi)
      rw [List.getD_eq_getElem?_getD, List.getElem?_eq_getElem hi]
      simp [Lit.wf, IntKind.min, IntKind.max, IntKind.signed, IntKind.bits] at hw
      exact ⟨zs[i].toNat, by omega, by show zs[i] = _; omega⟩
    obtain ⟨b, o, s⟩ := a
    have c0 := hcell 0 (by omega)
    unfold Addr.add at c0
    rw [if_pos rfl] at c0
    unfold World.cell? at c0
    cases hh : W.heap[b]? with
    | none => simp only [hh] at c0; cases c0
    | some ob =>
      cases ob with
      | cells ds T fr =>
        simp only [hh] at c0
        cases s with
        | some k => simp at c0
        | none =>
          have each : ∀ i, i < len → ∃ v : Nat, v < 256 ∧ ds[o + i]? = some (.int .u8 v) := fun i hi => by
            obtain ⟨v, hv1, hv2⟩ := hb i (by omega)
            have := hcell i (by omega)
            rw [hv2] at this
            refine ⟨v, hv1, ?_⟩
            unfold Addr.add at this
            by_cases h0 : i = 0
            · subst h0
              rw [if_pos rfl] at this
              unfold World.cell? at this
              simp only [hh, Option.isSome_none, Bool.false_eq_true, if_false] at this
              exact this
            · rw [if_neg h0] at this
              unfold World.cell? at this
              simp only [hh, Option.isSome_none, Bool.false_eq_true, if_false] at this
              exact this
          refine ⟨b, o, ds, T, fr, rfl, hh, ?_, each⟩
          obtain ⟨v, _, hv⟩ := each (len - 1) (by omega)
          have := (Array.getElem?_eq_some_iff.1 hv).1
          omega
      | _ => simp only [hh] at c0; cases c0

/-- An act that came in. -/
theorem open_op {W : World} {H : Type} {enc : TypeId × Value → H} {base : Nat} {v : Value} {d : DataW H} {p : List MemPlace} (h0 : Value.okWide Tryz.prog W .any base 25 v) (h1 : DataW.Trod enc Tryz.prog W 0 (fun _ => true) true 25 v d p) :
    ∃ (k d t i : Int) (x : Nat) (ao : Option Addr) (n c : Nat), v = opV k d t i x ao n c ∧ (0 ≤ k ∧ k < 256) ∧ (-9223372036854775808 ≤ d ∧ d ≤ 9223372036854775807) ∧ (-9223372036854775808 ≤ t ∧ t ≤ 9223372036854775807) ∧ (-9223372036854775808 ≤ i ∧ i ≤ 9223372036854775807) ∧ x < 18446744073709551616 ∧
      n ≤ c ∧ c ≤ 9223372036854775807 ∧ (ao = none → c = 0) ∧
      (0 < n → ∃ b o ds T fr, ao = some ⟨b, o, none⟩ ∧ W.heap[b]? = some (.cells ds T fr) ∧ o + n ≤ ds.size ∧ ∀ i, i < n → ∃ v : Nat, v < 256 ∧ ds[o + i]? = some (.int .u8 v)) := by
  obtain ⟨cs, rfl, hsz⟩ := Go.WideShapes.okWide_struct Tryz.underlying25 h0
  have h := reads_of h1
  have hl : cs.toList.length = 6 := (reads_len Tryz.underlying25 h).trans (by kernel_rfl)
  rw [show (Value.agg cs).cells.toList = cs.toList from rfl] at h
  rw [← Array.toArray_toList (xs := cs)]
  generalize cs.toList = l at h hl
  obtain _ | ⟨y0, l⟩ := l
  · simp at hl
  obtain _ | ⟨y1, l⟩ := l
  · simp at hl
  obtain _ | ⟨y2, l⟩ := l
  · simp at hl
  obtain _ | ⟨y3, l⟩ := l
  · simp at hl
  obtain _ | ⟨y4, l⟩ := l
  · simp at hl
  obtain _ | ⟨y5, l⟩ := l
  · simp at hl
  obtain _ | ⟨z, l⟩ := l
  · skip
    have h_0 := reads_field Tryz.underlying25 h 0 (o := 0) (n := 1) (T := 5) rfl (by kernel_rfl)
    obtain ⟨x0, e0, w0⟩ := reads_int Tryz.underlying5 h_0
    have h_1 := reads_field Tryz.underlying25 h 1 (o := 1) (n := 1) (T := 3) rfl (by kernel_rfl)
    obtain ⟨x1, e1, w1⟩ := reads_int Tryz.underlying3 h_1
    have h_2 := reads_field Tryz.underlying25 h 2 (o := 2) (n := 1) (T := 3) rfl (by kernel_rfl)
    obtain ⟨x2, e2, w2⟩ := reads_int Tryz.underlying3 h_2
    have h_3 := reads_field Tryz.underlying25 h 3 (o := 3) (n := 1) (T := 3) rfl (by kernel_rfl)
    obtain ⟨x3, e3, w3⟩ := reads_int Tryz.underlying3 h_3
    have h_4 := reads_field Tryz.underlying25 h 4 (o := 4) (n := 1) (T := 22) rfl (by kernel_rfl)
    obtain ⟨x4, e4, w4⟩ := reads_float Tryz.underlying22 h_4
    have h_5 := reads_field Tryz.underlying25 h 5 (o := 5) (n := 1) (T := 23) rfl (by kernel_rfl)
    obtain ⟨a5, n5, c5, e5, q1, q2, q3, q4⟩ := reads_text Tryz.underlying23 Tryz.underlying5 (by kernel_rfl) h_5
    simp only [List.drop_zero, List.take_succ_cons, List.take_zero, List.drop_succ_cons, List.cons.injEq, and_true] at e0 e1 e2 e3 e4 e5
    subst e0 e1 e2 e3 e4 e5
    have i64w : ∀ n : Int, (Lit.int .i64 n).wf = true → -9223372036854775808 ≤ n ∧ n ≤ 9223372036854775807 := fun n h => by
      simp [Lit.wf, IntKind.min, IntKind.max, IntKind.signed, IntKind.bits] at h
      omega
    refine ⟨x0, x1, x2, x3, x4, a5, n5, c5, rfl, ?_, i64w x1 w1, i64w x2 w2, i64w x3 w3, ?_, q1, q2, q3, q4⟩
    · simp [Lit.wf, IntKind.min, IntKind.max, IntKind.signed, IntKind.bits] at w0
      omega
    · have w4 := of_decide_eq_true w4
      exact w4
  · simp at hl

theorem byte_loc (v : Nat) (h : v < 256) : ∃ l : Sx.Loc, l.len = v := ⟨⟨0, 0, v⟩, by unfold Sx.Loc.len; show v % 18446744073709551616 = v; omega⟩

/-- Each act that came in is said by names. -/
theorem ctx_of {W : World} {E : Nat → Nat} (hW : ∀ id c, (id, c) ∈ roW → BlkOK (env0 Tryz.prog) W id (.mk (E id) 0 c)) (hne : ∃ c el fr, W.heap[3]? = some (.cells c el fr) ∧ ∀ (j : Nat) (u : Value), c[j]? = some u → ∃ z, u = .int .u64 z)
    {k d t i : Int} {x : Nat} {ao : Option Addr} {n c : Nat} (hk : 0 ≤ k ∧ k < 256) (hd : -9223372036854775808 ≤ d ∧ d ≤ 9223372036854775807) (ht : -9223372036854775808 ≤ t ∧ t ≤ 9223372036854775807) (hi : -9223372036854775808 ≤ i ∧ i ≤ 9223372036854775807) (hx : x < 18446744073709551616)
    (hnc : n ≤ c) (hc : c ≤ 9223372036854775807) (hao : ao = none → c = 0)
    (htx : 0 < n → ∃ b o ds T fr, ao = some ⟨b, o, none⟩ ∧ W.heap[b]? = some (.cells ds T fr) ∧ o + n ≤ ds.size ∧ ∀ i, i < n → ∃ v : Nat, v < 256 ∧ ds[o + i]? = some (.int .u8 v)) :
    ∃ ls, Ctx W E ls k d t i x ao n c := by
  obtain ⟨lk, hlk⟩ := Sx.Loc.int_of k
  obtain ⟨ld, hld⟩ := Sx.Loc.int_of d
  obtain ⟨lt, hlt⟩ := Sx.Loc.int_of t
  obtain ⟨li, hli⟩ := Sx.Loc.int_of i
  have hgl := Nat.le_of_ble_eq_true hglW
  by_cases h0 : n = 0
  · subst h0
    obtain ⟨l0, ha, hb⟩ := Sx.Loc.at0_of ao (c := c) (by omega)
    refine ⟨[l0, l0, l0, l0, li, lk, ld, lt, ⟨0, 0, x⟩], hW, hk, hd, ht, hi, hx, ⟨li, rfl, hli⟩, ⟨lk, rfl, hlk⟩, ⟨ld, rfl, hld⟩, ⟨lt, rfl, hlt⟩, ⟨⟨0, 0, x⟩, rfl, rfl⟩, by omega, fun _ => ?_, fun lo hi h1 h2 _ => by omega, fun h => by omega, fun h => by omega, fun h => by omega⟩
    exact den_slcU ((nm_at (by decide) (by decide)).trans rfl) ha hb hao hc
  · obtain ⟨b, o, ds, T, fr, rfl, hb, hsz, hby⟩ := htx (by omega)
    have hall : ∀ j, ∃ l : Sx.Loc, j < n → l.len < 256 ∧ ds[o + j]? = some (.int .u8 (.ofNat l.len)) := fun j => by
      by_cases hj : j < n
      · obtain ⟨v, h1, h2⟩ := hby j hj
        obtain ⟨l, hl⟩ := byte_loc v h1
        exact ⟨l, fun _ => by rw [hl]; exact ⟨h1, h2⟩⟩
      · exact ⟨⟨0, 0, 0⟩, fun h => absurd h hj⟩
    obtain ⟨f, hf⟩ := Classical.axiomOfChoice hall
    obtain ⟨p1, p2⟩ := packT (a := n) (b := c) (by omega) ⟨b, o, 0⟩
    have hT : ∀ (ls : List Sx.Loc), nmW ls 200 = some ⟨b, o, n + 18446744073709551616 * c⟩ → nmW ls 201 = some (f 0) → nmW ls 202 = some (f 1) → nmW ls 203 = some (f 2) → ∀ (m : Nat) (pre : List AV), m ≤ n → (∃ us, denL (envN Tryz.prog (nmW ls)) pre = some us ∧ pre.all AV.one = true ∧ us.length ≤ m ∧ ∀ j u, us[j]? = some u → ds[o + j]? = some u) → ∃ T, Rep (envN Tryz.prog (nmW ls)) (stX roW E T pre).get W := by
      intro ls e0 e1 e2 e3 m pre hm ⟨us, g1, g2, g3, g4⟩
      refine ⟨T, rep_stY hroW hgl hW (l := ⟨b, o, n + 18446744073709551616 * c⟩) e0 hb g1 g2 ?_ ?_ g4 ?_ ?_ ?_⟩
      · rw [p1]; omega
      · rw [p1]; exact hsz
      · intro j hj
        rw [p1] at hj
        exact hby j hj
      · rw [p1, p2]; exact ⟨hnc, hc⟩
      · intro id c' hm' hid
        simp only [roW, List.mem_singleton, Prod.mk.injEq] at hm'
        obtain ⟨rfl, _⟩ := hm'
        obtain ⟨c0, el, fr0, q1, q2⟩ := hne
        have hid : 3 = b := hid
        rw [← hid] at hb
        rw [q1] at hb
        injection hb with hb
        injection hb with hb _ _
        obtain ⟨v, _, hv⟩ := hby 0 (by omega)
        rw [← hb] at hv
        obtain ⟨z, hz⟩ := q2 _ _ hv
        cases hz
    have tok : ∀ (ls : List Sx.Loc) (id j : Nat), 200 ≤ id → id < 256 → nmW ls id = some (f j) → j < n → den (envN Tryz.prog (nmW ls)) (.tok .u8 id 0 255) = some (.int .u8 (.ofNat (f j).len)) := fun ls id j h1 h2 h3 h4 => by
      have := (hf j h4).1
      exact den_tok ((nm_at h1 h2).trans h3) (Nat.zero_le _) (by omega)
    refine ⟨[⟨b, o, n + 18446744073709551616 * c⟩, f 0, f 1, f 2, li, lk, ld, lt, ⟨0, 0, x⟩], hW, hk, hd, ht, hi, hx, ⟨li, rfl, hli⟩, ⟨lk, rfl, hlk⟩, ⟨ld, rfl, hld⟩, ⟨lt, rfl, hlt⟩, ⟨⟨0, 0, x⟩, rfl, rfl⟩, by omega, fun h => absurd h h0, fun lo hi h1 h2 h3 => ?_, fun h => ?_, fun h => ?_, fun h => ?_⟩
    · have := den_slcT (σ := envN Tryz.prog (nmW [⟨b, o, n + 18446744073709551616 * c⟩, f 0, f 1, f 2, li, lk, ld, lt, ⟨0, 0, x⟩])) (id := 200) (lo := lo) (hi := hi) (l := ⟨b, o, n + 18446744073709551616 * c⟩) ((nm_at (by decide) (by decide)).trans rfl) (by rw [p1]; exact h2) (by rw [p1]; exact h3)
      rw [p1, p2] at this
      exact this
    · refine hT _ rfl rfl rfl rfl 1 pre1 h ⟨[.int .u8 (.ofNat (f 0).len)], denL_cons' (tok _ 201 0 (by decide) (by decide) rfl (by omega)) denL_nil', rfl, Nat.le_refl _, fun j u hu => ?_⟩
      match j, hu with
      | 0, hu => obtain rfl := Option.some.inj hu; exact (hf 0 (by omega)).2
    · refine hT _ rfl rfl rfl rfl 2 pre2 h ⟨[.int .u8 (.ofNat (f 0).len), .int .u8 (.ofNat (f 1).len)], denL_cons' (tok _ 201 0 (by decide) (by decide) rfl (by omega)) (denL_cons' (tok _ 202 1 (by decide) (by decide) rfl (by omega)) denL_nil'), rfl, Nat.le_refl _, fun j u hu => ?_⟩
      match j, hu with
      | 0, hu => obtain rfl := Option.some.inj hu; exact (hf 0 (by omega)).2
      | 1, hu => obtain rfl := Option.some.inj hu; exact (hf 1 (by omega)).2
    · refine hT _ rfl rfl rfl rfl 3 pre3 h ⟨[.int .u8 (.ofNat (f 0).len), .int .u8 (.ofNat (f 1).len), .int .u8 (.ofNat (f 2).len)], denL_cons' (tok _ 201 0 (by decide) (by decide) rfl (by omega)) (denL_cons' (tok _ 202 1 (by decide) (by decide) rfl (by omega)) (denL_cons' (tok _ 203 2 (by decide) (by decide) rfl (by omega)) denL_nil')), rfl, Nat.le_refl _, fun j u hu => ?_⟩
      match j, hu with
      | 0, hu => obtain rfl := Option.some.inj hu; exact (hf 0 (by omega)).2
      | 1, hu => obtain rfl := Option.some.inj hu; exact (hf 1 (by omega)).2
      | 2, hu => obtain rfl := Option.some.inj hu; exact (hf 2 (by omega)).2

theorem tPow : (Tryz.prog.globals[3]?).map (·.type) = some 530 := by kernel_rfl

/-- In a world in which the variables are laid the table is there. -/
theorem laid_ro {laid : List (String × DataW Unit)} {W : World} (h : laidMet Tryz.prog laid W) {nm : String} {d : DataW Unit} (hin : (nm, d) ∈ laid) (hd : d = Lib.tabData .u64 pows) (hg : Tryz.prog.globalNamed nm = some 3) :
    (∃ el, ∀ id c, (id, c) ∈ roW → BlkOK (env0 Tryz.prog) W id (.mk el 0 c)) ∧ ∃ c el fr, W.heap[3]? = some (.cells c el fr) ∧ ∀ (j : Nat) (u : Value), c[j]? = some u → ∃ z, u = .int .u64 z := by
  subst hd
  refine ⟨?_, laid_tab_obj h hin hg tPow Tryz.underlying530 Tryz.underlying66 (by kernel_rfl) (by kernel_rfl) (by decide)⟩
  obtain ⟨el, hb⟩ := laid_tab_blk h hin hg tPow Tryz.underlying530 Tryz.underlying66 (by kernel_rfl) (by kernel_rfl) (by decide)
  refine ⟨el, fun id c hm => ?_⟩
  simp only [roW, List.mem_singleton, Prod.mk.injEq] at hm
  obtain ⟨rfl, rfl⟩ := hm
  exact hb
--END
theorem worldErrs_walk : worldErrs.Walk := by
  intro H enc base W v0 v1 d0 p0 d1 p1 hL k0 t0 k1 t1
  obtain ⟨g, rfl⟩ := Go.WideShapes.okWide_bool Tryz.underlying4 k1
  obtain ⟨k, d, t, i, x, ao, n, c, rfl, h1, h2, h3, h4, h5, h6, h7, h8, h9⟩ := open_op k0 t0
  rw [MakeChecks.laidMetH_plain _ _ _ (by kernel_rfl)] at hL
  obtain ⟨⟨el, hb⟩, hne⟩ := laid_ro hL (List.mem_of_getElem? (show Rows.worldErrsRow.laid[2]? = some (_, _) from rfl)) (by kernel_rfl) (by kernel_rfl)
  obtain ⟨ls, C⟩ := ctx_of (E := fun _ => el) hb hne h1 h2 h3 h4 h5 h6 h7 h8 h9
  exact law_all C g

theorem worldErrsCard_holds : Rows.WorldErrsCardSaid := worldErrs.card worldErrs_walk
end Go.Proofs.YtadbbdnjcpaooaaGreatDoor
