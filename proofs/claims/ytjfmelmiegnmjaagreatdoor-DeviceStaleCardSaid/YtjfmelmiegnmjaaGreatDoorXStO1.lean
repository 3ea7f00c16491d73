/- Has as much time gone by? Of two times that names say: as a hook. -/
import Derived.Test.YtjfmelmiegnmjaaGreatDoorXCc
import Derived.Test.YtjfmelmiegnmjaaGreatDoorXSg
import Derived.Test.YtjfmelmiegnmjaaGreatDoorInstR
import Derived.Laws.Cover2
import Derived.Test.YtjfmelmiegnmjaaGreatDoorXStXm0
import Derived.Test.YtjfmelmiegnmjaaGreatDoorXStXm1
set_option linter.all false
open Go Go.Sx Go.Proofs Go.RowKit Go.Pw.Fl
set_option linter.all false
namespace Go.Proofs.YtjfmelmiegnmjaaGreatDoor
set_option maxRecDepth 1000000
theorem over_cls {now since d : Nat} (h0 : 0 < d) (h1 : d ≤ 9218868437227405311) : overV now since d = Nat.beq (fCls now since d) 3 := by
  have hr : rg d = d := Nat.mod_eq_of_lt (by omega)
  have hs : sr d = (d : Int) := by
    unfold sr sg sV
    rw [hr]
    have : d / 9223372036854775808 = 0 := Nat.div_eq_of_lt (by omega)
    rw [this]
    rfl
  have hn : NaN d = false := nan_of (by omega)
  have e1 : fSg d = (d : Int) := hs
  unfold overV fCls
  have f1 : ∀ x, fNaN x = NaN x := fun _ => rfl
  have f2 : ∀ x, fSg x = sr x := fun _ => rfl
  simp only [f1, f2, hs]
  cases hS : NaN since
  · cases hN : NaN now
    · rw [if_neg (by simp [hn]; omega), if_neg (by omega), if_neg (by simp), if_neg (by simp)]
      cases hq : Ieee.double.sub now since with
      | none => rfl
      | some r =>
        simp only
        by_cases hc : (d : Int) ≤ sr r
        · rw [if_pos hc, decide_eq_true hc]; rfl
        · rw [if_neg hc, decide_eq_false hc]; rfl
    · rw [if_pos (by simp), if_neg (by simp), if_pos rfl]; rfl
  · rw [if_pos (by simp), if_pos rfl]; rfl
noncomputable def gOver : List AV → Option AV
  | [.vfo i j d k, .vflt j', .flt .f64 d'] => match Nat.beq j j' && Nat.beq d d' && Nat.blt 0 d && Nat.ble d 9218868437227405311 with
    | true => some (.bool (Nat.beq k 3))
    | false => none
  | _ => none
theorem over_fn : fnOf Tryz.prog 93 = some (ntOf Tryz.prog 93, bodyOf Tryz.prog 93, resultsOf Tryz.prog 93) := by kernel_rfl
theorem over_good : HkGood Tryz.prog (pureHook 93 gOver) := by
  obtain ⟨fn, h1, _, h3, _⟩ := fnOf_ok over_fn
  refine fHook_good ⟨fn, _, h1, h3⟩ fun args v σ us w hg hd => ?_
  unfold gOver at hg
  split at hg
  · rename_i i j d k j' d'
    split at hg
    · rename_i hb
      obtain ⟨hb, q4⟩ := and3 hb
      obtain ⟨hb, q3⟩ := and3 hb
      obtain ⟨q1, q2⟩ := and3 hb
      obtain rfl := nbeq q1
      obtain rfl := nbeq q2
      have q3 : 0 < d := blt_of q3
      have q4 := Nat.le_of_ble_eq_true q4
      obtain rfl := Option.some.inj hg
      obtain ⟨u1, l1, rfl, k1, hd⟩ := denL_cons hd
      obtain ⟨u2, l2, rfl, k2, hd⟩ := denL_cons hd
      obtain ⟨u3, l3, rfl, k3, hd⟩ := denL_cons hd
      obtain rfl := denL_nil hd
      obtain rfl := Option.some.inj k3
      simp only [den, Option.map_eq_some_iff] at k1 k2
      obtain ⟨l, hl, rfl⟩ := k1
      obtain ⟨m, hm, rfl⟩ := k2
      unfold denF at hl
      rw [hm] at hl
      split at hl
      · rename_i l' m' e1 e2
        obtain rfl := Option.some.inj e2
        split at hl
        · rename_i hc
          obtain rfl := Option.some.inj hl
          refine ⟨.bool (Nat.beq k 3), rfl, (over_any l'.cap m.cap d w).mono fun e w' h => ⟨?_, onlyB_of h.2⟩⟩
          rw [h.1, over_cls q3 q4, hc]
        · cases hl
      · cases hl
    · cases hg
  · cases hg
end Go.Proofs.YtjfmelmiegnmjaaGreatDoor

/- DeviceStale: the region that reckons with the two times. -/
open Go Go.Sx Go.Proofs Go.RowKit Go.Pw.Fl
set_option linter.all false
namespace Go.Proofs.YtjfmelmiegnmjaaGreatDoor
set_option maxRecDepth 1000000

theorem get_putD (i j : Nat) (v : AV) (t : Tr AV) : getP (path j) (putD (some (path i)) v t) = if j = i then some v else getP (path j) t := get_put _ i j t
theorem x_move {a : Act} {o : Oper} {x : Operand} {u : Value} (ho : o.op = .move x) (h : a.eval x = u) (w : World) : (execOp a.eval o).run Tryz.prog w = .ok (.value u) w := by
  unfold execOp
  simp only [ho, h]
  rfl
theorem x_pick {a : Act} {o : Oper} {c x y : Operand} {b : Bool} (ho : o.op = .pick c x y) (hc : a.eval c = .bool b) (w : World) : (execOp a.eval o).run Tryz.prog w = .ok (.value (if b = true then a.eval x else a.eval y)) w := by
  unfold execOp
  simp only [ho, hc]
  cases b <;> rfl
theorem x_bin {a : Act} {o : Oper} {op : BinOp} {T s : TypeId} {x y : Operand} {p q u : Value} {w w' : World} (ho : o.op = .binOp op T x y s) (hx : a.eval x = p) (hy : a.eval y = q) (hp : plainPair p q = true) (h : (Go.binOp op T p q).run Tryz.prog w = .ok u w') : (execOp a.eval o).run Tryz.prog w = .ok (.value u) w' := by
  unfold execOp
  simp only [ho, hx, hy, Sem.run_bind, eqGuard_plain hp, Result.andThen_ok, h]
  rfl
theorem f_eql (x : Nat) (w : World) : (Go.binOp .eql 47 (.float .f64 x) (.float .f64 x)).run Tryz.prog w = .ok (.bool (!fNaN x)) w := by
  rw [binOp_float_cmp_eql]
  show Result.ok (Value.bool (FloatKind.f64.format.order x x == some .eq)) w = _
  rcases nan_both x with h | h
  · rw [order_yes (x := x) (y := x) (.inl h), show fNaN x = true from h]
    rfl
  · rw [order_self_no h, show fNaN x = false from h]
    rfl
theorem f_sub {x y r : Nat} (h : Ieee.double.sub x y = some r) (w : World) : (Go.binOp .sub 47 (.float .f64 x) (.float .f64 y)).run Tryz.prog w = .ok (.float .f64 r) w := by
  have h' : FloatKind.f64.format.sub x y = some r := h
  simp [Go.binOp, Op.floatArith, h', Question.forced]
theorem f_geq {r d : Nat} (h : NaN r = false) (k : NaN d = false) (w : World) : (Go.binOp .geq 47 (.float .f64 r) (.float .f64 d)).run Tryz.prog w = .ok (.bool (decide (sr d ≤ sr r))) w := by
  rw [← geq_any h k, binOp_float_cmp_geq]
  rfl
theorem f_geq_nan {r d : Nat} (h : NaN r = true) (w : World) : (Go.binOp .geq 47 (.float .f64 r) (.float .f64 d)).run Tryz.prog w = .ok (.bool false) w := by
  rw [binOp_float_cmp_geq, order_yes (x := r) (y := d) (.inl h)]
  rfl
noncomputable def cS : Code := bodyOf Tryz.prog 6
noncomputable def nS : Nat := ntOf Tryz.prog 6
/-- The pieces ahead, and the rest. -/
noncomputable def sB : Nat → Code → Code
  | 0, c => c
  | n + 1, c => sB n (seqB c)
noncomputable def sP (n : Nat) : Code := seqA (sB n cS)
noncomputable def cPre : Code := .seq (sP 0) (.seq (sP 1) (.seq (sP 2) (.seq (sP 3) (.seq (sP 4) (.seq (sP 5) (.seq (sP 6) (.seq (sP 7) (.seq (sP 8) (.seq (sP 9) (.seq (sP 10) (.seq (sP 11) (sP 12))))))))))))
noncomputable def cTl : Code := sB 13 cS
noncomputable def cR16 : Code := seqA (seqA cTl)
noncomputable def cO : Operand := condO (seqB (seqA cTl))
noncomputable def cR17 : Code := condA (seqB (seqA cTl))
noncomputable def cEnd : Code := seqB cTl
theorem cTl_eq : cTl = .seq (.seq cR16 (.cond cO cR17 .skip)) cEnd := by kernel_rfl
noncomputable def regA : Code → Array Oper
  | .region _ ops _ => ops
  | _ => #[]
noncomputable def oArr : Array Oper := regA cR16
noncomputable def oAt (i : Nat) : Oper := oArr[i]?.getD default
theorem cR16_eq : cR16 = .region 16 oArr false := by kernel_rfl
theorem oL_eq : oArr.toList = [oAt 0, oAt 1, oAt 2, oAt 3, oAt 4, oAt 5, oAt 6, oAt 7, oAt 8, oAt 9, oAt 10, oAt 11, oAt 12, oAt 13] := by kernel_rfl
theorem cS_eq : cS = .seq (sP 0) (.seq (sP 1) (.seq (sP 2) (.seq (sP 3) (.seq (sP 4) (.seq (sP 5) (.seq (sP 6) (.seq (sP 7) (.seq (sP 8) (.seq (sP 9) (.seq (sP 10) (.seq (sP 11) (.seq (sP 12) cTl)))))))))))) := by kernel_rfl
theorem cS_ahead : Ahead cPre cTl cS := by
  rw [cS_eq]
  exact .more _ _ _ _ (.more _ _ _ _ (.more _ _ _ _ (.more _ _ _ _ (.more _ _ _ _ (.more _ _ _ _ (.more _ _ _ _ (.more _ _ _ _ (.more _ _ _ _ (.more _ _ _ _ (.more _ _ _ _ (.more _ _ _ _ (.one _ _))))))))))))

noncomputable def t16_0 (t : Tr AV) (st : St) : Tr AV := putD (some (path 150)) (.bool false) (putD (some (path 149)) (.tup []) (putD (some (path 148)) (.tup []) (putD (some (path 147)) (.tup []) (putD (some (path 146)) (.tup []) (putD (some (path 145)) (.bool false) (putD (some (path 144)) (.bool false) (putD (some (path 143)) (.tup []) (putD (some (path 142)) (.tup []) (putD (some (path 141)) (.tup []) (putD (some (path 140)) (.bool false) (putD (some (path 139)) (.bool false) (putD (some (path 138)) (.vflt 201) (putD (some (path 137)) (.vflt 201) (t))))))))))))))
noncomputable def t16_1 (t : Tr AV) (st : St) : Tr AV := putD (some (path 150)) (.bool false) (putD (some (path 149)) (.tup []) (putD (some (path 148)) (.tup []) (putD (some (path 147)) (.tup []) (putD (some (path 146)) (.tup []) (putD (some (path 145)) (.bool false) (putD (some (path 144)) (.bool false) (putD (some (path 143)) (.bool false) (putD (some (path 142)) (.vfo 202 201 4621819117588971520 1) (putD (some (path 141)) (.vfo 202 201 4621819117588971520 1) (putD (some (path 140)) (.bool true) (putD (some (path 139)) (.bool true) (putD (some (path 138)) (.vflt 201) (putD (some (path 137)) (.vflt 201) (t))))))))))))))
noncomputable def t16_2 (t : Tr AV) (st : St) : Tr AV := putD (some (path 150)) (.bool false) (putD (some (path 149)) (.bool false) (putD (some (path 148)) (.vflt st.n) (putD (some (path 147)) (.vflt 201) (putD (some (path 146)) (.vfo 202 201 4621819117588971520 2) (putD (some (path 145)) (.bool true) (putD (some (path 144)) (.bool true) (putD (some (path 143)) (.bool true) (putD (some (path 142)) (.vfo 202 201 4621819117588971520 2) (putD (some (path 141)) (.vfo 202 201 4621819117588971520 2) (putD (some (path 140)) (.bool true) (putD (some (path 139)) (.bool true) (putD (some (path 138)) (.vflt 201) (putD (some (path 137)) (.vflt 201) (t))))))))))))))
noncomputable def t16_3 (t : Tr AV) (st : St) : Tr AV := putD (some (path 150)) (.bool true) (putD (some (path 149)) (.bool true) (putD (some (path 148)) (.vflt st.n) (putD (some (path 147)) (.vflt 201) (putD (some (path 146)) (.vfo 202 201 4621819117588971520 3) (putD (some (path 145)) (.bool true) (putD (some (path 144)) (.bool true) (putD (some (path 143)) (.bool true) (putD (some (path 142)) (.vfo 202 201 4621819117588971520 3) (putD (some (path 141)) (.vfo 202 201 4621819117588971520 3) (putD (some (path 140)) (.bool true) (putD (some (path 139)) (.bool true) (putD (some (path 138)) (.vflt 201) (putD (some (path 137)) (.vflt 201) (t))))))))))))))
noncomputable def t16_4 (t : Tr AV) (st : St) : Tr AV := putD (some (path 150)) (.bool false) (putD (some (path 149)) (.bool false) (putD (some (path 148)) (.vflt st.n) (putD (some (path 147)) (.vflt 201) (putD (some (path 146)) (.vfo 202 201 4621819117588971520 4) (putD (some (path 145)) (.bool true) (putD (some (path 144)) (.bool true) (putD (some (path 143)) (.bool true) (putD (some (path 142)) (.vfo 202 201 4621819117588971520 4) (putD (some (path 141)) (.vfo 202 201 4621819117588971520 4) (putD (some (path 140)) (.bool true) (putD (some (path 139)) (.bool true) (putD (some (path 138)) (.vflt 201) (putD (some (path 137)) (.vflt 201) (t))))))))))))))
def bumpS : St → St
  | .mk h n => .mk h (n + 1)
theorem bump_n (st : St) : (bumpS st).n = st.n + 1 := by cases st; rfl
theorem bump_get (st : St) : (bumpS st).get = st.get := by cases st; rfl
theorem r16_0 {t : Tr AV} {d : Ds} {st : St} (h1 : getP (path 1) t = some (.vflt 201)) (h2 : getP (path 2) t = some (.vfo 202 201 4621819117588971520 0)) : RunsAs Tryz.prog nS cR16 t d st (.norm (t16_0 t st) d (st)) := by
  refine ⟨Nat.le_refl _, fun σ a w Qe hne hfree hg hr ht hd hQ => ?_⟩
  have q2 := ht.val 2
  rw [h2] at q2
  simp only [Option.getD_some, den, Option.map_eq_some_iff] at q2
  obtain ⟨l, hl, _⟩ := q2
  unfold denF at hl
  split at hl
  rotate_left
  · cases hl
  rename_i l0 m e202 e201
  split at hl
  rotate_left
  · cases hl
  rename_i hc
  obtain rfl := Option.some.inj hl
  have E1 : ∀ σ2, σ.le σ2 → den σ2 (.vflt 201) = some (.float .f64 m.cap) := fun σ2 hle => by simp only [den, hle _ _ e201, Option.map_some]
  have E2 : ∀ σ2, σ.le σ2 → den σ2 (.vfo 202 201 4621819117588971520 0) = some (.float .f64 l0.cap) := fun σ2 hle => den_vfo (hle _ _ e202) (hle _ _ e201) hc
  have n1 : fNaN m.cap = true := by
    unfold fCls at hc
    split at hc
    · assumption
    · split at hc
      · cases hc
      · split at hc
        · cases hc
        · split at hc <;> cases hc
  have hle0 : σ.le σ := Env.le.refl _
  rw [cR16_eq]
  refine wp_region_list ?_
  rw [oL_eq]
  refine list_val ht (wanted_no (by kernel_rfl)) (p := some (path 137)) (by kernel_rfl) (v := .vflt 201) (E1 _ hle0) (x_move (x := .tmp 1) (by kernel_rfl) (ht.at (v := .vflt 201) h1 (E1 _ hle0)) _) ?_
  intro a0 ht0 de0
  refine list_val ht0 (wanted_no (by kernel_rfl)) (p := some (path 138)) (by kernel_rfl) (v := .vflt 201) (E1 _ hle0) (x_move (x := .tmp 1) (by kernel_rfl) (ht0.at (v := .vflt 201) (by simp only [get_putD]; simpa using h1) (E1 _ hle0)) _) ?_
  intro a1 ht1 de1
  refine list_val ht1 (wanted_no (by kernel_rfl)) (p := some (path 139)) (by kernel_rfl) (v := .bool false) rfl (x_bin (op := .eql) (T := 47) (s := 47) (x := .tmp 137) (y := .tmp 138) (by kernel_rfl) (ht1.at (v := .vflt 201) (by simp only [get_putD]; simp) (E1 _ hle0)) (ht1.at (v := .vflt 201) (by simp only [get_putD]; simp) (E1 _ hle0)) rfl (by rw [f_eql, n1]; rfl)) ?_
  intro a2 ht2 de2
  refine list_val ht2 (wanted_no (by kernel_rfl)) (p := some (path 140)) (by kernel_rfl) (v := .bool false) rfl (x_move (x := .tmp 139) (by kernel_rfl) (ht2.at (v := .bool false) (u := .bool false) (by simp only [get_putD]; simp) rfl) _) ?_
  intro a3 ht3 de3
  refine list_skip ht3 (wanted_by (c := false) (b := true) (j := 3) (oj := oAt 3) (k := 140) ht3 (by kernel_rfl) (by kernel_rfl) (by kernel_rfl) (by simp only [get_putD]; simp)) (p := some (path 141)) (by kernel_rfl) ?_
  intro a4 ht4 de4
  refine list_skip ht4 (wanted_by (c := false) (b := true) (j := 3) (oj := oAt 3) (k := 140) ht4 (by kernel_rfl) (by kernel_rfl) (by kernel_rfl) (by simp only [get_putD]; simp)) (p := some (path 142)) (by kernel_rfl) ?_
  intro a5 ht5 de5
  refine list_skip ht5 (wanted_by (c := false) (b := true) (j := 3) (oj := oAt 3) (k := 140) ht5 (by kernel_rfl) (by kernel_rfl) (by kernel_rfl) (by simp only [get_putD]; simp)) (p := some (path 143)) (by kernel_rfl) ?_
  intro a6 ht6 de6
  refine list_val ht6 (wanted_no (by kernel_rfl)) (p := some (path 144)) (by kernel_rfl) (v := .bool false) rfl (by rw [x_pick (c := .tmp 140) (x := .tmp 143) (y := .const (.bool false)) (by kernel_rfl) (b := false) (ht6.at (v := .bool false) (u := .bool false) (by simp only [get_putD]; simp) rfl), if_neg (by simp)]; rfl) ?_
  intro a7 ht7 de7
  refine list_val ht7 (wanted_no (by kernel_rfl)) (p := some (path 145)) (by kernel_rfl) (v := .bool false) rfl (x_move (x := .tmp 144) (by kernel_rfl) (ht7.at (v := .bool false) (u := .bool false) (by simp only [get_putD]; simp) rfl) _) ?_
  intro a8 ht8 de8
  refine list_skip ht8 (wanted_by (c := false) (b := true) (j := 8) (oj := oAt 8) (k := 145) ht8 (by kernel_rfl) (by kernel_rfl) (by kernel_rfl) (by simp only [get_putD]; simp)) (p := some (path 146)) (by kernel_rfl) ?_
  intro a9 ht9 de9
  refine list_skip ht9 (wanted_by (c := false) (b := true) (j := 8) (oj := oAt 8) (k := 145) ht9 (by kernel_rfl) (by kernel_rfl) (by kernel_rfl) (by simp only [get_putD]; simp)) (p := some (path 147)) (by kernel_rfl) ?_
  intro a10 ht10 de10
  refine list_skip ht10 (wanted_by (c := false) (b := true) (j := 8) (oj := oAt 8) (k := 145) ht10 (by kernel_rfl) (by kernel_rfl) (by kernel_rfl) (by simp only [get_putD]; simp)) (p := some (path 148)) (by kernel_rfl) ?_
  intro a11 ht11 de11
  refine list_skip ht11 (wanted_by (c := false) (b := true) (j := 8) (oj := oAt 8) (k := 145) ht11 (by kernel_rfl) (by kernel_rfl) (by kernel_rfl) (by simp only [get_putD]; simp)) (p := some (path 149)) (by kernel_rfl) ?_
  intro a12 ht12 de12
  refine list_val ht12 (wanted_no (by kernel_rfl)) (p := some (path 150)) (by kernel_rfl) (v := .bool false) rfl (by rw [x_pick (c := .tmp 145) (x := .tmp 149) (y := .const (.bool false)) (by kernel_rfl) (b := false) (ht12.at (v := .bool false) (u := .bool false) (by simp only [get_putD]; simp) rfl), if_neg (by simp)]; rfl) ?_
  intro a13 ht13 de13
  refine wpList_nil (hQ .normal _ _ ⟨rfl, σ, ?_, ht13, ?_⟩)
  · exact Stp.refl hr
  · rw [de13, de12, de11, de10, de9, de8, de7, de6, de5, de4, de3, de2, de1, de0]
    exact hd
theorem r16_1 {t : Tr AV} {d : Ds} {st : St} (h1 : getP (path 1) t = some (.vflt 201)) (h2 : getP (path 2) t = some (.vfo 202 201 4621819117588971520 1)) : RunsAs Tryz.prog nS cR16 t d st (.norm (t16_1 t st) d (st)) := by
  refine ⟨Nat.le_refl _, fun σ a w Qe hne hfree hg hr ht hd hQ => ?_⟩
  have q2 := ht.val 2
  rw [h2] at q2
  simp only [Option.getD_some, den, Option.map_eq_some_iff] at q2
  obtain ⟨l, hl, _⟩ := q2
  unfold denF at hl
  split at hl
  rotate_left
  · cases hl
  rename_i l0 m e202 e201
  split at hl
  rotate_left
  · cases hl
  rename_i hc
  obtain rfl := Option.some.inj hl
  have E1 : ∀ σ2, σ.le σ2 → den σ2 (.vflt 201) = some (.float .f64 m.cap) := fun σ2 hle => by simp only [den, hle _ _ e201, Option.map_some]
  have E2 : ∀ σ2, σ.le σ2 → den σ2 (.vfo 202 201 4621819117588971520 1) = some (.float .f64 l0.cap) := fun σ2 hle => den_vfo (hle _ _ e202) (hle _ _ e201) hc
  have n1 : fNaN m.cap = false ∧ fNaN l0.cap = true := by
    unfold fCls at hc
    split at hc
    · cases hc
    · rename_i q1
      split at hc
      · rename_i q2; exact ⟨by simpa using q1, q2⟩
      · split at hc
        · cases hc
        · split at hc <;> cases hc
  obtain ⟨n1, n2⟩ := n1
  have hle0 : σ.le σ := Env.le.refl _
  rw [cR16_eq]
  refine wp_region_list ?_
  rw [oL_eq]
  refine list_val ht (wanted_no (by kernel_rfl)) (p := some (path 137)) (by kernel_rfl) (v := .vflt 201) (E1 _ hle0) (x_move (x := .tmp 1) (by kernel_rfl) (ht.at (v := .vflt 201) h1 (E1 _ hle0)) _) ?_
  intro a0 ht0 de0
  refine list_val ht0 (wanted_no (by kernel_rfl)) (p := some (path 138)) (by kernel_rfl) (v := .vflt 201) (E1 _ hle0) (x_move (x := .tmp 1) (by kernel_rfl) (ht0.at (v := .vflt 201) (by simp only [get_putD]; simpa using h1) (E1 _ hle0)) _) ?_
  intro a1 ht1 de1
  refine list_val ht1 (wanted_no (by kernel_rfl)) (p := some (path 139)) (by kernel_rfl) (v := .bool true) rfl (x_bin (op := .eql) (T := 47) (s := 47) (x := .tmp 137) (y := .tmp 138) (by kernel_rfl) (ht1.at (v := .vflt 201) (by simp only [get_putD]; simp) (E1 _ hle0)) (ht1.at (v := .vflt 201) (by simp only [get_putD]; simp) (E1 _ hle0)) rfl (by rw [f_eql, n1]; rfl)) ?_
  intro a2 ht2 de2
  refine list_val ht2 (wanted_no (by kernel_rfl)) (p := some (path 140)) (by kernel_rfl) (v := .bool true) rfl (x_move (x := .tmp 139) (by kernel_rfl) (ht2.at (v := .bool true) (u := .bool true) (by simp only [get_putD]; simp) rfl) _) ?_
  intro a3 ht3 de3
  refine list_val ht3 (wanted_by (c := true) (b := true) (j := 3) (oj := oAt 3) (k := 140) ht3 (by kernel_rfl) (by kernel_rfl) (by kernel_rfl) (by simp only [get_putD]; simp)) (p := some (path 141)) (by kernel_rfl) (v := .vfo 202 201 4621819117588971520 1) (E2 _ hle0) (x_move (x := .tmp 2) (by kernel_rfl) (ht3.at (v := .vfo 202 201 4621819117588971520 1) (by simp only [get_putD]; simpa using h2) (E2 _ hle0)) _) ?_
  intro a4 ht4 de4
  refine list_val ht4 (wanted_by (c := true) (b := true) (j := 3) (oj := oAt 3) (k := 140) ht4 (by kernel_rfl) (by kernel_rfl) (by kernel_rfl) (by simp only [get_putD]; simp)) (p := some (path 142)) (by kernel_rfl) (v := .vfo 202 201 4621819117588971520 1) (E2 _ hle0) (x_move (x := .tmp 2) (by kernel_rfl) (ht4.at (v := .vfo 202 201 4621819117588971520 1) (by simp only [get_putD]; simpa using h2) (E2 _ hle0)) _) ?_
  intro a5 ht5 de5
  refine list_val ht5 (wanted_by (c := true) (b := true) (j := 3) (oj := oAt 3) (k := 140) ht5 (by kernel_rfl) (by kernel_rfl) (by kernel_rfl) (by simp only [get_putD]; simp)) (p := some (path 143)) (by kernel_rfl) (v := .bool false) rfl (x_bin (op := .eql) (T := 47) (s := 47) (x := .tmp 141) (y := .tmp 142) (by kernel_rfl) (ht5.at (v := .vfo 202 201 4621819117588971520 1) (by simp only [get_putD]; simp) (E2 _ hle0)) (ht5.at (v := .vfo 202 201 4621819117588971520 1) (by simp only [get_putD]; simp) (E2 _ hle0)) rfl (by rw [f_eql, n2]; rfl)) ?_
  intro a6 ht6 de6
  refine list_val ht6 (wanted_no (by kernel_rfl)) (p := some (path 144)) (by kernel_rfl) (v := .bool false) rfl (by rw [x_pick (c := .tmp 140) (x := .tmp 143) (y := .const (.bool false)) (by kernel_rfl) (b := true) (ht6.at (v := .bool true) (u := .bool true) (by simp only [get_putD]; simp) rfl), if_pos rfl]; exact congrArg (fun u => Result.ok (Next.value u) _) (ht6.at (v := .bool false) (u := .bool false) (by simp only [get_putD]; simp) rfl)) ?_
  intro a7 ht7 de7
  refine list_val ht7 (wanted_no (by kernel_rfl)) (p := some (path 145)) (by kernel_rfl) (v := .bool false) rfl (x_move (x := .tmp 144) (by kernel_rfl) (ht7.at (v := .bool false) (u := .bool false) (by simp only [get_putD]; simp) rfl) _) ?_
  intro a8 ht8 de8
  refine list_skip ht8 (wanted_by (c := false) (b := true) (j := 8) (oj := oAt 8) (k := 145) ht8 (by kernel_rfl) (by kernel_rfl) (by kernel_rfl) (by simp only [get_putD]; simp)) (p := some (path 146)) (by kernel_rfl) ?_
  intro a9 ht9 de9
  refine list_skip ht9 (wanted_by (c := false) (b := true) (j := 8) (oj := oAt 8) (k := 145) ht9 (by kernel_rfl) (by kernel_rfl) (by kernel_rfl) (by simp only [get_putD]; simp)) (p := some (path 147)) (by kernel_rfl) ?_
  intro a10 ht10 de10
  refine list_skip ht10 (wanted_by (c := false) (b := true) (j := 8) (oj := oAt 8) (k := 145) ht10 (by kernel_rfl) (by kernel_rfl) (by kernel_rfl) (by simp only [get_putD]; simp)) (p := some (path 148)) (by kernel_rfl) ?_
  intro a11 ht11 de11
  refine list_skip ht11 (wanted_by (c := false) (b := true) (j := 8) (oj := oAt 8) (k := 145) ht11 (by kernel_rfl) (by kernel_rfl) (by kernel_rfl) (by simp only [get_putD]; simp)) (p := some (path 149)) (by kernel_rfl) ?_
  intro a12 ht12 de12
  refine list_val ht12 (wanted_no (by kernel_rfl)) (p := some (path 150)) (by kernel_rfl) (v := .bool false) rfl (by rw [x_pick (c := .tmp 145) (x := .tmp 149) (y := .const (.bool false)) (by kernel_rfl) (b := false) (ht12.at (v := .bool false) (u := .bool false) (by simp only [get_putD]; simp) rfl), if_neg (by simp)]; rfl) ?_
  intro a13 ht13 de13
  refine wpList_nil (hQ .normal _ _ ⟨rfl, σ, ?_, ht13, ?_⟩)
  · exact Stp.refl hr
  · rw [de13, de12, de11, de10, de9, de8, de7, de6, de5, de4, de3, de2, de1, de0]
    exact hd
theorem r16_2 {t : Tr AV} {d : Ds} {st : St} (h1 : getP (path 1) t = some (.vflt 201)) (h2 : getP (path 2) t = some (.vfo 202 201 4621819117588971520 2)) : RunsAs Tryz.prog nS cR16 t d st (.norm (t16_2 t st) d (bumpS st)) := by
  refine ⟨by rw [show (Rs.norm (t16_2 t st) d (bumpS st)).ge st.n = (st.n ≤ (bumpS st).n) from rfl, bump_n]; exact Nat.le_succ _, fun σ a w Qe hne hfree hg hr ht hd hQ => ?_⟩
  have q2 := ht.val 2
  rw [h2] at q2
  simp only [Option.getD_some, den, Option.map_eq_some_iff] at q2
  obtain ⟨l, hl, _⟩ := q2
  unfold denF at hl
  split at hl
  rotate_left
  · cases hl
  rename_i l0 m e202 e201
  split at hl
  rotate_left
  · cases hl
  rename_i hc
  obtain rfl := Option.some.inj hl
  have E1 : ∀ σ2, σ.le σ2 → den σ2 (.vflt 201) = some (.float .f64 m.cap) := fun σ2 hle => by simp only [den, hle _ _ e201, Option.map_some]
  have E2 : ∀ σ2, σ.le σ2 → den σ2 (.vfo 202 201 4621819117588971520 2) = some (.float .f64 l0.cap) := fun σ2 hle => den_vfo (hle _ _ e202) (hle _ _ e201) hc
  have n1 : fNaN m.cap = false ∧ fNaN l0.cap = false ∧ Ieee.double.sub l0.cap m.cap = none := by
    unfold fCls at hc
    split at hc
    · cases hc
    · rename_i q1
      split at hc
      · cases hc
      · rename_i q2
        split at hc
        · rename_i q3; exact ⟨by simpa using q1, by simpa using q2, q3⟩
        · split at hc <;> cases hc
  obtain ⟨n1, n2, n3⟩ := n1
  obtain ⟨r, hnan, hsub⟩ := run_sub_none l0.cap m.cap n3 w
  have hgeq := f_geq_nan (d := 4621819117588971520) hnan
  have hle0 : σ.le σ := Env.le.refl _
  rw [cR16_eq]
  refine wp_region_list ?_
  rw [oL_eq]
  refine list_val ht (wanted_no (by kernel_rfl)) (p := some (path 137)) (by kernel_rfl) (v := .vflt 201) (E1 _ hle0) (x_move (x := .tmp 1) (by kernel_rfl) (ht.at (v := .vflt 201) h1 (E1 _ hle0)) _) ?_
  intro a0 ht0 de0
  refine list_val ht0 (wanted_no (by kernel_rfl)) (p := some (path 138)) (by kernel_rfl) (v := .vflt 201) (E1 _ hle0) (x_move (x := .tmp 1) (by kernel_rfl) (ht0.at (v := .vflt 201) (by simp only [get_putD]; simpa using h1) (E1 _ hle0)) _) ?_
  intro a1 ht1 de1
  refine list_val ht1 (wanted_no (by kernel_rfl)) (p := some (path 139)) (by kernel_rfl) (v := .bool true) rfl (x_bin (op := .eql) (T := 47) (s := 47) (x := .tmp 137) (y := .tmp 138) (by kernel_rfl) (ht1.at (v := .vflt 201) (by simp only [get_putD]; simp) (E1 _ hle0)) (ht1.at (v := .vflt 201) (by simp only [get_putD]; simp) (E1 _ hle0)) rfl (by rw [f_eql, n1]; rfl)) ?_
  intro a2 ht2 de2
  refine list_val ht2 (wanted_no (by kernel_rfl)) (p := some (path 140)) (by kernel_rfl) (v := .bool true) rfl (x_move (x := .tmp 139) (by kernel_rfl) (ht2.at (v := .bool true) (u := .bool true) (by simp only [get_putD]; simp) rfl) _) ?_
  intro a3 ht3 de3
  refine list_val ht3 (wanted_by (c := true) (b := true) (j := 3) (oj := oAt 3) (k := 140) ht3 (by kernel_rfl) (by kernel_rfl) (by kernel_rfl) (by simp only [get_putD]; simp)) (p := some (path 141)) (by kernel_rfl) (v := .vfo 202 201 4621819117588971520 2) (E2 _ hle0) (x_move (x := .tmp 2) (by kernel_rfl) (ht3.at (v := .vfo 202 201 4621819117588971520 2) (by simp only [get_putD]; simpa using h2) (E2 _ hle0)) _) ?_
  intro a4 ht4 de4
  refine list_val ht4 (wanted_by (c := true) (b := true) (j := 3) (oj := oAt 3) (k := 140) ht4 (by kernel_rfl) (by kernel_rfl) (by kernel_rfl) (by simp only [get_putD]; simp)) (p := some (path 142)) (by kernel_rfl) (v := .vfo 202 201 4621819117588971520 2) (E2 _ hle0) (x_move (x := .tmp 2) (by kernel_rfl) (ht4.at (v := .vfo 202 201 4621819117588971520 2) (by simp only [get_putD]; simpa using h2) (E2 _ hle0)) _) ?_
  intro a5 ht5 de5
  refine list_val ht5 (wanted_by (c := true) (b := true) (j := 3) (oj := oAt 3) (k := 140) ht5 (by kernel_rfl) (by kernel_rfl) (by kernel_rfl) (by simp only [get_putD]; simp)) (p := some (path 143)) (by kernel_rfl) (v := .bool true) rfl (x_bin (op := .eql) (T := 47) (s := 47) (x := .tmp 141) (y := .tmp 142) (by kernel_rfl) (ht5.at (v := .vfo 202 201 4621819117588971520 2) (by simp only [get_putD]; simp) (E2 _ hle0)) (ht5.at (v := .vfo 202 201 4621819117588971520 2) (by simp only [get_putD]; simp) (E2 _ hle0)) rfl (by rw [f_eql, n2]; rfl)) ?_
  intro a6 ht6 de6
  refine list_val ht6 (wanted_no (by kernel_rfl)) (p := some (path 144)) (by kernel_rfl) (v := .bool true) rfl (by rw [x_pick (c := .tmp 140) (x := .tmp 143) (y := .const (.bool false)) (by kernel_rfl) (b := true) (ht6.at (v := .bool true) (u := .bool true) (by simp only [get_putD]; simp) rfl), if_pos rfl]; exact congrArg (fun u => Result.ok (Next.value u) _) (ht6.at (v := .bool true) (u := .bool true) (by simp only [get_putD]; simp) rfl)) ?_
  intro a7 ht7 de7
  refine list_val ht7 (wanted_no (by kernel_rfl)) (p := some (path 145)) (by kernel_rfl) (v := .bool true) rfl (x_move (x := .tmp 144) (by kernel_rfl) (ht7.at (v := .bool true) (u := .bool true) (by simp only [get_putD]; simp) rfl) _) ?_
  intro a8 ht8 de8
  refine list_val ht8 (wanted_by (c := true) (b := true) (j := 8) (oj := oAt 8) (k := 145) ht8 (by kernel_rfl) (by kernel_rfl) (by kernel_rfl) (by simp only [get_putD]; simp)) (p := some (path 146)) (by kernel_rfl) (v := .vfo 202 201 4621819117588971520 2) (E2 _ hle0) (x_move (x := .tmp 2) (by kernel_rfl) (ht8.at (v := .vfo 202 201 4621819117588971520 2) (by simp only [get_putD]; simpa using h2) (E2 _ hle0)) _) ?_
  intro a9 ht9 de9
  refine list_val ht9 (wanted_by (c := true) (b := true) (j := 8) (oj := oAt 8) (k := 145) ht9 (by kernel_rfl) (by kernel_rfl) (by kernel_rfl) (by simp only [get_putD]; simp)) (p := some (path 147)) (by kernel_rfl) (v := .vflt 201) (E1 _ hle0) (x_move (x := .tmp 1) (by kernel_rfl) (ht9.at (v := .vflt 201) (by simp only [get_putD]; simpa using h1) (E1 _ hle0)) _) ?_
  intro a10 ht10 de10
  have hn : σ st.n = none := hfree st.n (Nat.le_refl _) (by rw [bump_n]; exact Nat.lt_succ_self _)
  have hle1 : σ.le (σ.put st.n ⟨0, 0, r⟩) := Env.le_put _ hn
  have EN : den (σ.put st.n ⟨0, 0, r⟩) (.vflt st.n) = some (.float .f64 r) := by simp only [den, Env.put_same, Option.map_some]
  have hT := ht10.mono hle1
  refine list_val hT (wanted_by (c := true) (b := true) (j := 8) (oj := oAt 8) (k := 145) hT (by kernel_rfl) (by kernel_rfl) (by kernel_rfl) (by simp only [get_putD]; simp)) (p := some (path 148)) (by kernel_rfl) (v := .vflt st.n) EN (x_bin (op := .sub) (T := 47) (s := 47) (x := .tmp 146) (y := .tmp 147) (by kernel_rfl) (hT.at (v := .vfo 202 201 4621819117588971520 2) (by simp only [get_putD]; simp) (E2 _ hle1)) (hT.at (v := .vflt 201) (by simp only [get_putD]; simp) (E1 _ hle1)) rfl hsub) ?_
  intro a11 ht11 de11
  refine list_val ht11 (wanted_by (c := true) (b := true) (j := 8) (oj := oAt 8) (k := 145) ht11 (by kernel_rfl) (by kernel_rfl) (by kernel_rfl) (by simp only [get_putD]; simp)) (p := some (path 149)) (by kernel_rfl) (v := .bool false) rfl (x_bin (op := .geq) (T := 47) (s := 47) (x := .tmp 148) (y := .const (.float .f64 4621819117588971520)) (by kernel_rfl) (ht11.at (v := .vflt st.n) (by simp only [get_putD]; simp) EN) rfl rfl (hgeq _)) ?_
  intro a12 ht12 de12
  refine list_val ht12 (wanted_no (by kernel_rfl)) (p := some (path 150)) (by kernel_rfl) (v := .bool false) rfl (by rw [x_pick (c := .tmp 145) (x := .tmp 149) (y := .const (.bool false)) (by kernel_rfl) (b := true) (ht12.at (v := .bool true) (u := .bool true) (by simp only [get_putD]; simp) rfl), if_pos rfl]; exact congrArg (fun u => Result.ok (Next.value u) _) (ht12.at (v := .bool false) (u := .bool false) (by simp only [get_putD]; simp) rfl)) ?_
  intro a13 ht13 de13
  refine wpList_nil (hQ .normal _ _ ⟨rfl, σ.put st.n ⟨0, 0, r⟩, ?_, ht13, ?_⟩)
  · rw [bump_get, bump_n]
    exact Stp.name hr hn (show OnlyB w (w.drew) (fun _ => False) from ⟨rfl, rfl, rfl, Nat.le_refl _, fun _ _ _ => rfl⟩) _
  · rw [de13, de12, de11, de10, de9, de8, de7, de6, de5, de4, de3, de2, de1, de0]
    exact hd.mono hle1
theorem r16_3 {t : Tr AV} {d : Ds} {st : St} (h1 : getP (path 1) t = some (.vflt 201)) (h2 : getP (path 2) t = some (.vfo 202 201 4621819117588971520 3)) : RunsAs Tryz.prog nS cR16 t d st (.norm (t16_3 t st) d (bumpS st)) := by
  refine ⟨by rw [show (Rs.norm (t16_3 t st) d (bumpS st)).ge st.n = (st.n ≤ (bumpS st).n) from rfl, bump_n]; exact Nat.le_succ _, fun σ a w Qe hne hfree hg hr ht hd hQ => ?_⟩
  have q2 := ht.val 2
  rw [h2] at q2
  simp only [Option.getD_some, den, Option.map_eq_some_iff] at q2
  obtain ⟨l, hl, _⟩ := q2
  unfold denF at hl
  split at hl
  rotate_left
  · cases hl
  rename_i l0 m e202 e201
  split at hl
  rotate_left
  · cases hl
  rename_i hc
  obtain rfl := Option.some.inj hl
  have E1 : ∀ σ2, σ.le σ2 → den σ2 (.vflt 201) = some (.float .f64 m.cap) := fun σ2 hle => by simp only [den, hle _ _ e201, Option.map_some]
  have E2 : ∀ σ2, σ.le σ2 → den σ2 (.vfo 202 201 4621819117588971520 3) = some (.float .f64 l0.cap) := fun σ2 hle => den_vfo (hle _ _ e202) (hle _ _ e201) hc
  have n1 : fNaN m.cap = false ∧ fNaN l0.cap = false ∧ ∃ r, Ieee.double.sub l0.cap m.cap = some r ∧ decide (fSg 4621819117588971520 ≤ fSg r) = true := by
    unfold fCls at hc
    split at hc
    · cases hc
    · rename_i q1
      split at hc
      · cases hc
      · rename_i q2
        split at hc
        · cases hc
        · rename_i r q3
          split at hc
          · rename_i q4; exact ⟨by simpa using q1, by simpa using q2, r, q3, decide_eq_true q4⟩
          · rename_i q4; cases hc
  obtain ⟨n1, n2, r, n3, n4⟩ := n1
  have hsub := f_sub n3 w
  have hnan : NaN r = false := sub_no n3
  have hgeq := f_geq (d := 4621819117588971520) hnan (by decide)
  rw [show decide (sr 4621819117588971520 ≤ sr r) = true from n4] at hgeq
  have hle0 : σ.le σ := Env.le.refl _
  rw [cR16_eq]
  refine wp_region_list ?_
  rw [oL_eq]
  refine list_val ht (wanted_no (by kernel_rfl)) (p := some (path 137)) (by kernel_rfl) (v := .vflt 201) (E1 _ hle0) (x_move (x := .tmp 1) (by kernel_rfl) (ht.at (v := .vflt 201) h1 (E1 _ hle0)) _) ?_
  intro a0 ht0 de0
  refine list_val ht0 (wanted_no (by kernel_rfl)) (p := some (path 138)) (by kernel_rfl) (v := .vflt 201) (E1 _ hle0) (x_move (x := .tmp 1) (by kernel_rfl) (ht0.at (v := .vflt 201) (by simp only [get_putD]; simpa using h1) (E1 _ hle0)) _) ?_
  intro a1 ht1 de1
  refine list_val ht1 (wanted_no (by kernel_rfl)) (p := some (path 139)) (by kernel_rfl) (v := .bool true) rfl (x_bin (op := .eql) (T := 47) (s := 47) (x := .tmp 137) (y := .tmp 138) (by kernel_rfl) (ht1.at (v := .vflt 201) (by simp only [get_putD]; simp) (E1 _ hle0)) (ht1.at (v := .vflt 201) (by simp only [get_putD]; simp) (E1 _ hle0)) rfl (by rw [f_eql, n1]; rfl)) ?_
  intro a2 ht2 de2
  refine list_val ht2 (wanted_no (by kernel_rfl)) (p := some (path 140)) (by kernel_rfl) (v := .bool true) rfl (x_move (x := .tmp 139) (by kernel_rfl) (ht2.at (v := .bool true) (u := .bool true) (by simp only [get_putD]; simp) rfl) _) ?_
  intro a3 ht3 de3
  refine list_val ht3 (wanted_by (c := true) (b := true) (j := 3) (oj := oAt 3) (k := 140) ht3 (by kernel_rfl) (by kernel_rfl) (by kernel_rfl) (by simp only [get_putD]; simp)) (p := some (path 141)) (by kernel_rfl) (v := .vfo 202 201 4621819117588971520 3) (E2 _ hle0) (x_move (x := .tmp 2) (by kernel_rfl) (ht3.at (v := .vfo 202 201 4621819117588971520 3) (by simp only [get_putD]; simpa using h2) (E2 _ hle0)) _) ?_
  intro a4 ht4 de4
  refine list_val ht4 (wanted_by (c := true) (b := true) (j := 3) (oj := oAt 3) (k := 140) ht4 (by kernel_rfl) (by kernel_rfl) (by kernel_rfl) (by simp only [get_putD]; simp)) (p := some (path 142)) (by kernel_rfl) (v := .vfo 202 201 4621819117588971520 3) (E2 _ hle0) (x_move (x := .tmp 2) (by kernel_rfl) (ht4.at (v := .vfo 202 201 4621819117588971520 3) (by simp only [get_putD]; simpa using h2) (E2 _ hle0)) _) ?_
  intro a5 ht5 de5
  refine list_val ht5 (wanted_by (c := true) (b := true) (j := 3) (oj := oAt 3) (k := 140) ht5 (by kernel_rfl) (by kernel_rfl) (by kernel_rfl) (by simp only [get_putD]; simp)) (p := some (path 143)) (by kernel_rfl) (v := .bool true) rfl (x_bin (op := .eql) (T := 47) (s := 47) (x := .tmp 141) (y := .tmp 142) (by kernel_rfl) (ht5.at (v := .vfo 202 201 4621819117588971520 3) (by simp only [get_putD]; simp) (E2 _ hle0)) (ht5.at (v := .vfo 202 201 4621819117588971520 3) (by simp only [get_putD]; simp) (E2 _ hle0)) rfl (by rw [f_eql, n2]; rfl)) ?_
  intro a6 ht6 de6
  refine list_val ht6 (wanted_no (by kernel_rfl)) (p := some (path 144)) (by kernel_rfl) (v := .bool true) rfl (by rw [x_pick (c := .tmp 140) (x := .tmp 143) (y := .const (.bool false)) (by kernel_rfl) (b := true) (ht6.at (v := .bool true) (u := .bool true) (by simp only [get_putD]; simp) rfl), if_pos rfl]; exact congrArg (fun u => Result.ok (Next.value u) _) (ht6.at (v := .bool true) (u := .bool true) (by simp only [get_putD]; simp) rfl)) ?_
  intro a7 ht7 de7
  refine list_val ht7 (wanted_no (by kernel_rfl)) (p := some (path 145)) (by kernel_rfl) (v := .bool true) rfl (x_move (x := .tmp 144) (by kernel_rfl) (ht7.at (v := .bool true) (u := .bool true) (by simp only [get_putD]; simp) rfl) _) ?_
  intro a8 ht8 de8
  refine list_val ht8 (wanted_by (c := true) (b := true) (j := 8) (oj := oAt 8) (k := 145) ht8 (by kernel_rfl) (by kernel_rfl) (by kernel_rfl) (by simp only [get_putD]; simp)) (p := some (path 146)) (by kernel_rfl) (v := .vfo 202 201 4621819117588971520 3) (E2 _ hle0) (x_move (x := .tmp 2) (by kernel_rfl) (ht8.at (v := .vfo 202 201 4621819117588971520 3) (by simp only [get_putD]; simpa using h2) (E2 _ hle0)) _) ?_
  intro a9 ht9 de9
  refine list_val ht9 (wanted_by (c := true) (b := true) (j := 8) (oj := oAt 8) (k := 145) ht9 (by kernel_rfl) (by kernel_rfl) (by kernel_rfl) (by simp only [get_putD]; simp)) (p := some (path 147)) (by kernel_rfl) (v := .vflt 201) (E1 _ hle0) (x_move (x := .tmp 1) (by kernel_rfl) (ht9.at (v := .vflt 201) (by simp only [get_putD]; simpa using h1) (E1 _ hle0)) _) ?_
  intro a10 ht10 de10
  have hn : σ st.n = none := hfree st.n (Nat.le_refl _) (by rw [bump_n]; exact Nat.lt_succ_self _)
  have hle1 : σ.le (σ.put st.n ⟨0, 0, r⟩) := Env.le_put _ hn
  have EN : den (σ.put st.n ⟨0, 0, r⟩) (.vflt st.n) = some (.float .f64 r) := by simp only [den, Env.put_same, Option.map_some]
  have hT := ht10.mono hle1
  refine list_val hT (wanted_by (c := true) (b := true) (j := 8) (oj := oAt 8) (k := 145) hT (by kernel_rfl) (by kernel_rfl) (by kernel_rfl) (by simp only [get_putD]; simp)) (p := some (path 148)) (by kernel_rfl) (v := .vflt st.n) EN (x_bin (op := .sub) (T := 47) (s := 47) (x := .tmp 146) (y := .tmp 147) (by kernel_rfl) (hT.at (v := .vfo 202 201 4621819117588971520 3) (by simp only [get_putD]; simp) (E2 _ hle1)) (hT.at (v := .vflt 201) (by simp only [get_putD]; simp) (E1 _ hle1)) rfl hsub) ?_
  intro a11 ht11 de11
  refine list_val ht11 (wanted_by (c := true) (b := true) (j := 8) (oj := oAt 8) (k := 145) ht11 (by kernel_rfl) (by kernel_rfl) (by kernel_rfl) (by simp only [get_putD]; simp)) (p := some (path 149)) (by kernel_rfl) (v := .bool true) rfl (x_bin (op := .geq) (T := 47) (s := 47) (x := .tmp 148) (y := .const (.float .f64 4621819117588971520)) (by kernel_rfl) (ht11.at (v := .vflt st.n) (by simp only [get_putD]; simp) EN) rfl rfl (hgeq _)) ?_
  intro a12 ht12 de12
  refine list_val ht12 (wanted_no (by kernel_rfl)) (p := some (path 150)) (by kernel_rfl) (v := .bool true) rfl (by rw [x_pick (c := .tmp 145) (x := .tmp 149) (y := .const (.bool false)) (by kernel_rfl) (b := true) (ht12.at (v := .bool true) (u := .bool true) (by simp only [get_putD]; simp) rfl), if_pos rfl]; exact congrArg (fun u => Result.ok (Next.value u) _) (ht12.at (v := .bool true) (u := .bool true) (by simp only [get_putD]; simp) rfl)) ?_
  intro a13 ht13 de13
  refine wpList_nil (hQ .normal _ _ ⟨rfl, σ.put st.n ⟨0, 0, r⟩, ?_, ht13, ?_⟩)
  · rw [bump_get, bump_n]
    exact Stp.name hr hn (show OnlyB w (w) (fun _ => False) from ⟨rfl, rfl, rfl, Nat.le_refl _, fun _ _ _ => rfl⟩) _
  · rw [de13, de12, de11, de10, de9, de8, de7, de6, de5, de4, de3, de2, de1, de0]
    exact hd.mono hle1
theorem r16_4 {t : Tr AV} {d : Ds} {st : St} (h1 : getP (path 1) t = some (.vflt 201)) (h2 : getP (path 2) t = some (.vfo 202 201 4621819117588971520 4)) : RunsAs Tryz.prog nS cR16 t d st (.norm (t16_4 t st) d (bumpS st)) := by
  refine ⟨by rw [show (Rs.norm (t16_4 t st) d (bumpS st)).ge st.n = (st.n ≤ (bumpS st).n) from rfl, bump_n]; exact Nat.le_succ _, fun σ a w Qe hne hfree hg hr ht hd hQ => ?_⟩
  have q2 := ht.val 2
  rw [h2] at q2
  simp only [Option.getD_some, den, Option.map_eq_some_iff] at q2
  obtain ⟨l, hl, _⟩ := q2
  unfold denF at hl
  split at hl
  rotate_left
  · cases hl
  rename_i l0 m e202 e201
  split at hl
  rotate_left
  · cases hl
  rename_i hc
  obtain rfl := Option.some.inj hl
  have E1 : ∀ σ2, σ.le σ2 → den σ2 (.vflt 201) = some (.float .f64 m.cap) := fun σ2 hle => by simp only [den, hle _ _ e201, Option.map_some]
  have E2 : ∀ σ2, σ.le σ2 → den σ2 (.vfo 202 201 4621819117588971520 4) = some (.float .f64 l0.cap) := fun σ2 hle => den_vfo (hle _ _ e202) (hle _ _ e201) hc
  have n1 : fNaN m.cap = false ∧ fNaN l0.cap = false ∧ ∃ r, Ieee.double.sub l0.cap m.cap = some r ∧ decide (fSg 4621819117588971520 ≤ fSg r) = false := by
    unfold fCls at hc
    split at hc
    · cases hc
    · rename_i q1
      split at hc
      · cases hc
      · rename_i q2
        split at hc
        · cases hc
        · rename_i r q3
          split at hc
          · rename_i q4; cases hc
          · rename_i q4; exact ⟨by simpa using q1, by simpa using q2, r, q3, decide_eq_false q4⟩
  obtain ⟨n1, n2, r, n3, n4⟩ := n1
  have hsub := f_sub n3 w
  have hnan : NaN r = false := sub_no n3
  have hgeq := f_geq (d := 4621819117588971520) hnan (by decide)
  rw [show decide (sr 4621819117588971520 ≤ sr r) = false from n4] at hgeq
  have hle0 : σ.le σ := Env.le.refl _
  rw [cR16_eq]
  refine wp_region_list ?_
  rw [oL_eq]
  refine list_val ht (wanted_no (by kernel_rfl)) (p := some (path 137)) (by kernel_rfl) (v := .vflt 201) (E1 _ hle0) (x_move (x := .tmp 1) (by kernel_rfl) (ht.at (v := .vflt 201) h1 (E1 _ hle0)) _) ?_
  intro a0 ht0 de0
  refine list_val ht0 (wanted_no (by kernel_rfl)) (p := some (path 138)) (by kernel_rfl) (v := .vflt 201) (E1 _ hle0) (x_move (x := .tmp 1) (by kernel_rfl) (ht0.at (v := .vflt 201) (by simp only [get_putD]; simpa using h1) (E1 _ hle0)) _) ?_
  intro a1 ht1 de1
  refine list_val ht1 (wanted_no (by kernel_rfl)) (p := some (path 139)) (by kernel_rfl) (v := .bool true) rfl (x_bin (op := .eql) (T := 47) (s := 47) (x := .tmp 137) (y := .tmp 138) (by kernel_rfl) (ht1.at (v := .vflt 201) (by simp only [get_putD]; simp) (E1 _ hle0)) (ht1.at (v := .vflt 201) (by simp only [get_putD]; simp) (E1 _ hle0)) rfl (by rw [f_eql, n1]; rfl)) ?_
  intro a2 ht2 de2
  refine list_val ht2 (wanted_no (by kernel_rfl)) (p := some (path 140)) (by kernel_rfl) (v := .bool true) rfl (x_move (x := .tmp 139) (by kernel_rfl) (ht2.at (v := .bool true) (u := .bool true) (by simp only [get_putD]; simp) rfl) _) ?_
  intro a3 ht3 de3
  refine list_val ht3 (wanted_by (c := true) (b := true) (j := 3) (oj := oAt 3) (k := 140) ht3 (by kernel_rfl) (by kernel_rfl) (by kernel_rfl) (by simp only [get_putD]; simp)) (p := some (path 141)) (by kernel_rfl) (v := .vfo 202 201 4621819117588971520 4) (E2 _ hle0) (x_move (x := .tmp 2) (by kernel_rfl) (ht3.at (v := .vfo 202 201 4621819117588971520 4) (by simp only [get_putD]; simpa using h2) (E2 _ hle0)) _) ?_
  intro a4 ht4 de4
  refine list_val ht4 (wanted_by (c := true) (b := true) (j := 3) (oj := oAt 3) (k := 140) ht4 (by kernel_rfl) (by kernel_rfl) (by kernel_rfl) (by simp only [get_putD]; simp)) (p := some (path 142)) (by kernel_rfl) (v := .vfo 202 201 4621819117588971520 4) (E2 _ hle0) (x_move (x := .tmp 2) (by kernel_rfl) (ht4.at (v := .vfo 202 201 4621819117588971520 4) (by simp only [get_putD]; simpa using h2) (E2 _ hle0)) _) ?_
  intro a5 ht5 de5
  refine list_val ht5 (wanted_by (c := true) (b := true) (j := 3) (oj := oAt 3) (k := 140) ht5 (by kernel_rfl) (by kernel_rfl) (by kernel_rfl) (by simp only [get_putD]; simp)) (p := some (path 143)) (by kernel_rfl) (v := .bool true) rfl (x_bin (op := .eql) (T := 47) (s := 47) (x := .tmp 141) (y := .tmp 142) (by kernel_rfl) (ht5.at (v := .vfo 202 201 4621819117588971520 4) (by simp only [get_putD]; simp) (E2 _ hle0)) (ht5.at (v := .vfo 202 201 4621819117588971520 4) (by simp only [get_putD]; simp) (E2 _ hle0)) rfl (by rw [f_eql, n2]; rfl)) ?_
  intro a6 ht6 de6
  refine list_val ht6 (wanted_no (by kernel_rfl)) (p := some (path 144)) (by kernel_rfl) (v := .bool true) rfl (by rw [x_pick (c := .tmp 140) (x := .tmp 143) (y := .const (.bool false)) (by kernel_rfl) (b := true) (ht6.at (v := .bool true) (u := .bool true) (by simp only [get_putD]; simp) rfl), if_pos rfl]; exact congrArg (fun u => Result.ok (Next.value u) _) (ht6.at (v := .bool true) (u := .bool true) (by simp only [get_putD]; simp) rfl)) ?_
  intro a7 ht7 de7
  refine list_val ht7 (wanted_no (by kernel_rfl)) (p := some (path 145)) (by kernel_rfl) (v := .bool true) rfl (x_move (x := .tmp 144) (by kernel_rfl) (ht7.at (v := .bool true) (u := .bool true) (by simp only [get_putD]; simp) rfl) _) ?_
  intro a8 ht8 de8
  refine list_val ht8 (wanted_by (c := true) (b := true) (j := 8) (oj := oAt 8) (k := 145) ht8 (by kernel_rfl) (by kernel_rfl) (by kernel_rfl) (by simp only [get_putD]; simp)) (p := some (path 146)) (by kernel_rfl) (v := .vfo 202 201 4621819117588971520 4) (E2 _ hle0) (x_move (x := .tmp 2) (by kernel_rfl) (ht8.at (v := .vfo 202 201 4621819117588971520 4) (by simp only [get_putD]; simpa using h2) (E2 _ hle0)) _) ?_
  intro a9 ht9 de9
  refine list_val ht9 (wanted_by (c := true) (b := true) (j := 8) (oj := oAt 8) (k := 145) ht9 (by kernel_rfl) (by kernel_rfl) (by kernel_rfl) (by simp only [get_putD]; simp)) (p := some (path 147)) (by kernel_rfl) (v := .vflt 201) (E1 _ hle0) (x_move (x := .tmp 1) (by kernel_rfl) (ht9.at (v := .vflt 201) (by simp only [get_putD]; simpa using h1) (E1 _ hle0)) _) ?_
  intro a10 ht10 de10
  have hn : σ st.n = none := hfree st.n (Nat.le_refl _) (by rw [bump_n]; exact Nat.lt_succ_self _)
  have hle1 : σ.le (σ.put st.n ⟨0, 0, r⟩) := Env.le_put _ hn
  have EN : den (σ.put st.n ⟨0, 0, r⟩) (.vflt st.n) = some (.float .f64 r) := by simp only [den, Env.put_same, Option.map_some]
  have hT := ht10.mono hle1
  refine list_val hT (wanted_by (c := true) (b := true) (j := 8) (oj := oAt 8) (k := 145) hT (by kernel_rfl) (by kernel_rfl) (by kernel_rfl) (by simp only [get_putD]; simp)) (p := some (path 148)) (by kernel_rfl) (v := .vflt st.n) EN (x_bin (op := .sub) (T := 47) (s := 47) (x := .tmp 146) (y := .tmp 147) (by kernel_rfl) (hT.at (v := .vfo 202 201 4621819117588971520 4) (by simp only [get_putD]; simp) (E2 _ hle1)) (hT.at (v := .vflt 201) (by simp only [get_putD]; simp) (E1 _ hle1)) rfl hsub) ?_
  intro a11 ht11 de11
  refine list_val ht11 (wanted_by (c := true) (b := true) (j := 8) (oj := oAt 8) (k := 145) ht11 (by kernel_rfl) (by kernel_rfl) (by kernel_rfl) (by simp only [get_putD]; simp)) (p := some (path 149)) (by kernel_rfl) (v := .bool false) rfl (x_bin (op := .geq) (T := 47) (s := 47) (x := .tmp 148) (y := .const (.float .f64 4621819117588971520)) (by kernel_rfl) (ht11.at (v := .vflt st.n) (by simp only [get_putD]; simp) EN) rfl rfl (hgeq _)) ?_
  intro a12 ht12 de12
  refine list_val ht12 (wanted_no (by kernel_rfl)) (p := some (path 150)) (by kernel_rfl) (v := .bool false) rfl (by rw [x_pick (c := .tmp 145) (x := .tmp 149) (y := .const (.bool false)) (by kernel_rfl) (b := true) (ht12.at (v := .bool true) (u := .bool true) (by simp only [get_putD]; simp) rfl), if_pos rfl]; exact congrArg (fun u => Result.ok (Next.value u) _) (ht12.at (v := .bool false) (u := .bool false) (by simp only [get_putD]; simp) rfl)) ?_
  intro a13 ht13 de13
  refine wpList_nil (hQ .normal _ _ ⟨rfl, σ.put st.n ⟨0, 0, r⟩, ?_, ht13, ?_⟩)
  · rw [bump_get, bump_n]
    exact Stp.name hr hn (show OnlyB w (w) (fun _ => False) from ⟨rfl, rfl, rfl, Nat.le_refl _, fun _ _ _ => rfl⟩) _
  · rw [de13, de12, de11, de10, de9, de8, de7, de6, de5, de4, de3, de2, de1, de0]
    exact hd.mono hle1
end Go.Proofs.YtjfmelmiegnmjaaGreatDoor

/- The table of these runs, and all hooks. -/
open Go Go.Sx Go.Proofs Go.RowKit
set_option linter.all false
namespace Go.Proofs.YtjfmelmiegnmjaaGreatDoor
set_option maxRecDepth 1000000

noncomputable def tblM : List ME := [m0, m1, m2, m3, m4, m5, m6, m7, m8, m9, m10, m11, m12, m13, m14, m15, m16, m17, m18, m19, m20, m21, m22, m23, m24, m25, m26, m27, m28, m29, m30, m31]
theorem tblM_ok : ∀ e ∈ tblM, e.ok := by
  intro e he
  simp only [tblM, List.mem_cons, List.not_mem_nil, or_false] at he
  rcases he with rfl | rfl | rfl | rfl | rfl | rfl | rfl | rfl | rfl | rfl | rfl | rfl | rfl | rfl | rfl | rfl | rfl | rfl | rfl | rfl | rfl | rfl | rfl | rfl | rfl | rfl | rfl | rfl | rfl | rfl | rfl | rfl
  · exact m0_ok
  · exact m1_ok
  · exact m2_ok
  · exact m3_ok
  · exact m4_ok
  · exact m5_ok
  · exact m6_ok
  · exact m7_ok
  · exact m8_ok
  · exact m9_ok
  · exact m10_ok
  · exact m11_ok
  · exact m12_ok
  · exact m13_ok
  · exact m14_ok
  · exact m15_ok
  · exact m16_ok
  · exact m17_ok
  · exact m18_ok
  · exact m19_ok
  · exact m20_ok
  · exact m21_ok
  · exact m22_ok
  · exact m23_ok
  · exact m24_ok
  · exact m25_ok
  · exact m26_ok
  · exact m27_ok
  · exact m28_ok
  · exact m29_ok
  · exact m30_ok
  · exact m31_ok
/-- All hooks. -/
noncomputable def hCM : Hk := hor (nsHook 239 5 (gLook tblM)) hCN
theorem hCM_good : HkGood Tryz.prog hCM := HkGood.or (look_good tblM_ok) hCN_good
end Go.Proofs.YtjfmelmiegnmjaaGreatDoor

/- The hooks, that of the times too. -/
open Go Go.Sx Go.Proofs Go.RowKit
set_option linter.all false
namespace Go.Proofs.YtjfmelmiegnmjaaGreatDoor
noncomputable def hCO : Hk := hor (pureHook 93 gOver) hCM
theorem hCO_good : HkGood Tryz.prog hCO := HkGood.or over_good hCM_good
end Go.Proofs.YtjfmelmiegnmjaaGreatDoor
