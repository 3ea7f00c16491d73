/- Calls, deferred calls, panics; the region that draws no order. No program. -/
import Derived.Test.YtlnekpnopjgbfaaGreatDoorXSb
import Derived.Defers
import Derived.Below
import Derived.Lib.LaidTab
import Derived.Recover
import Derived.WideShapes
import Derived.Laws.Cover2
import Derived.OpenShut
import Derived.Deep.Slices
import Derived.ShutString
set_option linter.all false
namespace Go.Sx
set_option linter.unusedVariables false
set_option linter.unusedSimpArgs false

section
variable {bs : List Deferred} {ro : Option Nat} {P : Program} {okT : Nat → Bool} {σ : Env} {t : Tr AV} {N : Nat} {a : Act} {ops : Array Oper} {Qe : Exit → Act → World → Prop} {i : Nat} {o : Oper} {dst : Option (List Q)} {w : World}

/-- A call that comes back, or panics. -/
theorem op_cal (hc : CallsOK P) {call : Nat → List AV → St → Ro} (hgood : CallGood P call) (hg : GlobOK P σ) (ht : TmpOK σ t N a) (hi : ops[i]? = some o) (hw : Region.wanted o (yielded ops a.tmps) = true) {fo : OP} {vs : List OP} (hco : opC P okT o.op = some (.cal fo vs))
    {g : Nat} {first cap : List AV} (hf : ev fo t = .fn (.func g) first cap) {st : St} (hr : Rep σ st.get w) (hd : dstP N o.dst = some dst) {K : Act → World → Prop}
    (hne : call g (first ++ evs vs t ++ cap) st ≠ .no)
    (h : ∀ v st', call g (first ++ evs vs t ++ cap) st = .ret v st' → (∀ id, st.n ≤ id → id < st'.n → σ id = none) ∧
      ∀ σ' a' w', Stp σ st.get st.n w σ' st'.get st'.n w' → TmpOK σ' (putD dst v t) N a' → a'.defers = a.defers → K a' w')
    (h2 : ∀ v st', call g (first ++ evs vs t ++ cap) st = .pan v st' → (∀ id, st.n ≤ id → id < st'.n → σ id = none) ∧
      ∀ σ' u w', Stp σ st.get st.n w σ' st'.get st'.n w' → den σ' v = some u → Qe (.panic [{ v := u, recovered := false }]) a w') : wpOpIn (RF ro) 0 P ops Qe i K a w := by
  refine wpOp_call hc hi hw hco (ht.ev hg) hf ?_ (hgood.has _ _ _ hne)
  intro us hus
  have hC := hgood.ok g _ st σ w us hr hg hus
  cases hres : call g (first ++ evs vs t ++ cap) st with
  | no => exact absurd hres hne
  | ret v st' =>
    obtain ⟨hfr, hK⟩ := h v st' hres
    refine Calls.mono (hC.1 v st' hres hfr) ?_
    rintro e w' ⟨σ', u, rfl, hv, hs⟩
    exact hK σ' _ w' hs ((ht.mono hs.le).put hd hv) put_defers
  | pan v st' =>
    obtain ⟨hfr, hK⟩ := h2 v st' hres
    refine Calls.mono (hC.2 v st' hres hfr) ?_
    rintro e w' ⟨σ', u, rfl, hv, hs⟩
    exact hK σ' u w' hs hv

theorem pan_op {x : OP} (hco : opC P okT o.op = some (.pan x)) : ∃ y, o.op = .panic y ∧ cOp P y = some x := by
  cases hop : o.op <;> rw [hop] at hco <;> simp only [opC] at hco
  case panic y =>
    unfold cPanic at hco
    split at hco
    · rename_i x' hx
      obtain rfl : x' = x := by simpa using hco
      exact ⟨y, rfl, hx⟩
    · cases hco
  case call c =>
    exfalso
    unfold cCall at hco
    split at hco
    · split at hco
      · rename_i b _ _ vs' _
        unfold builtinC at hco
        split at hco
        all_goals first
          | (cases hco; done)
          | (split at hco <;> first
            | (cases hco; done)
            | (simp only [appC, copyC, lenC, capC, clearC, u2, u1, a2] at hco
               repeat' (first | (cases hco; done) | (split at hco) | (simp only [cond_eq_ite, u1, a1, a2] at hco))))
      · cases hco
    · split at hco <;> cases hco
    · cases hco
  all_goals exfalso
  all_goals first
    | (cases hco; done)
    | (simp only [cMove, cPick, cAlloc, cBox, cBuild, cBuildS, cLoad, cStore, cNil, cBin, cUn, cConv, convF, cIface, cFunc, cMap, cMakeS, cSlice, sliceC, cFieldA, cS2A, cField, cIndexA, cIndex, cLookup, cUpd, cEntry, cEStore, cAssert, cExt, cDefer, u1, u2, a1, a2, a3] at hco
       repeat' (first | (cases hco; done) | (split at hco) | (simp only [cond_eq_ite, u1, a1, a2] at hco)))

theorem dfr_op {fo : OP} {vs : List OP} (hco : opC P okT o.op = some (.dfr fo vs)) : ∃ c f, o.op = .defer c ∧ c.callee = .value f ∧ cOp P f = some fo ∧ cOps P c.args.toList = some vs := by
  cases hop : o.op <;> rw [hop] at hco <;> simp only [opC] at hco
  case defer c =>
    unfold cDefer at hco
    split at hco
    · rename_i f hcal
      split at hco
      · rename_i f'' vs'' hf' hvs'
        obtain ⟨rfl, rfl⟩ : f'' = fo ∧ vs'' = vs := by simpa using hco
        exact ⟨c, f, rfl, hcal, hf', hvs'⟩
      · cases hco
    · cases hco
  case call c =>
    exfalso
    unfold cCall at hco
    split at hco
    · split at hco
      · rename_i b _ _ vs' _
        unfold builtinC at hco
        split at hco
        all_goals first
          | (cases hco; done)
          | (split at hco <;> first
            | (cases hco; done)
            | (simp only [appC, copyC, lenC, capC, clearC, u2, u1, a2] at hco
               repeat' (first | (cases hco; done) | (split at hco) | (simp only [cond_eq_ite, u1, a1, a2] at hco))))
      · cases hco
    · split at hco <;> cases hco
    · cases hco
  all_goals exfalso
  all_goals first
    | (cases hco; done)
    | (simp only [cMove, cPick, cAlloc, cBox, cBuild, cBuildS, cLoad, cStore, cNil, cBin, cUn, cConv, convF, cIface, cFunc, cMap, cMakeS, cSlice, sliceC, cFieldA, cS2A, cField, cIndexA, cIndex, cLookup, cUpd, cEntry, cEStore, cAssert, cExt, cPanic, u1, u2, a1, a2, a3] at hco
       repeat' (first | (cases hco; done) | (split at hco) | (simp only [cond_eq_ite, u1, a1, a2] at hco)))

theorem op_pan (hg : GlobOK P σ) (ht : TmpOK σ t N a) (hi : ops[i]? = some o) (hw : Region.wanted o (yielded ops a.tmps) = true) {x : OP} (hco : opC P okT o.op = some (.pan x)) {T : Nat} {v : AV} (hx : ev x t = .ifc T v) {K : Act → World → Prop}
    (h : ∀ u, den σ (.ifc T v) = some u → Qe (.panic [{ v := u, recovered := false }]) a w) : wpOpIn (RF ro) 0 P ops Qe i K a w := by
  obtain ⟨y, hop, hy⟩ := pan_op hco
  have hd := ht.ev hg y x hy
  rw [hx] at hd
  obtain ⟨u, hu'⟩ : ∃ u, Value.iface T u = a.eval y := by
    have hd' := hd
    simp only [den] at hd'
    cases hv : den σ v with
    | none => rw [hv] at hd'; cases hd'
    | some u => rw [hv] at hd'; exact ⟨u, Option.some.inj hd'⟩
  unfold wpOpIn
  simp only [hi, hw, if_true]
  refine ⟨fun _ _ => trivial, ?_⟩
  have hrun : (execOp a.eval o).run P w = .halt (.panic (a.eval y)) w := by
    simp only [execOp, hop, Instr.panic, ← hu', goPanic]
    rfl
  rw [Oper.semAt_eq _ _ _ (fun c hc => by rw [hop] at hc; cases hc), hrun]
  exact h _ hd

theorem op_dfr (hro : ro = none) (hg : GlobOK P σ) (ht : TmpOK σ t N a) (hi : ops[i]? = some o) (hw : Region.wanted o (yielded ops a.tmps) = true) {fo : OP} {vs : List OP} (hco : opC P okT o.op = some (.dfr fo vs))
    {g : Nat} {first cap : List AV} (hf : ev fo t = .fn (.func g) first cap) (hd : dstP N o.dst = some none) {d : Ds} (hds : DefOK bs σ d a.defers) {K : Act → World → Prop}
    (h : ∀ a', TmpOK σ t N a' → DefOK bs σ ((g, first ++ evs vs t ++ cap) :: d) a'.defers → K a' w) : wpOpIn (RF ro) 0 P ops Qe i K a w := by
  obtain ⟨c, f, hop, hcal, hcf, hcv⟩ := dfr_op hco
  have he := ht.ev hg
  have hdf := he _ _ hcf
  rw [hf] at hdf
  simp only [den] at hdf
  split at hdf
  · rename_i fs cs hfs hcs
    have hdf : Value.func (.func g) fs.toArray cs.toArray = a.eval f := Option.some.inj hdf
    have hda := cOps_den he hcv
    have hall := denL_append (denL_append hfs hda) hcs
    have hdst : o.dst = none := by
      rcases dstP_spec hd with ⟨h1, _⟩ | ⟨k, _, h2, _⟩
      · exact h1
      · cases h2
    unfold wpOpIn
    simp only [hi, hw, if_true]
    refine ⟨fun _ _ => trivial, ?_⟩
    have hrun : (execOp a.eval o).run P w = .ok (.defer { target := .fn (.func g) cs.toArray, args := fs.toArray ++ c.args.map a.eval }) w := by
      simp only [execOp, hop, resolve, hcal, Sem.run_bind, ← hdf, Deferred.ofValue, Sem.run_pure, Result.andThen_ok]
    subst hro
    show Oper.uponIn _ _ _ _ _ _ _ ((execOp a.eval o).run P w)
    rw [hrun]
    show K _ w
    rw [hdst]
    refine h _ ⟨ht.val, ht.size⟩ (.cons rfl ?_ hds)
    simpa using hall
  · cases hdf

/-- No deferred call. -/
def PE.nd : PE → Prop
  | .mk _ _ _ _ (.dfr ..) => False
  | _ => True

/-- A region that draws no order. -/
theorem wp_regL (hk : OkT P okT) (hc : CallsOK P) {call : Nat → List AV → St → Ro} (hgood : CallGood P call) : ∀ (l : List PE) (recs : List (Nat × Rec)) (t : Tr AV) (d : Ds) (st : St) (σ : Env) (a : Act) (w : World), (∀ pe ∈ l, PEok P okT N ops pe) → (∀ pe ∈ l, pe.um = 0) → (ro = none ∨ ∀ pe ∈ l, pe.nd) →
    xregL call false l recs t d st ≠ .no → Free σ st.n (xregL call false l recs t d st) → GlobOK P σ → Rep σ st.get w → TmpOK σ t N a → DefOK bs σ d a.defers →
    (∀ e a' w', Behind bs σ st.get st.n w N (xregL call false l recs t d st) e a' w' → Qe e a' w') → wpOpsIn (RF ro) 0 P ops Qe (l.map PE.i) a w
  | [], recs, t, d, st, σ, a, w, _, _, _, _, _, hg, hr, ht, hds, hQ => hQ .normal a w ⟨rfl, σ, Stp.refl hr, ht, hds⟩
  | .mk i dst g um co :: l, recs, t, d, st, σ, a, w, hpe, hum, hnd, hne, hfree, hg, hr, ht, hds, hQ => by
    obtain ⟨o, hi, hco, hd, hgd⟩ := hpe _ (List.mem_cons_self ..)
    have um0 : um = 0 := hum _ (List.mem_cons_self ..)
    subst um0
    have ih := wp_regL hk hc hgood l
    have hpe' : ∀ pe ∈ l, PEok P okT N ops pe := fun pe h => hpe pe (List.mem_cons_of_mem _ h)
    have hum' : ∀ pe ∈ l, pe.um = 0 := fun pe h => hum pe (List.mem_cons_of_mem _ h)
    have hnd' : ro = none ∨ ∀ pe ∈ l, pe.nd := hnd.imp id fun h pe hm => h pe (List.mem_cons_of_mem _ hm)
    have hwd := wanted_eq ht hgd
    rw [List.map_cons, wpOpsIn_cons]
    rw [xregL_cons] at hne hfree hQ
    show wpOpIn (RF ro) 0 P ops Qe i _ a w
    cases hw : wantedA g t with
    | false =>
      rw [xop_skip hw] at hne hfree hQ
      rw [hw] at hwd
      exact op_skip ht hi hwd.symm hd fun a' ht' hd' => ih _ _ _ _ σ a' w hpe' hum' hnd' hne hfree hg hr ht' (by rw [hd']; exact hds) hQ
    | true =>
      rw [hw] at hwd
      have hwd := hwd.symm
      cases co with
      | pur f =>
        rw [xop_pur hw] at hne hfree hQ
        cases hv : f t with
        | none => rw [hv] at hne; exact absurd rfl hne
        | some v =>
          rw [hv, xpur_some] at hne hfree hQ
          exact op_pur hk hg ht hi hwd hco hv hd fun a' ht' hd' => ih _ _ _ _ σ a' w hpe' hum' hnd' hne hfree hg hr ht' (by rw [hd']; exact hds) hQ
      | act f =>
        rw [xop_act hw] at hne hfree hQ
        cases hv : f t with
        | none => rw [hv] at hne; exact absurd rfl hne
        | some a1 =>
          rw [hv, xactO_some] at hne hfree hQ
          obtain ⟨e, he, _, hW, heq⟩ := xact_ok hne
          rw [heq] at hne hfree hQ
          have hst : St.mk st.h st.n = st := by cases st; rfl
          rw [hst] at hne hfree hQ
          have hget : (fun id => appE st.n e st.get id) = (st.eff e).get := funext fun id => (eff_get st e id).symm
          have hmono := regL_mono hgood.mono (draw := false) l (cons false (i, .small a1.reqs (e.ids st.n)) recs) (putD dst e.val t) d (st.eff e)
          have hlow := hfree.below hne hmono
          rw [eff_n] at hlow
          have hn : st.n < e.top st.n → σ st.n = none := fun h => hlow _ (Nat.le_refl _) h
          · refine op_act hk hg ht hi hwd hco hv hr he hn hW hd fun σ' a' w' hs ht' hd' => ?_
            rw [show appE st.n e st.get = (st.eff e).get from hget, ← eff_n] at hs
            exact ih _ _ _ _ σ' a' w' hpe' hum' hnd' hne (hfree.step hs) (hg.mono hs.le) hs.rep ht' (by rw [hd']; exact hds.mono hs.le) fun e' a'' w'' hB => hQ _ _ _ (hB.trans hs)
      | cal f vs =>
        rw [xop_cal hw] at hne hfree hQ
        obtain ⟨g', first, cap, hf, heq⟩ := xcal_ok hne
        have hh : st.hide (hidOf 0 st.h recs) = st := by cases st; rfl
        rw [hh] at heq
        rw [heq] at hne hfree hQ
        refine op_cal hc hgood hg ht hi hwd hco hf hr hd (fun h => ?_) (fun v st' hres => ?_) (fun v st' hres => ?_)
        · rw [h] at hne; exact hne rfl
        · rw [hres] at hne hfree hQ
          obtain ⟨_, heq⟩ := xret_ret hne
          have hb : st'.back st.h (hidOf 0 st.h recs) = st' := by cases st'; rfl
          rw [hb] at heq
          rw [heq] at hne hfree hQ
          have hmono := regL_mono hgood.mono (draw := false) l (cons false (i, .big st.h st'.h) recs) (putD dst v t) d st'
          refine ⟨hfree.below hne hmono, fun σ' a' w' hs ht' hd' => ?_⟩
          exact ih _ _ _ _ σ' a' w' hpe' hum' hnd' hne (hfree.step hs) (hg.mono hs.le) hs.rep ht' (by rw [hd']; exact hds.mono hs.le) fun e' a'' w'' hB => hQ _ _ _ (hB.trans hs)
        · rw [hres] at hne hfree hQ
          refine ⟨hfree, fun σ' u w' hs hu => ?_⟩
          exact hQ _ _ _ ⟨σ', u, rfl, hu, hs, ht.mono hs.le, hds.mono hs.le⟩
      | dfr f vs =>
        rw [xop_dfr hw] at hne hfree hQ
        unfold xdfr at hne hfree hQ
        simp only at hne hfree hQ
        cases hf : ev f t with
        | fn fn first cap =>
          rw [hf] at hne hfree hQ
          cases fn with
          | func g' =>
            simp only at hne hfree hQ
            cases dst with
            | some p => exact absurd rfl hne
            | none => exact op_dfr (hnd.resolve_right fun h => h _ (List.mem_cons_self ..)) hg ht hi hwd hco hf hd hds fun a' ht' hd' => ih _ _ _ _ σ a' w hpe' hum' hnd' hne hfree hg hr ht' hd' hQ
          | _ => exact absurd rfl hne
        | _ => rw [hf] at hne; exact absurd rfl hne
      | pan x =>
        rw [xop_pan hw] at hne hfree hQ
        unfold xpan at hne hfree hQ
        simp only at hne hfree hQ
        cases hx : ev x t with
        | ifc T v =>
          rw [hx] at hne hfree hQ
          exact op_pan hg ht hi hwd hco hx fun u hu => hQ _ _ _ ⟨σ, u, rfl, hu, Stp.refl hr, ht, hds⟩
        | _ => rw [hx] at hne; exact absurd rfl hne
end
end Go.Sx

/- Drawn regions, the plain law: guarded updates that stand apart may change places. No program. -/
namespace Go.Sx
set_option linter.unusedVariables false
set_option linter.unusedSimpArgs false

/-- A guarded update: what is asked, what is put. -/
structure GU (L V : Type) where
  r : L → Option V
  w : L → Option V

namespace GU
variable {L V : Type}
def en (x : GU L V) (s : L → V) : Prop := ∀ l v, x.r l = some v → s l = v
def up (x : GU L V) (s : L → V) : L → V := fun l => (x.w l).getD (s l)
def ap (x y : GU L V) : Prop := (∀ l, x.w l ≠ none → y.r l = none ∧ y.w l = none) ∧ ∀ l, y.w l ≠ none → x.r l = none

theorem swap {x y : GU L V} (h : ap x y) {s : L → V} (hx : en x s) (hy : en y (up x s)) : en y s ∧ en x (up y s) ∧ up y (up x s) = up x (up y s) := by
  refine ⟨fun l v e => ?_, fun l v e => ?_, funext fun l => ?_⟩
  · have := hy l v e
    cases hw : x.w l with
    | none => simpa [up, hw] using this
    | some u =>
      have := (h.1 l (by rw [hw]; simp)).1
      rw [this] at e; cases e
  · cases hw : y.w l with
    | none => simpa [up, hw] using hx l v e
    | some u =>
      have := h.2 l (by rw [hw]; simp)
      rw [this] at e; cases e
  · cases hw : x.w l with
    | none => simp [up, hw]
    | some u =>
      have := (h.1 l (by rw [hw]; simp)).2
      simp [up, hw, this]
end GU

/-- A symbolic state: temporaries, blocks, names that were given. -/
abbrev SS := (Nat → AV) × Hp × (Nat → Bool)

/-- An operation as it was done. -/
structure Item where
  pe : PE
  lo : Nat
  hi : Nat
  gt : GU Nat AV
  gh : GU Nat (Option Blk)

namespace Item
def i (x : Item) : Nat := x.pe.i
def gu (x : Item) : GU Nat Bool := ⟨fun id => if x.lo ≤ id ∧ id < x.hi then some false else none, fun id => if x.lo ≤ id ∧ id < x.hi then some true else none⟩
def en (x : Item) (s : SS) : Prop := x.gt.en s.1 ∧ x.gh.en s.2.1 ∧ x.gu.en s.2.2
def up (x : Item) (s : SS) : SS := (x.gt.up s.1, x.gh.up s.2.1, x.gu.up s.2.2)
def ap (x y : Item) : Prop := x.gt.ap y.gt ∧ x.gh.ap y.gh ∧ x.gu.ap y.gu

theorem swap {x y : Item} (h : ap x y) {s : SS} (hx : en x s) (hy : en y (up x s)) : en y s ∧ en x (up y s) ∧ up y (up x s) = up x (up y s) := by
  obtain ⟨a1, a2, a3⟩ := GU.swap h.1 hx.1 hy.1
  obtain ⟨b1, b2, b3⟩ := GU.swap h.2.1 hx.2.1 hy.2.1
  obtain ⟨c1, c2, c3⟩ := GU.swap h.2.2 hx.2.2 hy.2.2
  exact ⟨⟨a1, b1, c1⟩, ⟨a2, b2, c2⟩, Prod.ext a3 (Prod.ext b3 c3)⟩
end Item

def runs : List Item → SS → SS → Prop
  | [], s, s' => s = s'
  | x :: l, s, s' => x.en s ∧ runs l (x.up s) s'

theorem bubble {y : Item} : ∀ {l1 l2 : List Item} {s s' : SS}, (∀ x ∈ l1, x.ap y) → runs (l1 ++ y :: l2) s s' → y.en s ∧ runs (l1 ++ l2) (y.up s) s'
  | [], l2, s, s', _, h => h
  | x :: l1, l2, s, s', ha, ⟨h1, h2⟩ => by
    obtain ⟨k1, k2⟩ := bubble (fun z hz => ha z (List.mem_cons_of_mem _ hz)) h2
    obtain ⟨e1, e2, e3⟩ := Item.swap (ha x (List.mem_cons_self ..)) h1 k1
    refine ⟨e1, e2, ?_⟩
    rw [← e3]
    exact k2

/-- It waits for another, or for one that waits for it. -/
inductive Bef (ops : Array Oper) : Nat → Nat → Prop where
  | one {i j : Nat} {o : Oper} {e} (h : ops[j]? = some o) (he : e ∈ o.after) (hb : Region.binds .any e = true) (hi : e.on = i) : Bef ops i j
  | more {i k j : Nat} {o : Oper} {e} (h : ops[j]? = some o) (he : e ∈ o.after) (hb : Region.binds .any e = true) (hi : e.on = k) (hk : Bef ops i k) : Bef ops i j

/-- What has come up has what it waits for behind it. -/
def Down (ops : Array Oper) (S : Nat → Prop) : Prop := ∀ j o, S j → ops[j]? = some o → ∀ e ∈ o.after, Region.binds .any e = true → S e.on

theorem Bef.down {ops : Array Oper} {S : Nat → Prop} (hS : Down ops S) {i j : Nat} (h : Bef ops i j) : (∀ o, ops[j]? = some o → ∀ e ∈ o.after, Region.binds .any e = true → S e.on) → S i := by
  induction h with
  | one h he hb hi => intro k; subst hi; exact k _ h _ he hb
  | more h he hb hi hk ih =>
    intro k
    subst hi
    have hs := k _ h _ he hb
    exact ih fun o ho e he' hb' => hS _ o hs ho e he' hb'

/-- Each has what it waits for ahead of it. -/
def Topo (ops : Array Oper) : (Nat → Prop) → List Nat → Prop
  | _, [] => True
  | S, j :: l => (∃ o, ops[j]? = some o ∧ ∀ e ∈ o.after, Region.binds .any e = true → S e.on) ∧ Topo ops (fun i => S i ∨ i = j) l

theorem Topo.mono {ops : Array Oper} : ∀ {l : List Nat} {S T : Nat → Prop}, (∀ i, S i → T i) → Topo ops S l → Topo ops T l
  | [], _, _, _, _ => trivial
  | j :: l, S, T, h, ⟨⟨o, h1, h2⟩, h3⟩ => ⟨⟨o, h1, fun e he hb => h _ (h2 e he hb)⟩, h3.mono fun i hi => hi.imp (h i) id⟩

theorem Topo.take {ops : Array Oper} {j : Nat} : ∀ {l1 l2 : List Nat} {S : Nat → Prop}, Topo ops S (l1 ++ j :: l2) → Topo ops (fun i => S i ∨ i = j) (l1 ++ l2)
  | [], l2, S, h => h.2
  | k :: l1, l2, S, ⟨⟨o, h1, h2⟩, h3⟩ => ⟨⟨o, h1, fun e he hb => Or.inl (h2 e he hb)⟩, (Topo.take h3).mono fun i hi => by
      rcases hi with (hi | hi) | hi
      · exact Or.inl (Or.inl hi)
      · exact Or.inr hi
      · exact Or.inl (Or.inr hi)⟩

/-- Whatever the order. M: what holds in between. -/
theorem any_of_runs {ro : Option Nat} {P : Program} {ops : Array Oper} {Qe : Exit → Act → World → Prop} {M : SS → Act → World → Prop} {s' : SS}
    (hend : ∀ a w, M s' a w → Qe .normal a w) : ∀ (fuel : Nat) (L : List Item) (listed : Array Bool) (s : SS) (a : Act) (w : World),
    L.length ≤ fuel → listed.size = ops.size → (∀ j, j < ops.size → (listed.getD j true = false ↔ j ∈ L.map Item.i)) → (L.map Item.i).Nodup →
    L.Pairwise (fun x y => x.ap y ∨ Bef ops x.i y.i) → Down ops (fun j => listed.getD j false = true) → Topo ops (fun j => listed.getD j false = true) (L.map Item.i) →
    (∀ x ∈ L, ∀ s a w, M s a w → x.en s → ∀ K : Act → World → Prop, (∀ a' w', M (x.up s) a' w' → K a' w') → wpOpIn (RF ro) 0 P ops Qe x.i K a w) →
    runs L s s' → M s a w → wpAnyIn (RF ro) 0 P .any ops Qe fuel listed a w := by
  intro fuel
  induction fuel with
  | zero =>
    intro L listed s a w hlen hsz hL _ _ _ _ _ hr hM
    have : L = [] := List.eq_nil_of_length_eq_zero (Nat.le_zero.1 hlen)
    subst this
    obtain rfl : s = s' := hr
    refine ⟨?_, hend _ _ hM⟩
    cases hq : Region.ready .any ops listed with
    | nil => rfl
    | cons j l =>
      exfalso
      have hj : j ∈ Region.ready .any ops listed := by rw [hq]; exact List.mem_cons_self ..
      obtain ⟨h0, o, ho, _⟩ := mem_ready.1 hj
      have := (hL j (Array.getElem?_eq_some_iff.1 ho).1).1 h0
      cases this
  | succ fuel ih =>
    intro L listed s a w hlen hsz hL hnd hpw hdn htp hok hr hM
    refine ⟨fun hempty => ?_, fun j hj => ?_⟩
    · cases L with
      | nil =>
        obtain rfl : s = s' := hr
        exact hend _ _ hM
      | cons x l =>
        exfalso
        obtain ⟨⟨o, h1, h2⟩, _⟩ := htp
        have hlt := (Array.getElem?_eq_some_iff.1 h1).1
        have : x.i ∈ Region.ready .any ops listed := mem_ready.2 ⟨(hL x.i hlt).2 (List.mem_cons_self ..), o, h1, h2⟩
        rw [hempty] at this
        cases this
    · obtain ⟨h0, o, ho, hall⟩ := mem_ready.1 hj
      have hlt := (Array.getElem?_eq_some_iff.1 ho).1
      have hmem := (hL j hlt).1 h0
      obtain ⟨y, hy, hyi⟩ := List.mem_map.1 hmem
      obtain ⟨l1, l2, rfl⟩ := List.append_of_mem hy
      subst hyi
      have hap : ∀ x ∈ l1, x.ap y := by
        intro x hx
        have := (List.pairwise_append.1 hpw).2.2 x hx y (List.mem_cons_self ..)
        rcases this with h | h
        · exact h
        · exfalso
          have hl := h.down hdn fun o' ho' e he hb => by
            rw [ho] at ho'
            obtain rfl := Option.some.inj ho'
            exact hall e he hb
          have hlt' : x.i < ops.size := by
            rw [← hsz]
            rcases Nat.lt_or_ge x.i listed.size with h' | h'
            · exact h'
            · simp [Array.getElem?_eq_none h'] at hl
          have hin : x.i ∈ (l1 ++ y :: l2).map Item.i := List.mem_map_of_mem (List.mem_append_left _ hx)
          have hu := (hL x.i hlt').2 hin
          have hlt2 : x.i < listed.size := by omega
          simp [hlt2] at hl hu
          rw [hl] at hu
          cases hu
      obtain ⟨e1, e2⟩ := bubble hap hr
      refine hok y hy s a w hM e1 _ fun a' w' hM' => ?_
      have hnd' := hnd
      rw [List.map_append, List.map_cons, List.perm_middle.nodup_iff] at hnd'
      obtain ⟨hn1, hn2⟩ := List.nodup_cons.1 hnd'
      refine ih (l1 ++ l2) _ (y.up s) a' w' ?_ (by simp [hsz]) ?_ (by rw [List.map_append]; exact hn2) ?_ ?_ ?_ (fun x hx => hok x (by
          rcases List.mem_append.1 hx with h | h
          · exact List.mem_append_left _ h
          · exact List.mem_append_right _ (List.mem_cons_of_mem _ h))) e2 hM'
      · simp only [List.length_append, List.length_cons] at hlen ⊢
        omega
      · intro j hj'
        by_cases hjy : y.i = j
        · subst hjy
          constructor
          · intro h
            simp [hsz, hlt] at h
          · intro h
            rw [List.map_append] at h
            exact absurd h hn1
        · rw [getD_set_ne true hjy, hL j hj', List.map_append, List.map_append, List.map_cons]
          simp only [List.mem_append, List.mem_cons]
          constructor
          · rintro (h | h | h)
            · exact Or.inl h
            · exact absurd h.symm hjy
            · exact Or.inr h
          · rintro (h | h)
            · exact Or.inl h
            · exact Or.inr (Or.inr h)
      · exact hpw.sublist (List.append_sublist_append_left l1 |>.2 (List.sublist_cons_self y l2))
      · intro k o' hk ho' e he hb
        by_cases hky : y.i = k
        · subst hky
          rw [ho] at ho'
          obtain rfl := Option.some.inj ho'
          exact getD_set_true (hall e he hb)
        · rw [getD_set_ne false hky] at hk
          exact getD_set_true (hdn k o' hk ho' e he hb)
      · have := htp
        rw [List.map_append, List.map_cons] at this
        rw [List.map_append]
        refine (Topo.take this).mono ?_
        rintro i (hi | rfl)
        · exact getD_set_true hi
        · simp [hsz, hlt]
end Go.Sx

/- What looks equal is equal; an operation looks at its operands alone; what it asks of the heap. No program. -/
namespace Go.Sx
set_option linter.unusedVariables false
set_option linter.unusedSimpArgs false

theorem and3 {a b : Bool} (h : (a && b) = true) : a = true ∧ b = true := by cases a <;> cases b <;> first | exact ⟨rfl, rfl⟩ | cases h

theorem nbeq {a b : Nat} (h : Nat.beq a b = true) : a = b := Nat.eq_of_beq_eq_true h

theorem eqCap_eq {c d : Cap} (h : eqCap c d = true) : c = d := by
  cases c <;> cases d <;> first | (cases h; done) | exact congrArg _ (nbeq h)

mutual
theorem AV.beq_eq : ∀ (x y : AV), AV.beq x y = true → x = y
  | .bool a, y, h => by
    cases y <;> simp only [AV.beq, reduceCtorEq] at h
    simpa using h
  | .int j a, y, h => by
    cases y <;> simp only [AV.beq, reduceCtorEq] at h
    obtain ⟨h1, h2⟩ := and3 h
    rw [ieq_iff] at h2
    rw [ikn_inj (nbeq h1), eq_of_beq h2]
  | .flt j a, y, h => by
    cases y <;> simp only [AV.beq, reduceCtorEq] at h
    obtain ⟨h1, h2⟩ := and3 h
    rw [eq_of_beq h1, nbeq h2]
  | .str n x, y, h => by
    cases y <;> simp only [AV.beq, reduceCtorEq] at h
    obtain ⟨h1, h2⟩ := and3 h
    rw [nbeq h1, nbeq h2]
  | .ptr n x, y, h => by
    cases y <;> simp only [AV.beq, reduceCtorEq] at h
    obtain ⟨h1, h2⟩ := and3 h
    rw [nbeq h1, nbeq h2]
  | .nilp, y, h => by cases y <;> simp only [AV.beq, reduceCtorEq] at h; rfl
  | .nils, y, h => by cases y <;> simp only [AV.beq, reduceCtorEq] at h; rfl
  | .nilm, y, h => by cases y <;> simp only [AV.beq, reduceCtorEq] at h; rfl
  | .nilf, y, h => by cases y <;> simp only [AV.beq, reduceCtorEq] at h; rfl
  | .nili, y, h => by cases y <;> simp only [AV.beq, reduceCtorEq] at h; rfl
  | .map i, y, h => by
    cases y <;> simp only [AV.beq, reduceCtorEq] at h
    rw [nbeq h]
  | .slc i a n c, y, h => by
    cases y <;> simp only [AV.beq, reduceCtorEq] at h
    obtain ⟨h, h4⟩ := and3 h
    obtain ⟨h, h3⟩ := and3 h
    obtain ⟨h1, h2⟩ := and3 h
    rw [nbeq h1, nbeq h2, nbeq h3, eqCap_eq h4]
  | .slcT i a n, y, h => by
    cases y <;> simp only [AV.beq, reduceCtorEq] at h
    obtain ⟨h, h3⟩ := and3 h
    obtain ⟨h1, h2⟩ := and3 h
    rw [nbeq h1, nbeq h2, nbeq h3]
  | .slcU i, y, h => by
    cases y <;> simp only [AV.beq, reduceCtorEq] at h
    rw [nbeq h]
  | .vflt i, y, h => by
    cases y <;> simp only [AV.beq, reduceCtorEq] at h
    rw [nbeq h]
  | .vfo i j d c, y, h => by
    cases y <;> simp only [AV.beq, reduceCtorEq] at h
    obtain ⟨h, h4⟩ := and3 h
    obtain ⟨h, h3⟩ := and3 h
    obtain ⟨h1, h2⟩ := and3 h
    rw [nbeq h1, nbeq h2, nbeq h3, nbeq h4]
  | .sn k n _, y, h => by cases y <;> simp only [AV.beq, reduceCtorEq, Bool.false_eq_true] at h
  | .vint k i a n m r, y, h => by
    cases y <;> simp only [AV.beq, reduceCtorEq] at h
    obtain ⟨h, h5⟩ := and3 h
    obtain ⟨h, h4⟩ := and3 h
    obtain ⟨h, h3⟩ := and3 h
    obtain ⟨h, h2⟩ := and3 h
    obtain ⟨h0, h1⟩ := and3 h
    rw [ieq_iff] at h2 h3
    rw [ikn_inj (nbeq h0), nbeq h1, eq_of_beq h2, eq_of_beq h3, nbeq h4, nbeq h5]
  | .tok k i a n, y, h => by
    cases y <;> simp only [AV.beq, reduceCtorEq] at h
    obtain ⟨h, h3⟩ := and3 h
    obtain ⟨h, h2⟩ := and3 h
    obtain ⟨h0, h1⟩ := and3 h
    rw [ikn_inj (nbeq h0), nbeq h1, nbeq h2, nbeq h3]
  | .slz i a n c, y, h => by
    cases y <;> simp only [AV.beq, reduceCtorEq] at h
    obtain ⟨h, h4⟩ := and3 h
    obtain ⟨h, h3⟩ := and3 h
    obtain ⟨h1, h2⟩ := and3 h
    rw [nbeq h1, nbeq h2, nbeq h3, nbeq h4]
  | .ifc t v, y, h => by
    cases y <;> simp only [AV.beq, reduceCtorEq] at h
    obtain ⟨h1, h2⟩ := and3 h
    rw [nbeq h1, AV.beq_eq _ _ h2]
  | .fn f a b, y, h => by
    cases y with
    | fn f' a' b' =>
      cases f <;> cases f' <;> simp only [AV.beq, reduceCtorEq, Bool.false_eq_true] at h
      obtain ⟨h, h3⟩ := and3 h
      obtain ⟨h1, h2⟩ := and3 h
      rw [nbeq h1, AV.beqL_eq _ _ h2, AV.beqL_eq _ _ h3]
    | _ => cases f <;> simp only [AV.beq, reduceCtorEq, Bool.false_eq_true] at h
  | .agg a, y, h => by
    cases y <;> simp only [AV.beq, reduceCtorEq] at h
    rw [AV.beqL_eq _ _ h]
  | .tup a, y, h => by
    cases y <;> simp only [AV.beq, reduceCtorEq] at h
    rw [AV.beqL_eq _ _ h]
theorem AV.beqL_eq : ∀ (x y : List AV), AV.beqL x y = true → x = y
  | [], y, h => by cases y <;> simp only [AV.beqL, reduceCtorEq] at h; rfl
  | a :: l, y, h => by
    cases y <;> simp only [AV.beqL, reduceCtorEq] at h
    obtain ⟨h1, h2⟩ := and3 h
    rw [AV.beq_eq _ _ h1, AV.beqL_eq _ _ h2]
end

theorem beqE_eq : ∀ (x y : List (AV × AV × Nat)), beqE x y = true → x = y
  | [], [], _ => rfl
  | [], _ :: _, h => by cases h
  | _ :: _, [], h => by cases h
  | (a, b, n) :: l, (c, d, m) :: k, h => by
    simp only [beqE] at h
    obtain ⟨h, h4⟩ := and3 h
    obtain ⟨h, h3⟩ := and3 h
    obtain ⟨h1, h2⟩ := and3 h
    rw [AV.beq_eq _ _ h1, AV.beq_eq _ _ h2, nbeq h3, beqE_eq _ _ h4]

theorem Cont.beq_eq {x y : Cont} (h : x.beq y = true) : x = y := by
  cases x <;> cases y <;> simp only [Cont.beq, reduceCtorEq, Bool.false_eq_true] at h
  · rw [AV.beqL_eq _ _ h]
  · obtain ⟨h1, h2⟩ := and3 h
    rw [nbeq h1, nbeq h2]
  · obtain ⟨h1, h2⟩ := and3 h
    rw [beqE_eq _ _ h1, nbeq h2]
  · rw [AV.beqL_eq _ _ h]

theorem sameB_eq {x y : Option Blk} (h : sameB x y = true) : x = y := by
  cases x with
  | none => cases h
  | some x =>
    cases y with
    | none => obtain ⟨e, s, c⟩ := x; cases h
    | some y =>
      obtain ⟨e, s, c⟩ := x
      obtain ⟨e', s', c'⟩ := y
      simp only [sameB] at h
      obtain ⟨h, h3⟩ := and3 h
      obtain ⟨h1, h2⟩ := and3 h
      rw [nbeq h1, nbeq h2, Cont.beq_eq h3]

/-! ### What is asked -/
theorem Src.get_congr {g g' : Hp} : ∀ (s : Src), (∀ id ∈ s.reqs, g id = g' id) → s.get g = s.get g'
  | .row r, _ => rfl
  | .at id off n, h => by
    simp only [Src.get]
    rw [h id (by simp [Src.reqs])]

theorem run_congr {g g' : Hp} {n : Nat} (a : Act1) (h : ∀ id ∈ a.reqs, g id = g' id) : a.run g n = a.run g' n := by
  have hs : ∀ s : Src, (∀ id ∈ s.reqs, id ∈ a.reqs) → s.get g = s.get g' := fun s k => s.get_congr fun id hid => h id (k id hid)
  cases a <;> simp only [Act1.run, Act1.reqs] at h hs ⊢ <;> first
    | rfl
    | (rw [h _ (by simp)]; done)
    | (rw [h _ (by simp), hs _ (by intro id hid; simp [hid])]; done)
    | (rw [hs _ (by intro id hid; simp [hid]), hs _ (by intro id hid; simp [hid])]; done)
    | (rw [h _ (List.mem_cons_self ..), h _ (List.mem_cons_of_mem _ (List.mem_cons_self ..))]; done)

/-! ### An operation looks at its operands alone -/
def CO.Dep (t t' : Tr AV) : CO → Prop
  | .pur f => f t = f t'
  | .act f => f t = f t'
  | .cal f vs => ev f t = ev f t' ∧ evs vs t = evs vs t'
  | .dfr f vs => ev f t = ev f t' ∧ evs vs t = evs vs t'
  | .pan x => ev x t = ev x t'

section
variable {ro : Option Nat} {P : Program} {okT : Nat → Bool} {t t' : Tr AV}

def EqOn (P : Program) (t t' : Tr AV) (S : List Operand) : Prop := ∀ x ∈ S, ∀ y, cOp P x = some y → ev y t = ev y t'

theorem EqOn.sub {S T : List Operand} (h : EqOn P t t' T) (k : ∀ x ∈ S, x ∈ T) : EqOn P t t' S := fun x hx => h x (k x hx)

theorem EqOn.evs : ∀ {l : List Operand} {vs : List OP}, EqOn P t t' l → cOps P l = some vs → evs vs t = evs vs t'
  | [], vs, _, h => by obtain rfl := Option.some.inj h; rfl
  | x :: l, vs, hS, h => by
    simp only [cOps] at h
    split at h
    · rename_i v vs' hv hvs
      obtain rfl := Option.some.inj h
      show Go.Sx.ev v t :: Go.Sx.evs vs' t = Go.Sx.ev v t' :: Go.Sx.evs vs' t'
      rw [hS x (List.mem_cons_self ..) v hv, EqOn.evs (hS.sub fun x hx => List.mem_cons_of_mem _ hx) hvs]
    · cases h

theorem EqOn.evP : ∀ {l : List (Nat × Operand)} {vs : List (Nat × OP)}, EqOn P t t' (l.map (·.2)) → cPs P l = some vs → evP vs t = evP vs t'
  | [], vs, _, h => by obtain rfl := Option.some.inj h; rfl
  | (i, x) :: l, vs, hS, h => by
    simp only [cPs] at h
    split at h
    · rename_i v vs' hv hvs
      obtain rfl := Option.some.inj h
      show (i, Go.Sx.ev v t) :: Go.Sx.evP vs' t = (i, Go.Sx.ev v t') :: Go.Sx.evP vs' t'
      rw [hS x (by simp) v hv, EqOn.evP (hS.sub fun x hx => by simp at hx ⊢; exact Or.inr hx) hvs]
    · cases h

theorem EqOn.optE {x : Option Operand} {y : Option OP} (hS : EqOn P t t' x.toList) (h : optC P x = some y) : optE y t = optE y t' := by
  cases x with
  | none => obtain rfl := Option.some.inj h; rfl
  | some x =>
    simp only [optC] at h
    split at h
    · rename_i v hv
      obtain rfl := Option.some.inj h
      simp only [Go.Sx.optE]
      rw [hS x (by simp) v hv]
    · cases h
end
end Go.Sx

/- An operation looks at its operands alone. No program. -/
namespace Go.Sx
set_option linter.unusedVariables false
set_option linter.unusedSimpArgs false

section
variable {ro : Option Nat} {P : Program} {okT : Nat → Bool} {t t' : Tr AV}

theorem dep_u1 {f : AV → Option AV} {x : OP} (h : ev x t = ev x t') : (u1 f x).Dep t t' := by
  show f (ev x t) = f (ev x t')
  rw [h]
theorem dep_u2 {f : AV → AV → Option AV} {x y : OP} (h : ev x t = ev x t') (k : ev y t = ev y t') : (u2 f x y).Dep t t' := by
  show f (ev x t) (ev y t) = f (ev x t') (ev y t')
  rw [h, k]
theorem dep_a1 {f : AV → Option Act1} {x : OP} (h : ev x t = ev x t') : (a1 f x).Dep t t' := by
  show f (ev x t) = f (ev x t')
  rw [h]
theorem dep_a2 {f : AV → AV → Option Act1} {x y : OP} (h : ev x t = ev x t') (k : ev y t = ev y t') : (a2 f x y).Dep t t' := by
  show f (ev x t) (ev y t) = f (ev x t') (ev y t')
  rw [h, k]
theorem dep_a3 {f : AV → AV → AV → Option Act1} {x y z : OP} (h : ev x t = ev x t') (k : ev y t = ev y t') (l : ev z t = ev z t') : (a3 f x y z).Dep t t' := by
  show f (ev x t) (ev y t) (ev z t) = f (ev x t') (ev y t') (ev z t')
  rw [h, k, l]

theorem dep_conv {s d : Nat} {x : OP} (hx : ev x t = ev x t') {co} (h : convF P s d x = some co) : co.Dep t t' := by
  unfold convF at h
  split at h
  all_goals first
    | (cases h; done)
    | (obtain rfl := Option.some.inj h; exact dep_u1 hx)
    | (simp only [cond_eq_ite] at h
       split at h
       · obtain rfl := Option.some.inj h; exact dep_a1 hx
       · cases h)

theorem dep_len {ts : List Nat} {x : OP} (hx : ev x t = ev x t') {co} (h : lenC P ts x = some co) : co.Dep t t' := by
  unfold lenC at h
  split at h
  · split at h
    all_goals first
      | (cases h; done)
      | (obtain rfl := Option.some.inj h; exact dep_u1 hx)
      | (obtain rfl := Option.some.inj h; exact dep_a1 hx)
  · cases h

theorem dep_builtin {b : Builtin} {ts : List Nat} {vs : List OP} (hv : ∀ y ∈ vs, ev y t = ev y t') {co} (h : builtinC P b ts vs = some co) : co.Dep t t' := by
  unfold builtinC at h
  split at h
  case h_1 =>
    split at h
    · rename_i s x
      have h1 := hv s (by simp)
      have h2 := hv x (by simp)
      unfold appC at h
      repeat' (first | (cases h; done) | (obtain rfl := Option.some.inj h; exact dep_a2 h1 h2) | (split at h) | (simp only [cond_eq_ite] at h))
    · cases h
  case h_2 =>
    split at h
    · rename_i s x
      have h1 := hv s (by simp)
      have h2 := hv x (by simp)
      unfold copyC at h
      repeat' (first | (cases h; done) | (obtain rfl := Option.some.inj h; exact dep_a2 h1 h2) | (split at h) | (simp only [cond_eq_ite] at h))
    · cases h
  case h_3 =>
    split at h
    · rename_i x
      exact dep_len (hv x (by simp)) h
    · cases h
  case h_4 =>
    split at h
    · rename_i x
      have h1 := hv x (by simp)
      unfold capC at h
      repeat' (first | (cases h; done) | (obtain rfl := Option.some.inj h; exact dep_u1 h1) | (split at h) | (simp only [cond_eq_ite] at h))
    · cases h
  case h_5 =>
    split at h
    · rename_i x
      have h1 := hv x (by simp)
      unfold clearC at h
      repeat' (first | (cases h; done) | (obtain rfl := Option.some.inj h; exact dep_a1 h1) | (split at h) | (simp only [cond_eq_ite] at h))
    · cases h
  case h_6 =>
    split at h
    · rename_i x y
      obtain rfl := Option.some.inj h
      exact dep_u2 (hv x (by simp)) (hv y (by simp))
    · cases h
  case h_7 =>
    split at h
    · rename_i x y
      obtain rfl := Option.some.inj h
      exact dep_u2 (hv x (by simp)) (hv y (by simp))
    · cases h
  case h_8 => cases h

theorem EqOn.each : ∀ {l : List Operand} {vs : List OP}, EqOn P t t' l → cOps P l = some vs → ∀ y ∈ vs, ev y t = ev y t'
  | [], vs, _, h, y, hy => by obtain rfl := Option.some.inj h; cases hy
  | x :: l, vs, hS, h, y, hy => by
    simp only [cOps] at h
    split at h
    · rename_i v vs' hv hvs
      obtain rfl := Option.some.inj h
      rcases List.mem_cons.1 hy with rfl | hy
      · exact hS x (List.mem_cons_self ..) _ hv
      · exact EqOn.each (hS.sub fun x hx => List.mem_cons_of_mem _ hx) hvs y hy
    · cases h

theorem dep_slice {T : Nat} {x : OP} {lo hi mx : Option OP} (hx : ev x t = ev x t') (h1 : optE lo t = optE lo t') (h2 : optE hi t = optE hi t') (h3 : optE mx t = optE mx t') {co} (h : sliceC P T x lo hi mx = some co) : co.Dep t t' := by
  unfold sliceC at h
  split at h
  · split at h
    · obtain rfl := Option.some.inj h
      simp only [CO.Dep, sliceRunS, hx, h1, h2]
    · cases h
  · split at h
    · obtain rfl := Option.some.inj h
      simp only [CO.Dep, sliceRun, hx, h1, h2, h3]
    · cases h
  · split at h
    · obtain rfl := Option.some.inj h
      simp only [CO.Dep, sliceRun, hx, h1, h2]
      rfl
    · cases h
  · cases h

/-- An operation looks at its operands alone. -/
theorem opC_dep {op : Op} (hS : EqOn P t t' op.operands.toList) {co} (h : opC P okT op = some co) : co.Dep t t' := by
  cases op <;> simp only [opC] at h
  case move x =>
    unfold cMove at h
    split at h
    · rename_i y hy; obtain rfl := Option.some.inj h; exact dep_u1 (hS x (by simp [Op.operands]) _ hy)
    · cases h
  case assign x =>
    unfold cMove at h
    split at h
    · rename_i y hy; obtain rfl := Option.some.inj h; exact dep_u1 (hS x (by simp [Op.operands]) _ hy)
    · cases h
  case pick c a b =>
    unfold cPick at h
    split at h
    · rename_i y1 y2 y3 h1 h2 h3
      obtain rfl := Option.some.inj h
      simp only [CO.Dep]
      rw [hS c (by simp [Op.operands]) _ h1, hS a (by simp [Op.operands]) _ h2, hS b (by simp [Op.operands]) _ h3]
    · cases h
  case alloc e =>
    unfold cAlloc at h
    split at h
    · obtain rfl := Option.some.inj h; rfl
    · cases h
  case box e x =>
    unfold cBox at h
    split at h
    · rename_i y hy; obtain rfl := Option.some.inj h; exact dep_a1 (hS x (by simp [Op.operands]) _ hy)
    · cases h
  case build T ps =>
    have hp : ∀ vs, cPs P ps.toList = some vs → evP vs t = evP vs t' := fun vs hv => EqOn.evP (hS.sub fun x hx => by simp [Op.operands] at hx ⊢; exact hx) hv
    unfold cBuild at h
    split at h
    · rename_i z vs fs hz hv hu
      split at h
      · obtain rfl := Option.some.inj h
        simp only [CO.Dep, buildF, hp _ hv]
      · cases h
    · rename_i z vs n e hz hv hu
      split at h
      · obtain rfl := Option.some.inj h
        simp only [CO.Dep, buildF, hp _ hv]
      · cases h
    · cases h
  case buildSlice T len ps =>
    have hp : ∀ vs, cPs P ps.toList = some vs → evP vs t = evP vs t' := fun vs hv => EqOn.evP (hS.sub fun x hx => by simp [Op.operands] at hx ⊢; exact hx) hv
    unfold cBuildS at h
    split at h
    · rename_i e vs hu hv
      split at h
      · simp only [cond_eq_ite] at h
        split at h
        · obtain rfl := Option.some.inj h
          simp only [CO.Dep, buildS, hp _ hv]
        · cases h
      · cases h
    · cases h
  case load T x =>
    unfold cLoad at h
    split at h
    · rename_i y n hy _ _; obtain rfl := Option.some.inj h; exact dep_a1 (hS x (by simp [Op.operands]) _ hy)
    · rename_i y n hy _ _; obtain rfl := Option.some.inj h; exact dep_a1 (hS x (by simp [Op.operands]) _ hy)
    · cases h
  case store T x y =>
    unfold cStore at h
    split at h
    · rename_i x' y' n hx hy _; obtain rfl := Option.some.inj h; exact dep_a2 (hS x (by simp [Op.operands]) _ hx) (hS y (by simp [Op.operands]) _ hy)
    · cases h
  case nilCheck x =>
    unfold cNil at h
    split at h
    · rename_i y hy; obtain rfl := Option.some.inj h; exact dep_u1 (hS x (by simp [Op.operands]) _ hy)
    · cases h
  case binOp op T x y _ =>
    unfold cBin at h
    split at h
    · rename_i x' y' f hx hy _; obtain rfl := Option.some.inj h; exact dep_u2 (hS x (by simp [Op.operands]) _ hx) (hS y (by simp [Op.operands]) _ hy)
    · cases h
  case unOp op T x =>
    unfold cUn at h
    split at h
    · rename_i y hy
      split at h <;> (obtain rfl := Option.some.inj h; exact dep_u1 (hS x (by simp [Op.operands]) _ hy))
    · cases h
  case convert s d x =>
    unfold cConv at h
    split at h
    · rename_i y hy; exact dep_conv (hS x (by simp [Op.operands]) _ hy) h
    · cases h
  case makeInterface T x =>
    unfold cIface at h
    split at h
    · rename_i y d hy _
      simp only [cond_eq_ite] at h
      split at h
      · cases h
      · obtain rfl := Option.some.inj h; exact dep_u1 (hS x (by simp [Op.operands]) _ hy)
    · cases h
  case makeFunc f a b =>
    unfold cFunc at h
    split at h
    · rename_i x y hx hy
      obtain rfl := Option.some.inj h
      simp only [CO.Dep, fnF]
      rw [EqOn.evs (hS.sub fun x hx => by simp [Op.operands] at hx ⊢; exact Or.inl hx) hx, EqOn.evs (hS.sub fun x hx => by simp [Op.operands] at hx ⊢; exact Or.inr hx) hy]
    · cases h
  case makeMap T r =>
    unfold cMap at h
    split at h
    · obtain rfl := Option.some.inj h; rfl
    · split at h
      · rename_i x y _ _ hy _; obtain rfl := Option.some.inj h; exact dep_a1 (hS _ (by simp [Op.operands]) _ hy)
      · cases h
  case makeSlice T l c =>
    unfold cMakeS at h
    split at h
    · rename_i e x y _ hx hy
      split at h
      · obtain rfl := Option.some.inj h; exact dep_a2 (hS l (by simp [Op.operands]) _ hx) (hS c (by simp [Op.operands]) _ hy)
      · cases h
    · cases h
  case slice T x lo hi mx =>
    unfold cSlice at h
    split at h
    · rename_i x' lo' hi' mx' hx h1 h2 h3
      exact dep_slice (hS x (by simp [Op.operands]) _ hx) (EqOn.optE (hS.sub fun x hx => by simp [Op.operands] at hx ⊢; simp [hx]) h1) (EqOn.optE (hS.sub fun x hx => by simp [Op.operands] at hx ⊢; simp [hx]) h2) (EqOn.optE (hS.sub fun x hx => by simp [Op.operands] at hx ⊢; simp [hx]) h3) h
    · cases h
  case fieldAddr T x f =>
    unfold cFieldA at h
    split at h
    · rename_i fs y _ hy
      repeat' (first | (cases h; done) | (obtain rfl := Option.some.inj h; exact dep_u1 (hS x (by simp [Op.operands]) _ hy)) | (split at h))
    · cases h
  case field T x f =>
    unfold cField at h
    split at h
    · rename_i fs y _ hy
      repeat' (first | (cases h; done) | (obtain rfl := Option.some.inj h; exact dep_u1 (hS x (by simp [Op.operands]) _ hy)) | (split at h))
    · cases h
  case indexAddr T x i =>
    unfold cIndexA at h
    split at h
    · rename_i e x' y' _ hx hy
      split at h
      · obtain rfl := Option.some.inj h; exact dep_u2 (hS x (by simp [Op.operands]) _ hx) (hS i (by simp [Op.operands]) _ hy)
      · cases h
    · rename_i n e x' y' _ hx hy
      split at h
      · obtain rfl := Option.some.inj h; exact dep_u2 (hS x (by simp [Op.operands]) _ hx) (hS i (by simp [Op.operands]) _ hy)
      · cases h
    · cases h
  case index T x i =>
    unfold cIndex at h
    split at h
    · rename_i x' y' _ hx hy
      obtain rfl := Option.some.inj h; exact dep_u2 (hS x (by simp [Op.operands]) _ hx) (hS i (by simp [Op.operands]) _ hy)
    · rename_i n e x' y' _ hx hy
      split at h
      · obtain rfl := Option.some.inj h; exact dep_u2 (hS x (by simp [Op.operands]) _ hx) (hS i (by simp [Op.operands]) _ hy)
      · cases h
    · cases h
  case lookup T x i ok =>
    unfold cLookup at h
    split at h
    · rename_i K e x' y' _ hx hy
      split at h
      · obtain rfl := Option.some.inj h; exact dep_a2 (hS x (by simp [Op.operands]) _ hx) (hS i (by simp [Op.operands]) _ hy)
      · cases h
    · cases h
  case mapUpdate T m k x =>
    unfold cUpd at h
    split at h
    · rename_i K e m' k' x' _ hm hk hx
      split at h
      · obtain rfl := Option.some.inj h; exact dep_a3 (hS m (by simp [Op.operands]) _ hm) (hS k (by simp [Op.operands]) _ hk) (hS x (by simp [Op.operands]) _ hx)
      · cases h
    · cases h
  case insert T m k x =>
    unfold cUpd at h
    split at h
    · rename_i K e m' k' x' _ hm hk hx
      split at h
      · obtain rfl := Option.some.inj h; exact dep_a3 (hS m (by simp [Op.operands]) _ hm) (hS k (by simp [Op.operands]) _ hk) (hS x (by simp [Op.operands]) _ hx)
      · cases h
    · cases h
  case mapEntry T m k =>
    unfold cEntry at h
    split at h
    · rename_i K e m' k' _ hm hk
      split at h
      · obtain rfl := Option.some.inj h; exact dep_a2 (hS m (by simp [Op.operands]) _ hm) (hS k (by simp [Op.operands]) _ hk)
      · cases h
    · cases h
  case entryStore T m k x =>
    unfold cEStore at h
    split at h
    · rename_i m' k' x' hm hk hx
      obtain rfl := Option.some.inj h; exact dep_a3 (hS m (by simp [Op.operands]) _ hm) (hS k (by simp [Op.operands]) _ hk) (hS x (by simp [Op.operands]) _ hx)
    · cases h
  case typeAssert x T a ok =>
    unfold cAssert at h
    split at h
    · rename_i y d z hy _ _
      simp only [cond_eq_ite] at h
      split at h
      · cases h
      · obtain rfl := Option.some.inj h; exact dep_u1 (hS x (by simp [Op.operands]) _ hy)
    · cases h
  case extract x i =>
    unfold cExt at h
    split at h
    · rename_i y hy; obtain rfl := Option.some.inj h; exact dep_u1 (hS x (by simp [Op.operands]) _ hy)
    · cases h
  case call c =>
    have harg : EqOn P t t' c.args.toList := hS.sub fun x hx => by simp only [Op.operands, Call.operands]; cases c.callee <;> simp_all
    unfold cCall at h
    split at h
    · split at h
      · rename_i vs hv
        exact dep_builtin (harg.each hv) h
      · cases h
    · rename_i f hcal
      split at h
      · rename_i y vs hy hv
        obtain rfl := Option.some.inj h
        exact ⟨hS f (by simp [Op.operands, Call.operands, hcal]) _ hy, harg.evs hv⟩
      · cases h
    · cases h
  case defer c =>
    have harg : EqOn P t t' c.args.toList := hS.sub fun x hx => by simp only [Op.operands, Call.operands]; cases c.callee <;> simp_all
    unfold cDefer at h
    split at h
    · rename_i f hcal
      split at h
      · rename_i y vs hy hv
        obtain rfl := Option.some.inj h
        exact ⟨hS f (by simp [Op.operands, Call.operands, hcal]) _ hy, harg.evs hv⟩
      · cases h
    · cases h
  case sliceToArrayPointer T x =>
    unfold cS2A at h
    split at h
    · rename_i n e y hu hy; obtain rfl := Option.some.inj h; exact dep_u1 (hS x (by simp [Op.operands]) _ hy)
    · cases h
  case panic x =>
    unfold cPanic at h
    split at h
    · rename_i y hy; obtain rfl := Option.some.inj h; exact hS x (by simp [Op.operands]) _ hy
    · cases h
  all_goals cases h

/-- Temporaries that agree where an operation looks. -/
theorem eqOn_of {l : List Operand} (h : ∀ k, Operand.tmp k ∈ l → (getP (path k) t).getD (.tup []) = (getP (path k) t').getD (.tup [])) : EqOn P t t' l := by
  intro x hx y hy
  cases x with
  | tmp k =>
    obtain rfl := Option.some.inj hy
    rw [ev_t, ev_t]
    exact h k hx
  | const v =>
    simp only [cOp] at hy
    split at hy
    · obtain rfl := Option.some.inj hy; rfl
    · cases hy
  | global g =>
    simp only [cOp, cond_eq_ite] at hy
    split at hy
    · obtain rfl := Option.some.inj hy; rfl
    · cases hy
  | func f => obtain rfl := Option.some.inj hy; rfl
end
end Go.Sx

/- Drawn regions: each operation as an item; what is in between. No program. -/
namespace Go.Sx
set_option linter.unusedVariables false
set_option linter.unusedSimpArgs false
open Classical
noncomputable section

/-- From a heap to a heap; I: the names that may be given. -/
structure StpI (I : Nat → Prop) (σ : Env) (h : Hp) (w : World) (σ' : Env) (h' : Hp) (w' : World) : Prop where
  le : σ.le σ'
  dom : ∀ id l, σ' id = some l → σ id = some l ∨ I id
  rep : Rep σ' h' w'
  only : OnlyB w w' (InH σ h)
  foot : ∀ id b l, h' id = some b → σ' id = some l → w.heap.size ≤ l.blk ∨ InA σ h l.blk
  footW : ∀ id b l, roN ≤ id → h' id = some b → σ' id = some l → w.heap.size ≤ l.blk ∨ InH σ h l.blk
  ids : ∀ id b, h' id = some b → (∃ c, h id = some c) ∨ I id

theorem StpI.trans {I : Nat → Prop} {σ0 σ1 σ2 : Env} {h0 h1 h2 : Hp} {w0 w1 w2 : World} (a : StpI I σ0 h0 w0 σ1 h1 w1) (b : StpI I σ1 h1 w1 σ2 h2 w2) : StpI I σ0 h0 w0 σ2 h2 w2 := by
  have inA : ∀ k, InA σ1 h1 k → InA σ0 h0 k ∨ w0.heap.size ≤ k := by
    rintro k ⟨id, c, l, e1, e2, rfl⟩
    rcases a.foot id c l e1 e2 with h | h
    · exact Or.inr h
    · exact Or.inl h
  have inH : ∀ k, InH σ1 h1 k → InH σ0 h0 k ∨ w0.heap.size ≤ k := by
    rintro k ⟨id, c, l, hro, e1, e2, rfl⟩
    rcases a.footW id c l hro e1 e2 with h | h
    · exact Or.inr h
    · exact Or.inl h
  refine ⟨a.le.trans b.le, fun id l e => ?_, b.rep, a.only.trans b.only inH, fun id c l e hl => ?_, fun id c l hro e hl => ?_, fun id c e => ?_⟩
  · rcases b.dom id l e with h | h
    · exact a.dom id l h
    · exact Or.inr h
  · rcases b.foot id c l e hl with h | h
    · exact Or.inl (Nat.le_trans a.only.size h)
    · rcases inA _ h with h | h
      · exact Or.inr h
      · exact Or.inl h
  · rcases b.footW id c l hro e hl with h | h
    · exact Or.inl (Nat.le_trans a.only.size h)
    · rcases inH _ h with h | h
      · exact Or.inr h
      · exact Or.inl h
  · rcases b.ids id c e with ⟨d, hd⟩ | h
    · exact a.ids id d hd
    · exact Or.inr h

theorem Stp.toI {I : Nat → Prop} {σ : Env} {h : Hp} {n : Nat} {w : World} {σ' : Env} {h' : Hp} {n' : Nat} {w' : World} (s : Stp σ h n w σ' h' n' w') (hI : ∀ id, n ≤ id → id < n' → I id) : StpI I σ h w σ' h' w' :=
  ⟨s.le, fun id l e => (s.dom id l e).imp (fun h => h) fun h => hI id h.1 h.2, s.rep, s.only, s.foot, s.footW, fun id b e => (s.ids id b e).imp (fun h => h) fun h => hI id h.1 h.2⟩

theorem StpI.toStp {σ : Env} {h : Hp} {n : Nat} {w : World} {σ' : Env} {h' : Hp} {n' : Nat} {w' : World} (s : StpI (fun id => n ≤ id ∧ id < n') σ h w σ' h' w') (hn : n ≤ n') : Stp σ h n w σ' h' n' w' :=
  ⟨hn, s.le, s.dom, s.rep, s.only, s.foot, s.footW, s.ids⟩

def tmOf (t : Tr AV) : Nat → AV := fun k => (getP (path k) t).getD (.tup [])

theorem TmpOK.of_tm {σ : Env} {t t' : Tr AV} {N : Nat} {a : Act} (h : TmpOK σ t N a) (k : ∀ x, tmOf t x = tmOf t' x) : TmpOK σ t' N a :=
  ⟨fun x => by have := h.val x; have e := k x; simp only [tmOf] at e; rw [← e]; exact this, h.size⟩

theorem tmOf_put {N : Nat} {d : Option Nat} {p : Option (List Q)} (hd : dstP N d = some p) (v : AV) (t : Tr AV) (k : Nat) : tmOf (putD p v t) k = if d = some k then v else tmOf t k := by
  rcases dstP_spec hd with ⟨rfl, rfl⟩ | ⟨j, rfl, rfl, hk⟩
  · rfl
  · show (getP (path k) (putP (some v) (path j) t)).getD (.tup []) = _
    rw [get_put]
    by_cases h : k = j
    · subst h; simp
    · simp [h, Ne.symm h, tmOf]

/-- What holds in between. -/
def Mid (I : Nat → Prop) (σ0 : Env) (h0 : Hp) (w0 : World) (N : Nat) (ds : List Deferred) (s : SS) (a : Act) (w : World) : Prop :=
  ∃ σ t, (∀ k, tmOf t k = s.1 k) ∧ StpI I σ0 h0 w0 σ s.2.1 w ∧ TmpOK σ t N a ∧ a.defers = ds ∧ ∀ id l, σ id = some l → σ0 id = some l ∨ s.2.2 id = true

/-- The temporaries' side of an operation. -/
def gtOf (ops : Array Oper) (o : Oper) (t : Tr AV) (v : AV) : GU Nat AV :=
  ⟨fun k => if k ∈ o.looksAt ops then some (tmOf t k) else none, fun k => if o.dst = some k then some v else none⟩

/-- An operation's effect, as an update. -/
def wE (n : Nat) (e : Eff) : Nat → Option (Option Blk) :=
  match e with
  | .v _ => fun _ => none
  | .w _ id b => fun i => if i = id then some (some b) else none
  | .n _ b => fun i => if i = n then some (some b) else none
  | .k _ id b => fun i => if i = n then some (some b) else if i = id then some none else none

theorem wE_app (n : Nat) (e : Eff) (g : Hp) (i : Nat) : (wE n e i).getD (g i) = appE n e g i := by
  cases e <;> simp only [wE, appE]
  · rfl
  · split <;> rfl
  · split <;> rfl
  · split
    · rfl
    · split <;> rfl

theorem wE_ids (n : Nat) (e : Eff) (i : Nat) (h : wE n e i ≠ none) : i ∈ e.ids n := by
  cases e <;> simp only [wE, Eff.ids] at h ⊢
  · exact absurd rfl h
  · split at h
    · simp [*]
    · exact absurd rfl h
  · split at h
    · simp [*]
    · exact absurd rfl h
  · split at h
    · simp [*]
    · split at h
      · simp [*]
      · exact absurd rfl h

def gh0 : GU Nat (Option Blk) := ⟨fun _ => none, fun _ => none⟩

def ghA (a1 : Act1) (n : Nat) (e : Eff) (g : Hp) : GU Nat (Option Blk) := ⟨fun id => if id ∈ a1.reqs then some (g id) else none, wE n e⟩

def ghC (h : Hp) (hid : List Nat) (h1 : Hp) : GU Nat (Option Blk) :=
  ⟨fun id => match h id with
    | some b => some (some b)
    | none => none, fun id => if id ∈ hid then none else if h id = h1 id then none else some (h1 id)⟩

theorem memN_iff (x : Nat) : ∀ (l : List Nat), memN x l = true ↔ x ∈ l
  | [] => by simp [memN]
  | y :: l => by
    simp only [memN, Bool.or_eq_true, memN_iff x l, List.mem_cons]
    constructor
    · rintro (h | h)
      · exact Or.inl (nbeq h)
      · exact Or.inr h
    · rintro (h | h)
      · subst h; exact Or.inl (Nat.beq_refl x)
      · exact Or.inr h

theorem hideT_get (h : Tr Blk) : ∀ (l : List Nat) (id : Nat), getP (path id) (hideT h l) = if id ∈ l then none else getP (path id) h
  | [], id => by simp [hideT]
  | x :: l, id => by
    have key : ∀ (h : Tr Blk) (l : List Nat) (id : Nat), getP (path id) (hideT h l) = if id ∈ l then none else getP (path id) h := fun h l id => hideT_get' h l id
    simp only [hideT]
    rw [key, get_put]
    by_cases h1 : id = x
    · subst h1; simp
    · simp [h1]
where hideT_get' (h : Tr Blk) : ∀ (l : List Nat) (id : Nat), getP (path id) (hideT h l) = if id ∈ l then none else getP (path id) h
  | l, id => by
    induction l generalizing h with
    | nil => simp [hideT]
    | cons x l ih =>
      simp only [hideT]
      rw [ih, get_put]
      by_cases h1 : id = x
      · subst h1; simp
      · simp [h1]

theorem hide_get (st : St) (l : List Nat) (id : Nat) : (st.hide l).get id = if id ∈ l then none else st.get id := by
  obtain ⟨h, n⟩ := st
  cases l with
  | nil => simp [St.hide]
  | cons x l => exact hideT_get h (x :: l) id

theorem backT_get (h0 : Tr Blk) (l : List Nat) : ∀ (h : Tr Blk) (id : Nat), getP (path id) (backT h0 h l) = if id ∈ l then getP (path id) h0 else getP (path id) h := by
  induction l with
  | nil => intro h id; simp [backT]
  | cons x l ih =>
    intro h id
    simp only [backT]
    rw [ih, get_put]
    by_cases h1 : id = x
    · subst h1; simp
    · simp [h1]

theorem back_get (st : St) (h0 : Tr Blk) (l : List Nat) (id : Nat) : (st.back h0 l).get id = if id ∈ l then getP (path id) h0 else st.get id := by
  obtain ⟨h, n⟩ := st
  cases l with
  | nil => simp [St.back]
  | cons x l => exact backT_get h0 (x :: l) h id

section
variable {ro : Option Nat} {P : Program} {okT : Nat → Bool} {σ0 : Env} {h0 : Hp} {w0 : World} {I : Nat → Prop} {ds : List Deferred} {N : Nat} {ops : Array Oper} {Qe : Exit → Act → World → Prop} {i um : Nat} {o : Oper} {dst : Option (List Q)} {gd : Option (List Q × Bool)} {ti : Tr AV} {v : AV}

/-- It does what is said of it, whatever came ahead. -/
def Sound (ro : Option Nat) (P : Program) (ops : Array Oper) (Qe : Exit → Act → World → Prop) (I : Nat → Prop) (σ0 : Env) (h0 : Hp) (w0 : World) (N : Nat) (ds : List Deferred) (x : Item) : Prop :=
  ∀ s a w, Mid I σ0 h0 w0 N ds s a w → x.en s → ∀ K : Act → World → Prop, (∀ a' w', Mid I σ0 h0 w0 N ds (x.up s) a' w' → K a' w') → wpOpIn (RF ro) 0 P ops Qe x.i K a w

theorem looks_op {k : Nat} (h : Operand.tmp k ∈ o.op.operands.toList) : k ∈ o.looksAt ops :=
  List.mem_append_left _ (List.mem_filterMap.2 ⟨.tmp k, h, rfl⟩)

theorem gt_eqOn {t : Tr AV} {s : Nat → AV} (ht : ∀ k, tmOf t k = s k) (he : (gtOf ops o ti v).en s) : EqOn P t ti o.op.operands.toList :=
  eqOn_of fun k hk => by
    have := he k (tmOf ti k) (by simp only [gtOf]; rw [if_pos (looks_op hk)])
    rw [← ht k] at this
    exact this

theorem isB_getD (w : Bool) (x : Option AV) : isB w x = isB w (some (x.getD (.tup []))) := by
  cases x <;> rfl

theorem gt_wanted {t : Tr AV} {s : Nat → AV} (ht : ∀ k, tmOf t k = s k) (he : (gtOf ops o ti v).en s) (hg : guardP ops o.guard = some gd) : wantedA gd t = wantedA gd ti := by
  unfold guardP at hg
  split at hg
  · obtain rfl := Option.some.inj hg; rfl
  · rename_i j w hn
    split at hg
    · rename_i oj hoj
      split at hg
      · rename_i x hx
        obtain rfl := Option.some.inj hg
        show isB w (getP (path x) t) = isB w (getP (path x) ti)
        rw [isB_getD, isB_getD w (getP (path x) ti)]
        have hk : x ∈ o.looksAt ops := by
          refine List.mem_append_right _ ?_
          rw [hn]
          simp [hoj, hx]
        have := he x (tmOf ti x) (by simp only [gtOf]; rw [if_pos hk])
        rw [← ht x] at this
        simp only [tmOf] at this
        rw [this]
      · cases hg
    · cases hg

theorem gt_up {t' t : Tr AV} {s : Nat → AV} (ht : ∀ k, tmOf t k = s k) (hd : dstP N o.dst = some dst) (u : AV) : ∀ k, tmOf (putD dst u t) k = (gtOf ops o ti u).up s k := by
  intro k
  rw [tmOf_put hd]
  simp only [GU.up, gtOf]
  split
  · rfl
  · exact ht k

theorem gu_nop {s : Nat → Bool} {lo : Nat} {x : Item} (hx : x.lo = lo) (hx' : x.hi = lo) : x.gu.up s = s := by
  funext id
  simp only [GU.up, Item.gu, hx, hx']
  rw [if_neg (by omega)]
  rfl

/-- An operation that is passed over, or is pure. -/
theorem sound_pur (hk : OkT P okT) (hg0 : GlobOK P σ0) (hi : ops[i]? = some o) (hd : dstP N o.dst = some dst) (hgd : guardP ops o.guard = some gd) {co : CO} (hco : opC P okT o.op = some co) {n : Nat}
    (h : (wantedA gd ti = false ∧ v = .tup []) ∨ (wantedA gd ti = true ∧ ∃ f, co = .pur f ∧ f ti = some v)) : Sound ro P ops Qe I σ0 h0 w0 N ds ⟨.mk i dst gd um co, n, n, gtOf ops o ti v, gh0⟩ := by
  rintro s a w ⟨σ, t, m1, m2, m3, m4, m5⟩ ⟨e1, e2, e3⟩ K hK
  have hwd := wanted_eq m3 hgd
  rw [gt_wanted m1 e1 hgd] at hwd
  have fin : ∀ a', TmpOK σ (putD dst v t) N a' → a'.defers = a.defers → K a' w := fun a' ht' hd' => by
    refine hK a' w ⟨σ, putD dst v t, gt_up (t' := t) m1 hd v, m2, ht', hd'.trans m4, ?_⟩
    intro id l hl
    show _ ∨ (Item.gu _).up s.2.2 id = true
    rw [gu_nop (lo := n) rfl rfl]
    exact m5 id l hl
  show wpOpIn (RF ro) 0 P ops Qe i K a w
  rcases h with ⟨hw, rfl⟩ | ⟨hw, f, rfl, hv⟩
  · rw [hw] at hwd
    exact op_skip m3 hi hwd.symm hd fin
  · rw [hw] at hwd
    have hdep : f t = f ti := opC_dep (gt_eqOn m1 e1) hco
    exact op_pur hk (hg0.mono m2.le) m3 hi hwd.symm hco (by rw [hdep]; exact hv) hd fin

theorem sound_act (hk : OkT P okT) (hg0 : GlobOK P σ0) (hi : ops[i]? = some o) (hd : dstP N o.dst = some dst) (hgd : guardP ops o.guard = some gd) {f} (hco : opC P okT o.op = some (.act f)) (hw : wantedA gd ti = true)
    {a1 : Act1} (hv : f ti = some a1) {g : Hp} {n : Nat} {e : Eff} (he : a1.run g n = some e) (hW : e.okW = true) (hI : ∀ id, n ≤ id → id < e.top n → I id ∧ σ0 id = none) :
    Sound ro P ops Qe I σ0 h0 w0 N ds ⟨.mk i dst gd um (.act f), n, e.top n, gtOf ops o ti e.val, ghA a1 n e g⟩ := by
  rintro s a w ⟨σ, t, m1, m2, m3, m4, m5⟩ ⟨e1, e2, e3⟩ K hK
  have hwd := wanted_eq m3 hgd
  rw [gt_wanted m1 e1 hgd, hw] at hwd
  have hdep : f t = f ti := opC_dep (gt_eqOn m1 e1) hco
  have hrun : a1.run s.2.1 n = some e := by
    rw [run_congr (g' := g) a1 fun id hid => e2 id (g id) (by simp only [ghA]; rw [if_pos hid])]
    exact he
  have hfree : ∀ id, n ≤ id → id < e.top n → σ id = none := by
    intro id h1 h2
    cases hq : σ id with
    | none => rfl
    | some l =>
      exfalso
      rcases m5 id l hq with h | h
      · rw [(hI id h1 h2).2] at h; cases h
      · have := e3 id false (by simp only [Item.gu]; rw [if_pos ⟨h1, h2⟩])
        rw [this] at h; cases h
  show wpOpIn (RF ro) 0 P ops Qe i K a w
  refine op_act hk (hg0.mono m2.le) m3 hi hwd.symm hco (by rw [hdep]; exact hv) m2.rep hrun (fun h => hfree n (Nat.le_refl _) h) hW hd fun σ' a' w' hs ht' hd' => ?_
  have hup : (ghA a1 n e g).up s.2.1 = appE n e s.2.1 := funext fun id => wE_app n e s.2.1 id
  refine hK a' w' ⟨σ', putD dst e.val t, gt_up (t' := t) m1 hd e.val, ?_, ht', hd'.trans m4, ?_⟩
  · show StpI I σ0 h0 w0 σ' ((ghA a1 n e g).up s.2.1) w'
    rw [hup]
    exact m2.trans (hs.toI fun id h1 h2 => (hI id h1 h2).1)
  · intro id l hl
    show _ ∨ (Item.gu _).up s.2.2 id = true
    rcases hs.dom id l hl with h | ⟨h1, h2⟩
    · rcases m5 id l h with h | h
      · exact Or.inl h
      · refine Or.inr ?_
        simp only [GU.up, Item.gu]
        split
        · rfl
        · exact h
    · refine Or.inr ?_
      simp only [GU.up, Item.gu]
      rw [if_pos ⟨h1, h2⟩]
      rfl

theorem sound_cal (hc : CallsOK P) {call : Nat → List AV → St → Ro} (hgood : CallGood P call) (hg0 : GlobOK P σ0) (hi : ops[i]? = some o) (hd : dstP N o.dst = some dst) (hgd : guardP ops o.guard = some gd) {fo : OP} {vs : List OP}
    (hco : opC P okT o.op = some (.cal fo vs)) (hw : wantedA gd ti = true) {g : Nat} {first cap : List AV} (hf : ev fo ti = .fn (.func g) first cap) {st st1 : St} {hid : List Nat}
    (hcall : call g (first ++ evs vs ti ++ cap) (st.hide hid) = .ret v st1) (hI : ∀ id, st.n ≤ id → id < st1.n → I id ∧ σ0 id = none) :
    Sound ro P ops Qe I σ0 h0 w0 N ds ⟨.mk i dst gd um (.cal fo vs), st.n, st1.n, gtOf ops o ti v, ghC (st.hide hid).get hid st1.get⟩ := by
  rintro s a w ⟨σ, t, m1, m2, m3, m4, m5⟩ ⟨e1, e2, e3⟩ K hK
  have hwd := wanted_eq m3 hgd
  rw [gt_wanted m1 e1 hgd, hw] at hwd
  obtain ⟨hdep1, hdep2⟩ : ev fo t = ev fo ti ∧ evs vs t = evs vs ti := opC_dep (gt_eqOn m1 e1) hco
  have hsub : ∀ id b, (st.hide hid).get id = some b → s.2.1 id = some b := fun id b hb => e2 id (some b) (by simp only [ghC, hb])
  have hfree : ∀ id, st.n ≤ id → id < st1.n → σ id = none := by
    intro id h1 h2
    cases hq : σ id with
    | none => rfl
    | some l =>
      exfalso
      rcases m5 id l hq with h | h
      · rw [(hI id h1 h2).2] at h; cases h
      · have := e3 id false (by simp only [Item.gu]; rw [if_pos ⟨h1, h2⟩])
        rw [this] at h; cases h
  have hnn : (st.hide hid).n = st.n := hide_n _ _
  show wpOpIn (RF ro) 0 P ops Qe i K a w
  have hres : call g (first ++ evs vs t ++ cap) (st.hide hid) = .ret v st1 := by rw [hdep2]; exact hcall
  refine op_cal hc hgood (hg0.mono m2.le) m3 hi hwd.symm hco (by rw [hdep1]; exact hf) (m2.rep.sub hsub) hd (by rw [hres]; simp) (fun v' st' hres' => ?_) (fun v' st' hres' => by rw [hres] at hres'; cases hres')
  rw [hres] at hres'
  obtain ⟨rfl, rfl⟩ : v = v' ∧ st1 = st' := by injection hres' with a b; exact ⟨a, b⟩
  rw [hnn]
  refine ⟨hfree, fun σ' a' w' hs ht' hd' => ?_⟩
  have hs2 := hs.frame (g' := (ghC (st.hide hid).get hid st1.get).up s.2.1) m2.rep hsub (fun id h1 h2 => by
    cases hq : s.2.1 id with
    | none => rfl
    | some b =>
      exfalso
      obtain ⟨l, _, h, _⟩ := m2.rep.ok id b hq
      rw [hfree id h1 h2] at h; cases h) (by
    intro id b hb
    simp only [GU.up, ghC] at hb
    by_cases h1 : id ∈ hid
    · rw [if_pos h1] at hb
      refine Or.inr ⟨?_, hb⟩
      rw [hide_get, if_pos h1]
    · rw [if_neg h1] at hb
      by_cases h2 : (st.hide hid).get id = st1.get id
      · rw [if_pos h2] at hb
        cases hq : (st.hide hid).get id with
        | none => exact Or.inr ⟨rfl, hb⟩
        | some c =>
          have := hsub id c hq
          have hb' : s.2.1 id = some b := hb
          rw [this] at hb'
          rw [hq] at h2
          exact Or.inl (h2.symm.trans hb')
      · rw [if_neg h2] at hb
        exact Or.inl hb)
  refine hK a' w' ⟨σ', putD dst v t, gt_up (t' := t) m1 hd v, ?_, ht', hd'.trans m4, ?_⟩
  · exact m2.trans (hs2.toI fun id h1 h2 => (hI id h1 h2).1)
  · intro id l hl
    show _ ∨ (Item.gu _).up s.2.2 id = true
    rcases hs.dom id l hl with h | ⟨h1, h2⟩
    · rcases m5 id l h with h | h
      · exact Or.inl h
      · refine Or.inr ?_
        simp only [GU.up, Item.gu]
        split
        · rfl
        · exact h
    · refine Or.inr ?_
      simp only [GU.up, Item.gu]
      rw [if_pos ⟨h1, h2⟩]
      rfl
end
end
end Go.Sx

/- Plans. No program. -/
namespace Go.Sx
set_option linter.unusedVariables false
set_option linter.unusedSimpArgs false

theorem bit_lor (a b i : Nat) : Nat.testBit (Nat.lor a b) i = (Nat.testBit a i || Nat.testBit b i) := Nat.testBit_or a b i
theorem bit_land (a b i : Nat) : Nat.testBit (Nat.land a b) i = (Nat.testBit a i && Nat.testBit b i) := Nat.testBit_and a b i
theorem bit_pow (n i : Nat) : Nat.testBit (Nat.pow 2 n) i = decide (n = i) := Nat.testBit_two_pow

noncomputable def stepB (acc : List Nat) (s : Nat) (e : Edge) : Nat := match Region.binds .any e with
  | true => Nat.lor (Nat.lor s (Nat.pow 2 e.on)) ((nthL acc e.on).getD 0)
  | false => s

theorem fold_bits (acc : List Nat) : ∀ (es : List Edge) (s i : Nat), Nat.testBit (es.foldl (stepB acc) s) i = true ↔ Nat.testBit s i = true ∨ ∃ e ∈ es, Region.binds .any e = true ∧ (e.on = i ∨ Nat.testBit ((nthL acc e.on).getD 0) i = true)
  | [], s, i => by simp
  | e :: es, s, i => by
    rw [List.foldl_cons, fold_bits acc es]
    have : Nat.testBit (stepB acc s e) i = true ↔ Nat.testBit s i = true ∨ (Region.binds .any e = true ∧ (e.on = i ∨ Nat.testBit ((nthL acc e.on).getD 0) i = true)) := by
      unfold stepB
      cases hb : Region.binds .any e with
      | false => simp
      | true =>
        simp only [bit_lor, bit_pow, Bool.or_eq_true, decide_eq_true_eq, true_and]
        constructor
        · rintro ((h | h) | h)
          · exact Or.inl h
          · exact Or.inr (Or.inl h)
          · exact Or.inr (Or.inr h)
        · rintro (h | h | h)
          · exact Or.inl (Or.inl h)
          · exact Or.inl (Or.inr h)
          · exact Or.inr h
    rw [this]
    simp only [List.mem_cons, exists_eq_or_imp]
    constructor
    · rintro ((h | h) | h)
      · exact Or.inl h
      · exact Or.inr (Or.inl h)
      · exact Or.inr (Or.inr h)
    · rintro (h | h | h)
      · exact Or.inl (Or.inl h)
      · exact Or.inl (Or.inr h)
      · exact Or.inr h

/-- Bits that tell what comes ahead. -/
def BitsOK (ops : Array Oper) (acc : List Nat) : Prop :=
  ∀ k b, acc[k]? = some b → ∃ o, ops[k]? = some o ∧ (∀ e ∈ o.after, Region.binds .any e = true → Nat.testBit b e.on = true) ∧ ∀ i, Nat.testBit b i = true → Bef ops i k

theorem before_ok {ops : Array Oper} : ∀ (rest pre : List Oper) (acc : List Nat), ops.toList = pre ++ rest → acc.length = pre.length → BitsOK ops acc → BitsOK ops (beforeGo rest acc)
  | [], pre, acc, _, _, h => h
  | o :: rest, pre, acc, ho, hl, h => by
    unfold beforeGo
    refine before_ok rest (pre ++ [o]) _ (by rw [ho]; simp) (by simp [hl]) ?_
    intro k b hk
    rcases Nat.lt_or_ge k acc.length with hlt | hge
    · rw [List.getElem?_append_left hlt] at hk
      exact h k b hk
    · rw [List.getElem?_append_right hge] at hk
      have hk0 : k - acc.length = 0 := by
        rcases Nat.eq_zero_or_pos (k - acc.length) with h0 | h0
        · exact h0
        · rw [List.getElem?_eq_none (by simp; omega)] at hk; cases hk
      have hkl : k = pre.length := by omega
      rw [hk0] at hk
      simp only [List.getElem?_cons_zero, Option.some.injEq] at hk
      have hop : ops[k]? = some o := by
        rw [← Array.getElem?_toList, ho, hkl]
        simp
      have hbits : ∀ i, Nat.testBit b i = true ↔ ∃ e ∈ o.after.toList, Region.binds .any e = true ∧ (e.on = i ∨ Nat.testBit ((nthL acc e.on).getD 0) i = true) := by
        intro i
        rw [← hk]
        have := fold_bits acc o.after.toList 0 i
        simp only [Nat.zero_testBit, Bool.false_eq_true, false_or] at this
        exact this
      refine ⟨o, hop, fun e he hb => (hbits _).2 ⟨e, by simpa using he, hb, Or.inl rfl⟩, fun i hi => ?_⟩
      obtain ⟨e, he, hb, h1 | h1⟩ := (hbits i).1 hi
      · exact .one hop (by simpa using he) hb h1
      · have he' : e ∈ o.after := by simpa using he
        rw [nthL_eq] at h1
        cases hq : acc[e.on]? with
        | none => rw [hq] at h1; simp at h1
        | some b' =>
          rw [hq] at h1
          obtain ⟨_, _, _, h4⟩ := h e.on b' hq
          exact .more hop he' hb rfl (h4 i h1)

section
variable {ro : Option Nat} {P : Program} {okT : Nat → Bool} {N : Nat} {ops : Array Oper}

theorem oes_ok : ∀ {l : List Oper} {i : Nat} {bs : List Nat} {all : List OE}, oes P okT i l bs = some all → ∀ k o b co, OE.mk k o b co ∈ all → ∃ j, k = i + j ∧ l[j]? = some o ∧ bs[j]? = some b ∧ opC P okT o.op = some co
  | [], i, bs, all, h, k, o, b, co, hm => by
    simp only [oes] at h
    obtain rfl := Option.some.inj h
    cases hm
  | o :: l, i, [], all, h, _, _, _, _, hm => by cases h
  | o :: l, i, b :: bs, all, h, k, o', b', co', hm => by
    simp only [oes] at h
    split at h
    · rename_i co r hco hr
      obtain rfl := Option.some.inj h
      rcases List.mem_cons.1 hm with hm | hm
      · injection hm with h1 h2 h3 h4
        subst h1; subst h2; subst h3; subst h4
        exact ⟨0, rfl, rfl, rfl, hco⟩
      · obtain ⟨j, h1, h2, h3, h4⟩ := oes_ok hr k o' b' co' hm
        exact ⟨j + 1, by omega, h2, h3, h4⟩
    · cases h

theorem pick_ok {q : Bool} {listed : Nat} : ∀ {l : List OE} {i o b co}, pickOp q listed l = some (.mk i o b co) → OE.mk i o b co ∈ l ∧ Nat.testBit listed i = false ∧ Nat.land b listed = b
  | [], _, _, _, _, h => by cases h
  | .mk i' o' b' co' :: l, i, o, b, co, h => by
    simp only [pickOp, cond_eq_ite] at h
    split at h
    · rename_i hc
      injection Option.some.inj h with h1 h2 h3 h4
      subst h1; subst h2; subst h3; subst h4
      obtain ⟨hc, _⟩ := and3 hc
      obtain ⟨h1, h2⟩ := and3 hc
      refine ⟨List.mem_cons_self .., ?_, nbeq h2⟩
      cases hb : Nat.testBit listed i' with
      | false => rfl
      | true => rw [hb] at h1; cases h1
    · obtain ⟨h1, h2⟩ := pick_ok h
      exact ⟨List.mem_cons_of_mem _ h1, h2⟩

theorem pickAny_ok {listed : Nat} {l : List OE} {i o b co} (h : pickAny listed l = some (.mk i o b co)) : OE.mk i o b co ∈ l ∧ Nat.testBit listed i = false ∧ Nat.land b listed = b := by
  unfold pickAny at h
  split at h
  · rename_i x hx
    obtain rfl := Option.some.inj h
    exact pick_ok hx
  · exact pick_ok h

theorem unord_ok {oj : Oper} {bj : Nat} {pj : Bool} : ∀ {l : List OE} {um : Nat}, unord ops oj bj pj l = some um → ∀ i o b co, OE.mk i o b co ∈ l → Nat.testBit bj i = true ∨ (o.apart ops oj = true ∧ (isPur co = true ∨ pj = true ∨ Nat.testBit um i = true))
  | [], um, h, _, _, _, _, hm => by cases hm
  | .mk i o b co :: l, um, h, i', o', b', co', hm => by
    simp only [unord] at h
    split at h
    · cases h
    · rename_i m hrest
      have ih := unord_ok hrest i' o' b' co'
      split at h
      · rename_i hbit
        obtain rfl := Option.some.inj h
        rcases List.mem_cons.1 hm with hm | hm
        · injection hm with h1 h2 h3 h4
          subst h1
          exact Or.inl hbit
        · exact ih hm
      · rename_i hbit
        simp only [cond_eq_ite] at h
        split at h
        · rename_i hap
          have h := Option.some.inj h
          have up : ∀ j, Nat.testBit m j = true → Nat.testBit um j = true := by
            intro j hj
            rw [← h]
            split
            · exact hj
            · rw [bit_lor, hj]; rfl
          rcases List.mem_cons.1 hm with hm | hm
          · injection hm with h1 h2 h3 h4
            subst h1; subst h2; subst h3; subst h4
            refine Or.inr ⟨hap, ?_⟩
            by_cases hp : (isPur co' || pj) = true
            · rcases Bool.or_eq_true_iff.1 hp with h1 | h1
              · exact Or.inl h1
              · exact Or.inr (Or.inl h1)
            · rw [if_neg hp] at h
              refine Or.inr (Or.inr ?_)
              rw [← h, bit_lor, bit_pow]
              simp
          · rcases ih hm with h1 | ⟨h1, h2 | h2 | h2⟩
            · exact Or.inl h1
            · exact Or.inr ⟨h1, Or.inl h2⟩
            · exact Or.inr ⟨h1, Or.inr (Or.inl h2)⟩
            · exact Or.inr ⟨h1, Or.inr (Or.inr (up _ h2))⟩
        · cases h

theorem toPE_ok {um : Nat} {i o b co pe} (h : toPE ops N um (.mk i o b co) = some pe) : ∃ d g, pe = .mk i d g um co ∧ dstP N o.dst = some d ∧ guardP ops o.guard = some g := by
  simp only [toPE] at h
  split at h
  · rename_i d g hd hg
    exact ⟨d, g, (Option.some.inj h).symm, hd, hg⟩
  · cases h

/-- Of two operations, the first of which comes first in the plan. -/
def RP (ops : Array Oper) (x y : PE) : Prop :=
  Bef ops x.i y.i ∨ ∃ o1 o2, ops[x.i]? = some o1 ∧ ops[y.i]? = some o2 ∧ o1.apart ops o2 = true ∧ (isPur x.co = true ∨ isPur y.co = true ∨ Nat.testBit y.um x.i = true)

def OE.pe (e : OE) : PE := match e with
  | .mk i o b co => .mk i none none 0 co

structure PlanOK (P : Program) (okT : Nat → Bool) (N : Nat) (ops : Array Oper) (S : Nat → Prop) (l : List PE) : Prop where
  ok : ∀ pe ∈ l, PEok P okT N ops pe
  new : ∀ pe ∈ l, ¬ S pe.i
  nd : (l.map PE.i).Nodup
  topo : Topo ops S (l.map PE.i)
  pw : l.Pairwise (RP ops)
  all : ∀ j, j < ops.size → S j ∨ j ∈ l.map PE.i

theorem planGo_ok {all : List OE} (hall : ∀ i o b co, OE.mk i o b co ∈ all → ops[i]? = some o ∧ opC P okT o.op = some co ∧ (∀ e ∈ o.after, Region.binds .any e = true → Nat.testBit b e.on = true) ∧ ∀ j, Nat.testBit b j = true → Bef ops j i) :
    ∀ (n listed : Nat) (done : List OE) (l : List PE), planGo ops N all n listed done = some l → (∀ e ∈ done, e ∈ all) →
      PlanOK P okT N ops (fun i => Nat.testBit listed i = true) l ∧ (∀ e ∈ done, ∀ pe ∈ l, RP ops e.pe pe)
  | 0, listed, done, l, h, hd => by
    simp only [planGo, cond_eq_ite] at h
    split at h
    · rename_i hb
      obtain rfl := Option.some.inj h
      refine ⟨⟨by simp, by simp, by simp, trivial, List.Pairwise.nil, fun j hj => Or.inl ?_⟩, by simp⟩
      have := nbeq hb
      rw [this]
      show Nat.testBit (2 ^ ops.toList.length - 1) j = true
      rw [Nat.testBit_two_pow_sub_one]
      simpa using hj
    · cases h
  | n + 1, listed, done, l, h, hd => by
    simp only [planGo] at h
    split at h
    · cases h
    · rename_i i o b co hp
      split at h
      · cases h
      · rename_i um hu
        split at h
        · rename_i pe l' hpe hl
          obtain rfl := Option.some.inj h
          obtain ⟨h1, h2, h3⟩ := pickAny_ok hp
          obtain ⟨a1, a2, a3, a4⟩ := hall i o b co h1
          obtain ⟨d, g, rfl, hdst, hgd⟩ := toPE_ok hpe
          obtain ⟨ih, ih2⟩ := planGo_ok hall n (Nat.lor listed (Nat.pow 2 i)) (.mk i o b co :: done) l' hl (fun e he => by
            rcases List.mem_cons.1 he with rfl | he
            · exact h1
            · exact hd e he)
          have sub : ∀ j, Nat.testBit b j = true → Nat.testBit listed j = true := by
            intro j hj
            rw [← h3, bit_land] at hj
            exact (and3 hj).2
          have lst : ∀ j, Nat.testBit (Nat.lor listed (Nat.pow 2 i)) j = true ↔ Nat.testBit listed j = true ∨ j = i := by
            intro j
            rw [bit_lor, bit_pow, Bool.or_eq_true, decide_eq_true_eq]
            exact ⟨fun h => h.imp id Eq.symm, fun h => h.imp id Eq.symm⟩
          have mine : ∀ e ∈ done, RP ops e.pe (.mk i d g um co) := by
            rintro ⟨i', o', b', co'⟩ he
            rcases unord_ok hu i' o' b' co' he with h5 | ⟨h5, h6⟩
            · exact Or.inl (a4 _ h5)
            · exact Or.inr ⟨o', o, (hall i' o' b' co' (hd _ he)).1, a1, h5, h6⟩
          refine ⟨⟨fun pe hpe => ?_, fun pe hpe => ?_, ?_, ?_, ?_, fun j hj => ?_⟩, fun e he pe hpe => ?_⟩
          · rcases List.mem_cons.1 hpe with rfl | hpe
            · exact ⟨o, a1, a2, hdst, hgd⟩
            · exact ih.ok pe hpe
          · rcases List.mem_cons.1 hpe with rfl | hpe
            · show ¬ Nat.testBit listed i = true
              rw [h2]; simp
            · exact fun h => ih.new pe hpe ((lst _).2 (Or.inl h))
          · rw [List.map_cons, List.nodup_cons]
            refine ⟨fun hm => ?_, ih.nd⟩
            obtain ⟨pe, hpe, hi⟩ := List.mem_map.1 hm
            exact ih.new pe hpe ((lst _).2 (Or.inr hi))
          · exact ⟨⟨o, a1, fun e he hb => sub _ (a3 e he hb)⟩, ih.topo.mono fun j hj => (lst j).1 hj⟩
          · exact List.pairwise_cons.2 ⟨fun pe hpe => ih2 (.mk i o b co) (List.mem_cons_self ..) pe hpe, ih.pw⟩
          · rcases ih.all j hj with h | h
            · rcases (lst j).1 h with h | rfl
              · exact Or.inl h
              · exact Or.inr (List.mem_cons_self ..)
            · exact Or.inr (List.mem_cons_of_mem _ h)
          · rcases List.mem_cons.1 hpe with rfl | hpe
            · exact mine e he
            · exact ih2 e (List.mem_cons_of_mem _ he) pe hpe
        · cases h

theorem planGo_len {all : List OE} : ∀ (n listed : Nat) (done : List OE) (l : List PE), planGo ops N all n listed done = some l → l.length = n
  | 0, listed, done, l, h => by
    simp only [planGo, cond_eq_ite] at h
    split at h
    · obtain rfl := Option.some.inj h; rfl
    · cases h
  | n + 1, listed, done, l, h => by
    simp only [planGo] at h
    split at h
    · cases h
    · split at h
      · cases h
      · split at h
        · rename_i hl
          obtain rfl := Option.some.inj h
          rw [List.length_cons, planGo_len n _ _ _ hl]
        · cases h

theorem plan_len {l : List PE} (h : plan P okT N ops true = some l) : l.length = ops.size := by
  simp only [plan] at h
  split at h
  · rw [planGo_len _ _ _ _ h]; simp
  · cases h

theorem plan_true {l : List PE} (h : plan P okT N ops true = some l) : PlanOK P okT N ops (fun _ => False) l := by
  simp only [plan] at h
  split at h
  · rename_i all hall
    have hb : BitsOK ops (beforeGo ops.toList []) := before_ok ops.toList [] [] rfl rfl (fun k b h => by simp at h)
    refine ?_
    have := (planGo_ok (P := P) (okT := okT) (all := all) (fun i o b co hm => ?_) _ 0 [] l h (by simp)).1
    · refine ⟨this.ok, fun _ _ h => h, this.nd, this.topo.mono fun i hi => ?_, this.pw, fun j hj => (this.all j hj).imp (fun h => ?_) id⟩
      · have hi : Nat.testBit 0 i = true := hi
        rw [Nat.zero_testBit] at hi
        cases hi
      · have h : Nat.testBit 0 j = true := h
        rw [Nat.zero_testBit] at h
        cases h
    · obtain ⟨j, h1, h2, h3, h4⟩ := oes_ok hall i o b co hm
      obtain rfl : i = j := by omega
      obtain ⟨o', k1, k2, k3⟩ := hb i b h3
      have : ops[i]? = some o := by rw [← Array.getElem?_toList]; exact h2
      rw [this] at k1
      obtain rfl := Option.some.inj k1
      exact ⟨this, h4, k2, k3⟩
  · cases h

theorem planSeq_ok : ∀ {l : List Oper} {i : Nat} {all : List OE} {ps : List PE}, oes P okT i l (l.map fun _ => 0) = some all → planSeq ops N all = some ps → (∀ j o, l[j]? = some o → ops[i + j]? = some o) →
    ps.map PE.i = (List.range l.length).map (i + ·) ∧ (∀ pe ∈ ps, PEok P okT N ops pe) ∧ ∀ pe ∈ ps, pe.um = 0
  | [], i, all, ps, h, hp, _ => by
    simp only [oes] at h
    obtain rfl := Option.some.inj h
    obtain rfl := Option.some.inj hp
    simp
  | o :: l, i, all, ps, h, hp, ho => by
    rw [List.map_cons] at h
    simp only [oes] at h
    split at h
    · rename_i co r hco hr
      obtain rfl := Option.some.inj h
      simp only [planSeq] at hp
      split at hp
      · rename_i pe ps' hpe hps
        obtain rfl := Option.some.inj hp
        obtain ⟨d, g, rfl, hdst, hgd⟩ := toPE_ok hpe
        obtain ⟨k1, k2, k3⟩ := planSeq_ok (i := i.succ) hr hps (fun j o' hj => by
          have := ho (j + 1) o' (by simpa using hj)
          rw [← this]
          congr 1
          omega)
        refine ⟨?_, fun pe hpe => ?_, fun pe hpe => ?_⟩
        · rw [List.map_cons, k1, List.length_cons, List.range_succ_eq_map, List.map_cons, List.map_map]
          congr 1
          exact List.map_congr_left fun a _ => by simp; omega
        · rcases List.mem_cons.1 hpe with rfl | hpe
          · exact ⟨o, by have := ho 0 o rfl; simpa using this, hco, hdst, hgd⟩
          · exact k2 pe hpe
        · rcases List.mem_cons.1 hpe with rfl | hpe
          · rfl
          · exact k3 pe hpe
      · cases hp
    · cases h

theorem plan_false {l : List PE} (h : plan P okT N ops false = some l) : l.map PE.i = List.range ops.size ∧ (∀ pe ∈ l, PEok P okT N ops pe) ∧ ∀ pe ∈ l, pe.um = 0 := by
  simp only [plan] at h
  split at h
  · rename_i all hall
    obtain ⟨h1, h2, h3⟩ := planSeq_ok (i := 0) hall h (fun j o hj => by
      rw [← Array.getElem?_toList]
      simpa using hj)
    refine ⟨?_, h2, h3⟩
    rw [h1]
    simp
  · cases h
end
end Go.Sx

/- Regions that draw their order. No program. -/
namespace Go.Sx
set_option linter.unusedVariables false
set_option linter.unusedSimpArgs false

theorem drawn_norm {call : Nat → List AV → St → Ro} : ∀ (l : List PE) recs t d st, xregL call true l recs t d st = .no ∨ ∃ t' d' st', xregL call true l recs t d st = .norm t' d' st'
  | [], recs, t, d, st => Or.inr ⟨t, d, st, rfl⟩
  | .mk i dst g um co :: l, recs, t, d, st => by
    rw [xregL_cons]
    have ih := drawn_norm (call := call) l
    cases hw : wantedA g t with
    | false => rw [xop_skip hw]; exact ih _ _ _ _
    | true =>
      cases co with
      | pur f =>
        rw [xop_pur hw]
        cases f t with
        | none => exact Or.inl rfl
        | some v => exact ih _ _ _ _
      | act f =>
        rw [xop_act hw]
        cases f t with
        | none => exact Or.inl rfl
        | some a =>
          rw [xactO_some]
          by_cases hne : xact true (xregL call true l) i dst um a recs t d st.h st.n = .no
          · exact Or.inl hne
          · obtain ⟨e, _, _, _, he⟩ := xact_ok hne
            rw [he]
            exact ih _ _ _ _
      | cal f vs =>
        rw [xop_cal hw]
        by_cases hne : xcal call true (xregL call true l) i dst um (ev f t) (evs vs t) recs t d st = .no
        · exact Or.inl hne
        · obtain ⟨g', first, cap, hf, he⟩ := xcal_ok hne
          rw [he] at hne ⊢
          cases hr : call g' (first ++ evs vs t ++ cap) (st.hide (hidOf um st.h recs)) with
          | no => exact Or.inl rfl
          | ret v st1 =>
            rw [hr] at hne
            obtain ⟨_, he⟩ := xret_ret hne
            rw [he]
            exact ih _ _ _ _
          | pan v st1 => exact Or.inl rfl
      | dfr f vs => rw [xop_dfr hw]; exact Or.inl rfl
      | pan x => rw [xop_pan hw]; exact Or.inl rfl

/-! ### Records -/
def RecOf : Rec → GU Nat (Option Blk) → Prop
  | .small reqs ids, x => (∀ l, x.r l ≠ none → l ∈ reqs) ∧ (∀ l, x.w l ≠ none → l ∈ ids)
  | .big h0 h1, x => (∀ l, x.r l ≠ none → getP (path l) h0 ≠ none) ∧ (∀ l, x.w l ≠ none → getP (path l) h0 ≠ getP (path l) h1)

def RecAp (r : Rec) (y : GU Nat (Option Blk)) : Prop := ∀ x, RecOf r x → x.ap y

theorem disj_ok {a b : List Nat} (h : disj a b = true) : ∀ x ∈ a, x ∉ b := by
  intro x hx hb
  have := List.all_eq_true.1 h x hx
  rw [(memN_iff x b).2 hb] at this
  cases this

theorem not_none {V : Type} {x : Option V} (h : x ≠ none → False) : x = none := by
  cases x with
  | none => rfl
  | some v => exact (h (by simp)).elim

theorem noneB_ok {x : Option Blk} (h : noneB x = true) : x = none := by
  cases x with
  | none => rfl
  | some v => cases h

theorem okSmall_ok {um : Nat} {reqs ids : List Nat} {wr : Bool} {y : GU Nat (Option Blk)} (hr : ∀ l, y.r l ≠ none → l ∈ reqs) (hw : ∀ l, y.w l ≠ none → l ∈ ids) :
    ∀ {recs : List (Nat × Rec)}, okSmall um reqs ids wr recs = true → ∀ p ∈ recs, Nat.testBit um p.1 = true → RecAp p.2 y
  | [], _, p, hp, _ => by cases hp
  | (i, r) :: l, h, p, hp, hb => by
    simp only [okSmall] at h
    obtain ⟨h1, h2⟩ := and3 h
    rcases List.mem_cons.1 hp with rfl | hp
    · simp only at hb
      rw [hb] at h1
      cases r with
      | small reqs' ids' =>
        simp only at h1
        obtain ⟨h1, k3⟩ := and3 h1
        obtain ⟨k1, k2⟩ := and3 h1
        rintro x ⟨x1, x2⟩
        refine ⟨fun l hl => ⟨not_none fun h => disj_ok k1 l (x2 l hl) (hr l h), not_none fun h => disj_ok k3 l (hw l h) (x2 l hl)⟩, fun l hl => not_none fun h => disj_ok k2 l (hw l hl) (x1 l h)⟩
      | big h0 h1' =>
        simp only at h1
        obtain ⟨h1, k3⟩ := and3 h1
        obtain ⟨k1, k2⟩ := and3 h1
        have nn : ∀ l ∈ ids, getP (path l) h0 = none ∧ getP (path l) h1' = none := fun l hl => by
          have := and3 (List.all_eq_true.1 k3 l hl)
          exact ⟨noneB_ok this.1, noneB_ok this.2⟩
        rintro x ⟨x1, x2⟩
        refine ⟨fun l hl => ⟨not_none fun h => x2 l hl (sameB_eq (List.all_eq_true.1 k2 l (hr l h))), not_none fun h => ?_⟩, fun l hl => not_none fun h => x1 l h (nn l (hw l hl)).1⟩
        obtain ⟨q1, q2⟩ := nn l (hw l h)
        exact x2 l hl (q1.trans q2.symm)
    · exact okSmall_ok hr hw h2 p hp hb

theorem hidden_ok {um : Nat} {h : Tr Blk} : ∀ {recs : List (Nat × Rec)} {i : Nat} {reqs ids : List Nat}, (i, Rec.small reqs ids) ∈ recs → Nat.testBit um i = true → ∀ x ∈ ids, x ∈ hidden um h recs
  | (j, r) :: l, i, reqs, ids, hm, hb, x, hx => by
    rcases List.mem_cons.1 hm with hm | hm
    · injection hm with h1 h2
      subst h1; subst h2
      simp only [hidden, hb]
      exact List.mem_append_left _ hx
    · have ih := hidden_ok (h := h) hm hb x hx
      simp only [hidden]
      split
      · split
        · exact List.mem_append_right _ (List.mem_append_right _ ih)
        · exact ih
      · exact ih

theorem okBig_ok {um : Nat} {st st1 : St} {hid : List Nat} : ∀ {recs : List (Nat × Rec)}, okBig um st.h st1.h hid recs = true → (∀ i reqs ids, (i, Rec.small reqs ids) ∈ recs → Nat.testBit um i = true → ∀ x ∈ ids, x ∈ hid) →
      ∀ p ∈ recs, Nat.testBit um p.1 = true → RecAp p.2 (ghC (st.hide hid).get hid st1.get)
  | [], _, _, p, hp, _ => by cases hp
  | (i, r) :: l, h, hh, p, hp, hb => by
    simp only [okBig] at h
    obtain ⟨h1, h2⟩ := and3 h
    rcases List.mem_cons.1 hp with rfl | hp
    · simp only at hb
      rw [hb] at h1
      cases r with
      | small reqs ids =>
        simp only at h1
        have hi := hh i reqs ids (List.mem_cons_self ..) hb
        rintro x ⟨x1, x2⟩
        refine ⟨fun l hl => ?_, fun l hl => not_none fun h => ?_⟩
        · have hlm := hi l (x2 l hl)
          constructor
          · simp only [ghC]
            rw [hide_get, if_pos hlm]
          · simp only [ghC]
            rw [if_pos hlm]
        · simp only [ghC] at hl
          split at hl
          · exact hl rfl
          · rename_i hnm
            split at hl
            · exact hl rfl
            · rename_i hne
              rw [hide_get, if_neg hnm] at hne
              have := List.all_eq_true.1 h1 l (x1 l h)
              rcases Bool.or_eq_true_iff.1 this with k | k
              · exact hnm ((memN_iff _ _).1 k)
              · exact hne (sameB_eq k)
      | big h0 h1' => cases h1
    · exact okBig_ok h2 (fun i reqs ids hm => hh i reqs ids (List.mem_cons_of_mem _ hm)) p hp hb

/-! ### The items of a drawn region -/
structure Shape (ops : Array Oper) (x : Item) : Prop where
  gt : ∃ o, ops[x.i]? = some o ∧ (∀ k, x.gt.r k ≠ none → k ∈ o.looksAt ops) ∧ ∀ k, x.gt.w k ≠ none → o.dst = some k
  gh : isPur x.pe.co = true → x.gh = gh0
  le : x.lo ≤ x.hi

def HP (x y : Item) : Prop := (Nat.testBit y.pe.um x.pe.i = true → x.gh.ap y.gh) ∧ x.hi ≤ y.lo

theorem ap_gh0_left (y : GU Nat (Option Blk)) : gh0.ap y := ⟨fun l h => absurd rfl h, fun l h => rfl⟩
theorem ap_gh0_right (x : GU Nat (Option Blk)) : x.ap gh0 := ⟨fun l h => ⟨rfl, rfl⟩, fun l h => absurd rfl h⟩

section
variable {bs : List Deferred} {ro : Option Nat} {P : Program} {okT : Nat → Bool} {N : Nat} {ops : Array Oper} {Qe : Exit → Act → World → Prop} {I : Nat → Prop} {σ0 : Env} {h0 : Hp} {w0 : World} {ds : List Deferred}

theorem gtOf_shape {o : Oper} {t : Tr AV} {v : AV} : (∀ k, (gtOf ops o t v).r k ≠ none → k ∈ o.looksAt ops) ∧ ∀ k, (gtOf ops o t v).w k ≠ none → o.dst = some k := by
  refine ⟨fun k h => ?_, fun k h => ?_⟩
  · simp only [gtOf] at h
    split at h
    · assumption
    · exact absurd rfl h
  · simp only [gtOf] at h
    split at h
    · assumption
    · exact absurd rfl h

theorem gtOf_en {o : Oper} {t : Tr AV} {v : AV} : (gtOf ops o t v).en (tmOf t) := by
  intro k u h
  simp only [gtOf] at h
  split at h
  · exact Option.some.inj h
  · cases h

theorem gtOf_up {o : Oper} {t : Tr AV} {v : AV} {dst : Option (List Q)} (hd : dstP N o.dst = some dst) : (gtOf ops o t v).up (tmOf t) = tmOf (putD dst v t) := by
  funext k
  rw [tmOf_put hd]
  simp only [GU.up, gtOf]
  split <;> rfl

structure Extract (ro : Option Nat) (P : Program) (okT : Nat → Bool) (N : Nat) (ops : Array Oper) (Qe : Exit → Act → World → Prop) (I : Nat → Prop) (σ0 : Env) (h0 : Hp) (w0 : World) (ds : List Deferred)
    (l : List PE) (recs : List (Nat × Rec)) (t : Tr AV) (st : St) (t' : Tr AV) (st' : St) (L : List Item) : Prop where
  pes : L.map Item.pe = l
  run : ∀ u : Nat → Bool, (∀ id, st.n ≤ id → u id = false) → ∃ u', runs L (tmOf t, st.get, u) (tmOf t', st'.get, u')
  sound : ∀ x ∈ L, Sound ro P ops Qe I σ0 h0 w0 N ds x
  lo : ∀ x ∈ L, st.n ≤ x.lo
  shape : ∀ x ∈ L, Shape ops x
  pw : L.Pairwise HP
  recs : ∀ p ∈ recs, ∀ y ∈ L, Nat.testBit y.pe.um p.1 = true → RecAp p.2 y.gh

/-- The first item, and the others. -/
theorem Extract.cons {pe : PE} {l : List PE} {recs recs' : List (Nat × Rec)} {t t1 t' : Tr AV} {st st1 st' : St} {L : List Item} {x : Item} (h : Extract ro P okT N ops Qe I σ0 h0 w0 ds l recs' t1 st1 t' st' L)
    (hpe : x.pe = pe) (hlo : x.lo = st.n) (hhi : x.hi = st1.n) (hle : st.n ≤ st1.n) (hsh : Shape ops x) (hso : Sound ro P ops Qe I σ0 h0 w0 N ds x) (he1 : x.gt.en (tmOf t)) (hu1 : x.gt.up (tmOf t) = tmOf t1) (he2 : x.gh.en st.get) (hu2 : x.gh.up st.get = st1.get)
    (hr : ∀ p ∈ recs, p ∈ recs') (hmine : x.gh = gh0 ∨ ∃ r, (pe.i, r) ∈ recs' ∧ RecOf r x.gh) (hrec : ∀ p ∈ recs, Nat.testBit pe.um p.1 = true → RecAp p.2 x.gh) :
    Extract ro P okT N ops Qe I σ0 h0 w0 ds (pe :: l) recs t st t' st' (x :: L) := by
  refine ⟨by rw [List.map_cons, hpe, h.pes], fun u hu => ?_, fun y hy => ?_, fun y hy => ?_, fun y hy => ?_, List.pairwise_cons.2 ⟨fun y hy => ⟨fun hb => ?_, ?_⟩, h.pw⟩, fun p hp y hy hb => ?_⟩
  · have hgu : x.gu.en u := by
      intro id v hv
      simp only [Item.gu] at hv
      split at hv
      · rename_i hc
        rw [hu id (by omega)]
        exact Option.some.inj hv
      · cases hv
    obtain ⟨u', hu'⟩ := h.run (x.gu.up u) (fun id hid => by
      simp only [GU.up, Item.gu]
      rw [if_neg (by omega)]
      exact hu id (by omega))
    refine ⟨u', ⟨he1, he2, hgu⟩, ?_⟩
    show runs L (x.gt.up (tmOf t), x.gh.up st.get, x.gu.up u) _
    rw [hu1, hu2]
    exact hu'
  · rcases List.mem_cons.1 hy with rfl | hy
    · exact hso
    · exact h.sound y hy
  · rcases List.mem_cons.1 hy with rfl | hy
    · omega
    · exact Nat.le_trans hle (h.lo y hy)
  · rcases List.mem_cons.1 hy with rfl | hy
    · exact hsh
    · exact h.shape y hy
  · rcases hmine with hg | ⟨r, hm, hof⟩
    · rw [hg]; exact ap_gh0_left _
    · rw [hpe] at hb
      exact h.recs _ hm y hy hb _ hof
  · rw [hhi]; exact h.lo y hy
  · rcases List.mem_cons.1 hy with rfl | hy
    · rw [hpe] at hb
      exact hrec p hp hb
    · exact h.recs p (hr p hp) y hy hb

theorem reg_items (hk : OkT P okT) (hc : CallsOK P) {call : Nat → List AV → St → Ro} (hgood : CallGood P call) (hg0 : GlobOK P σ0) : ∀ (l : List PE) recs t d st t' d' st', xregL call true l recs t d st = .norm t' d' st' → (∀ pe ∈ l, PEok P okT N ops pe) →
    (∀ id, st.n ≤ id → id < st'.n → I id ∧ σ0 id = none) → d' = d ∧ ∃ L, Extract ro P okT N ops Qe I σ0 h0 w0 ds l recs t st t' st' L
  | [], recs, t, d, st, t', d', st', h, _, _ => by
    rw [xregL_nil] at h
    injection h with h1 h2 h3
    subst h1; subst h2; subst h3
    exact ⟨rfl, [], rfl, fun u _ => ⟨u, rfl⟩, by simp, by simp, by simp, List.Pairwise.nil, by simp⟩
  | .mk i dst g um co :: l, recs, t, d, st, t', d', st', h, hpe, hI => by
    obtain ⟨o, hi, hco, hd, hgd⟩ := hpe _ (List.mem_cons_self ..)
    have hpe' : ∀ pe ∈ l, PEok P okT N ops pe := fun pe h => hpe pe (List.mem_cons_of_mem _ h)
    have ih := reg_items hk hc hgood hg0 l
    rw [xregL_cons] at h
    have pur : ∀ v, xregL call true l recs (putD dst v t) d st = .norm t' d' st' → ((wantedA g t = false ∧ v = .tup []) ∨ (wantedA g t = true ∧ ∃ f, co = .pur f ∧ f t = some v)) → d' = d ∧ ∃ L, Extract ro P okT N ops Qe I σ0 h0 w0 ds (.mk i dst g um co :: l) recs t st t' st' L := by
      intro v hv hcase
      obtain ⟨k1, L, k2⟩ := ih _ _ _ _ _ _ _ hv hpe' hI
      refine ⟨k1, _, k2.cons (x := ⟨.mk i dst g um co, st.n, st.n, gtOf ops o t v, gh0⟩) rfl rfl rfl (Nat.le_refl _) ⟨⟨o, hi, gtOf_shape⟩, fun _ => rfl, Nat.le_refl _⟩ (sound_pur hk hg0 hi hd hgd hco hcase) gtOf_en (gtOf_up hd) (fun _ _ h => by cases h) rfl (fun _ h => h) (Or.inl rfl) (fun _ _ _ => ap_all)⟩
    cases hw : wantedA g t with
    | false =>
      rw [xop_skip hw] at h
      exact pur _ h (Or.inl ⟨hw, rfl⟩)
    | true =>
      cases co with
      | pur f =>
        rw [xop_pur hw] at h
        cases hv : f t with
        | none => rw [hv] at h; cases h
        | some v =>
          rw [hv, xpur_some] at h
          exact pur v h (Or.inr ⟨hw, f, rfl, hv⟩)
      | act f =>
        rw [xop_act hw] at h
        cases hv : f t with
        | none => rw [hv] at h; cases h
        | some a1 =>
          rw [hv, xactO_some] at h
          have hne : xact true (xregL call true l) i dst um a1 recs t d st.h st.n ≠ .no := by rw [h]; simp
          obtain ⟨e, he, hok, hW, heq⟩ := xact_ok hne
          rw [heq] at h
          have hst : St.mk st.h st.n = st := by cases st; rfl
          rw [hst] at h
          have hmono := regL_mono hgood.mono (draw := true) l (cons true (i, .small a1.reqs (e.ids st.n)) recs) (putD dst e.val t) d (st.eff e)
          rw [h] at hmono
          have hmono : (st.eff e).n ≤ st'.n := hmono
          have htop := eff_n st e
          have htg := top_ge e st.n
          obtain ⟨k1, L, k2⟩ := ih _ _ _ _ _ _ _ h hpe' (fun id h1 h2 => hI id (by omega) h2)
          have hgr : ∀ l, (ghA a1 st.n e st.get).r l ≠ none → l ∈ a1.reqs := by
            intro l hl
            simp only [ghA] at hl
            split at hl
            · assumption
            · exact absurd rfl hl
          have hgw : ∀ l, (ghA a1 st.n e st.get).w l ≠ none → l ∈ e.ids st.n := fun l hl => wE_ids _ _ _ hl
          refine ⟨k1, _, k2.cons (x := ⟨.mk i dst g um (.act f), st.n, e.top st.n, gtOf ops o t e.val, ghA a1 st.n e st.get⟩) rfl rfl htop.symm (by omega) ⟨⟨o, hi, gtOf_shape⟩, (fun h => by cases h), htg⟩
            (sound_act hk hg0 hi hd hgd hco hw hv he hW fun id h1 h2 => hI id h1 (by omega)) gtOf_en (gtOf_up hd) ?_ ?_ (fun p hp => List.mem_cons_of_mem _ hp) (Or.inr ⟨_, List.mem_cons_self .., hgr, hgw⟩) ?_⟩
          · intro id b hb
            simp only [ghA] at hb
            split at hb
            · exact Option.some.inj hb
            · cases hb
          · funext id
            rw [eff_get]
            exact wE_app st.n e st.get id
          · intro p hp hb
            rcases hok with h0 | hok
            · subst h0
              have hb : Nat.testBit 0 p.1 = true := hb
              rw [Nat.zero_testBit] at hb; cases hb
            · exact okSmall_ok hgr hgw hok p hp hb
      | cal f vs =>
        rw [xop_cal hw] at h
        have hne : xcal call true (xregL call true l) i dst um (ev f t) (evs vs t) recs t d st ≠ .no := by rw [h]; simp
        obtain ⟨g', first, cap, hf, heq⟩ := xcal_ok hne
        rw [heq] at hne h
        cases hres : call g' (first ++ evs vs t ++ cap) (st.hide (hidOf um st.h recs)) with
        | no => rw [hres] at h; cases h
        | pan v st1 => rw [hres] at h; cases h
        | ret v st1 =>
          rw [hres] at hne h
          obtain ⟨hok, heq⟩ := xret_ret hne
          rw [heq] at h
          have hmono := regL_mono hgood.mono (draw := true) l (cons true (i, .big st.h st1.h) recs) (putD dst v t) d (st1.back st.h (hidOf um st.h recs))
          rw [h] at hmono
          have hmono : (st1.back st.h (hidOf um st.h recs)).n ≤ st'.n := hmono
          rw [back_n] at hmono
          have hcm := hgood.mono g' (first ++ evs vs t ++ cap) (st.hide (hidOf um st.h recs))
          rw [hres, hide_n] at hcm
          have hcm : st.n ≤ st1.n := hcm
          obtain ⟨k1, L, k2⟩ := ih _ _ _ _ _ _ _ h hpe' (fun id h1 h2 => hI id (by rw [back_n] at h1; omega) h2)
          refine ⟨k1, _, k2.cons (x := ⟨.mk i dst g um (.cal f vs), st.n, st1.n, gtOf ops o t v, ghC (st.hide (hidOf um st.h recs)).get (hidOf um st.h recs) st1.get⟩) rfl rfl (back_n _ _ _).symm (by rw [back_n]; exact hcm) ⟨⟨o, hi, gtOf_shape⟩, (fun h => by cases h), hcm⟩
            (sound_cal hc hgood hg0 hi hd hgd hco hw hf hres fun id h1 h2 => hI id h1 (by omega)) gtOf_en (gtOf_up hd) ?_ ?_ (fun p hp => List.mem_cons_of_mem _ hp) (Or.inr ⟨_, List.mem_cons_self .., ?_, ?_⟩) ?_⟩
          · intro id b hb
            simp only [ghC] at hb
            split at hb
            · rename_i c hc'
              obtain rfl := Option.some.inj hb
              rw [hide_get] at hc'
              split at hc'
              · cases hc'
              · exact hc'
            · cases hb
          · funext id
            rw [back_get]
            simp only [GU.up, ghC]
            by_cases h1 : id ∈ hidOf um st.h recs
            · rw [if_pos h1, if_pos h1]; rfl
            · rw [if_neg h1, if_neg h1, hide_get, if_neg h1]
              by_cases h2 : st.get id = st1.get id
              · rw [if_pos h2]; exact h2
              · rw [if_neg h2]; rfl
          · intro id hid
            simp only [ghC] at hid
            split at hid
            · rename_i c hc'
              rw [hide_get] at hc'
              split at hc'
              · cases hc'
              · intro hn
                have hn : st.get id = none := hn
                rw [hn] at hc'; cases hc'
            · exact absurd rfl hid
          · intro id hid
            simp only [ghC] at hid
            split at hid
            · exact absurd rfl hid
            · rename_i hnm
              split at hid
              · exact absurd rfl hid
              · rename_i hne'
                rw [hide_get, if_neg hnm] at hne'
                exact hne'
          · intro p hp hb
            rcases hok with h0 | hok
            · subst h0
              have hb : Nat.testBit 0 p.1 = true := hb
              rw [Nat.zero_testBit] at hb; cases hb
            · refine okBig_ok hok (fun i' reqs ids hm hbit x hx => ?_) p hp hb
              unfold hidOf
              cases hu : Nat.beq um 0 with
              | true =>
                have : um = 0 := nbeq hu
                subst this
                rw [Nat.zero_testBit] at hbit; cases hbit
              | false => exact hidden_ok hm hbit x hx
      | dfr f vs => rw [xop_dfr hw] at h; cases h
      | pan x => rw [xop_pan hw] at h; cases h
where ap_all {r : Rec} : RecAp r gh0 := fun x _ => ap_gh0_right x

/-- Two items in the order of the plan. -/
theorem items_apart {x y : Item} (hp : RP ops x.pe y.pe) (hh : HP x y) (hx : Shape ops x) (hy : Shape ops y) : x.ap y ∨ Bef ops x.i y.i := by
  rcases hp with h | ⟨o1, o2, h1, h2, h3, h4⟩
  · exact Or.inr h
  · refine Or.inl ⟨?_, ?_, ?_⟩
    · obtain ⟨o1', k1, k2, k3⟩ := hx.gt
      obtain ⟨o2', l1, l2, l3⟩ := hy.gt
      have : some o1 = some o1' := h1.symm.trans k1
      obtain rfl := Option.some.inj this
      have : some o2 = some o2' := h2.symm.trans l1
      obtain rfl := Option.some.inj this
      obtain ⟨a1, a2, a3⟩ := Oper.apart_spec h3
      exact ⟨fun k hk => ⟨not_none fun h => a1 k (k3 k hk) (l2 k h), not_none fun h => a2 k (k3 k hk) (l3 k h)⟩, fun k hk => not_none fun h => a3 k (l3 k hk) (k2 k h)⟩
    · rcases h4 with h4 | h4 | h4
      · rw [hx.gh h4]; exact ap_gh0_left _
      · rw [hy.gh h4]; exact ap_gh0_right _
      · exact hh.1 h4
    · have hle := hh.2
      have hx := hx.le
      have hy := hy.le
      refine ⟨fun l hl => ?_, fun l hl => ?_⟩
      · simp only [Item.gu] at hl ⊢
        split at hl
        · have hn : ¬ (y.lo ≤ l ∧ l < y.hi) := by omega
          rw [if_neg hn, if_neg hn]; exact ⟨rfl, rfl⟩
        · exact absurd rfl hl
      · simp only [Item.gu] at hl ⊢
        split at hl
        · rw [if_neg (by omega)]
        · exact absurd rfl hl

theorem pair_zip : ∀ {L : List Item}, (L.map Item.pe).Pairwise (RP ops) → L.Pairwise HP → (∀ x ∈ L, Shape ops x) → L.Pairwise (fun x y => x.ap y ∨ Bef ops x.i y.i)
  | [], _, _, _ => List.Pairwise.nil
  | x :: L, h1, h2, h3 => by
    rw [List.map_cons] at h1
    obtain ⟨a1, a2⟩ := List.pairwise_cons.1 h1
    obtain ⟨b1, b2⟩ := List.pairwise_cons.1 h2
    refine List.pairwise_cons.2 ⟨fun y hy => items_apart (a1 _ (List.mem_map_of_mem hy)) (b1 y hy) (h3 x (List.mem_cons_self ..)) (h3 y (List.mem_cons_of_mem _ hy)), pair_zip a2 b2 fun z hz => h3 z (List.mem_cons_of_mem _ hz)⟩

theorem stp_drew {σ : Env} {h : Hp} {n : Nat} {w : World} (k : Rep σ h w) : Stp σ h n w σ h n { w with drawn := w.drawn + 1 } :=
  (EffOK.stp (e := .v (.tup [])) (n := n) (w := w) (σ := σ) (σ' := σ) ⟨rfl, OnlyB.drew w _⟩ k (fun h => absurd h (Nat.lt_irrefl _)) rfl (fun id h => by simp [Eff.ids] at h) :)

/-- A region that draws its order. -/
theorem wp_drawn (hk : OkT P okT) (hc : CallsOK P) (hm : P.follows .mixedOrders = true) {call : Nat → List AV → St → Ro} (hgood : CallGood P call) {id : Nat} {l : List PE} (hl : plan P okT N ops true = some l) {t : Tr AV} {d : Ds} {st : St} {σ : Env} {a : Act} {w : World}
    (hne : xregL call true l [] t d st ≠ .no) (hfree : Free σ st.n (xregL call true l [] t d st)) (hg : GlobOK P σ) (hr : Rep σ st.get w) (ht : TmpOK σ t N a) (hds : DefOK bs σ d a.defers)
    (hQ : ∀ e a' w', Behind bs σ st.get st.n w N (xregL call true l [] t d st) e a' w' → Qe e a' w') : (Code.region id ops true).wpIn (RF ro) 0 P Qe a w := by
  refine wpIn_region_any hm ?_
  have hp := plan_true hl
  rcases drawn_norm (call := call) l [] t d st with h | ⟨t', d', st', h⟩
  · exact absurd h hne
  · rw [h] at hfree hQ
    have hs0 := stp_drew (n := st.n) hr
    have hmono := regL_mono hgood.mono (draw := true) l [] t d st
    rw [h] at hmono
    have hmono : st.n ≤ st'.n := hmono
    obtain ⟨rfl, L, hL⟩ := reg_items (Qe := Qe) (I := fun id => st.n ≤ id ∧ id < st'.n) (h0 := st.get) (w0 := { w with drawn := w.drawn + 1 }) (ds := a.defers) hk hc hgood hg l [] t d st t' d' st' h hp.ok (fun id h1 h2 => ⟨⟨h1, h2⟩, hfree id h1 h2⟩)
    obtain ⟨u', hrun⟩ := hL.run (fun _ => false) (fun _ _ => rfl)
    have hLi : L.map Item.i = l.map PE.i := by
      rw [← hL.pes, List.map_map]
      rfl
    have hlen : L.length = ops.size := by
      have h1 : L.length = (L.map Item.i).length := by simp
      rw [h1, hLi, List.length_map, plan_len hl]
    refine any_of_runs (M := Mid (fun id => st.n ≤ id ∧ id < st'.n) σ st.get { w with drawn := w.drawn + 1 } N a.defers) (s' := (tmOf t', st'.get, u')) ?_ ops.size L _ (tmOf t, st.get, fun _ => false) a _ (by omega) (by simp) ?_ (by rw [hLi]; exact hp.nd)
      (pair_zip (by rw [hL.pes]; exact hp.pw) hL.pw hL.shape) ?_ ?_ (fun x hx => hL.sound x hx) hrun ?_
    · rintro a' w' ⟨σ', t1, m1, m2, m3, m4, m5⟩
      exact hQ .normal a' w' ⟨rfl, σ', hs0.trans (m2.toStp hmono), m3.of_tm m1, by rw [m4]; exact hds.mono m2.le⟩
    · intro j hj
      rw [hLi]
      constructor
      · intro _
        exact (hp.all j hj).resolve_left (fun h => h)
      · intro _
        simp [hj]
    · intro j o hj ho
      exfalso
      simp only [Array.getD_eq_getD_getElem?, Array.getElem?_replicate] at hj
      split at hj <;> cases hj
    · rw [hLi]
      exact hp.topo.mono fun i h => h.elim
    · exact ⟨σ, t, fun _ => rfl, (stpI_refl hs0.rep), ht, rfl, fun id l h => Or.inl h⟩
where
  stpI_refl {I : Nat → Prop} {σ : Env} {h : Hp} {w : World} (k : Rep σ h w) : StpI I σ h w σ h w := (Stp.refl (n := 0) k).toI fun id h1 h2 => absurd h2 (Nat.not_lt_zero _)
end
end Go.Sx

/- Code. No program. -/
namespace Go.Sx
set_option linter.unusedVariables false
set_option linter.unusedSimpArgs false

section
variable {bs : List Deferred} {ro : Option Nat} {P : Program} {okT : Nat → Bool} {N : Nat} {Qe : Exit → Act → World → Prop} {call : Nat → List AV → St → Ro}

theorem room_rf (n : Nat) : (RF ro).room n := fun _ h => by simp [RF] at h

/-- In a loop, ahead of a round. -/
def LoopWp (ro : Option Nat) (P : Program) (c : Code) (Q : Exit → Act → World → Prop) (a : Act) (w : World) : Prop :=
  ∀ (b : Frame) (k : List Go.Item) (cs : List Frame), b.roundOf = ro → ∃ e a' w', Q e a' w' ∧ ArrivesIn (Machine.fenced P (RF ro)) P (lone (b.atR a (.code c :: .inLoop c :: k)) cs w) b k cs e a' w'

theorem loop_in {c : Code} {Q : Exit → Act → World → Prop} {a : Act} {w : World} (h : c.wpIn (RF ro) 0 P (Exit.then (LoopWp ro P c Q) Q) a w) : LoopWp ro P c Q a w := by
  intro b k cs hro
  obtain ⟨e, a₁, w₁, hq, harr⟩ := h b (.inLoop c :: k) cs hro trivial (room_rf _)
  cases e with
  | normal =>
    obtain ⟨e₂, a₂, w₂, hq₂, harr₂⟩ := hq b k cs hro
    exact ⟨e₂, a₂, w₂, hq₂, .of_steps (StepsIn.trans harr (.one (fenced_calm (n := 0) trivial (room_rf _) rfl) stepR_inLoop)) harr₂⟩
  | exit id => exact ⟨_, a₁, w₁, hq, .pass (x := .inLoop c) rfl (fun _ _ => .inl (by simp)) harr⟩
  | goto l => exact ⟨_, a₁, w₁, hq, .pass (x := .inLoop c) rfl (fun _ _ => .inl (by simp)) harr⟩
  | ret => exact ⟨_, a₁, w₁, hq, .pass (x := .inLoop c) rfl (fun _ _ => .inl (by simp)) harr⟩
  | panic ch => exact ⟨_, a₁, w₁, hq, .pass (x := .inLoop c) rfl (fun _ _ => .inl (by simp)) harr⟩
  | outgrown => exact ⟨_, a₁, w₁, hq, .pass (x := .inLoop c) rfl (fun _ _ => .inl (by simp)) harr⟩

theorem loop_out {c : Code} {Q : Exit → Act → World → Prop} {a : Act} {w : World} (h : LoopWp ro P c Q a w) : (Code.loop c).wpIn (RF ro) 0 P Q a w := fun b k cs hro hb hr =>
  let ⟨e, a', w', q, r⟩ := h b k cs hro; ⟨e, a', w', q, .of_steps (.one (fenced_calm (n := 0) hb hr rfl) stepR_loop) r⟩

def Wpl (ro : Option Nat) (P : Program) (c : Code) (Q : Exit → Act → World → Prop) (a : Act) (w : World) : Prop :=
  match c with
  | .loop b => LoopWp ro P b Q a w
  | c => c.wpIn (RF ro) 0 P Q a w

theorem Wpl.wp {c : Code} {Q : Exit → Act → World → Prop} {a : Act} {w : World} (h : Wpl ro P c Q a w) : c.wpIn (RF ro) 0 P Q a w := by
  unfold Wpl at h
  split at h
  · exact loop_out h
  · exact h

/-- No deferred call in it. -/
def ndC : Code → Prop
  | .region _ ops _ => ∀ o ∈ ops.toList, ∀ c, o.op ≠ .defer c
  | .seq a b => ndC a ∧ ndC b
  | .cond _ a b => ndC a ∧ ndC b
  | .block _ b => ndC b
  | .loop b => ndC b
  | _ => True

theorem xcode_zero {c t d st} : xcode P okT call N 0 c t d st = .no := rfl
theorem xcode_succ {n c t d st} : xcode P okT call N (n + 1) c t d st = xstep P okT call N (xcode P okT call N n) c t d st := rfl

theorem ge_seq {ih : Code → Tr AV → Ds → St → Rs} (h : ∀ c t d st, (ih c t d st).ge st.n) (a b : Code) (t : Tr AV) (d : Ds) (st : St) : (xseq ih a b t d st).ge st.n := by
  unfold xseq
  have := h a t d st
  cases hr : ih a t d st with
  | no => trivial
  | norm t1 d1 st1 => rw [hr] at this; exact Rs.ge.trans this (h b t1 d1 st1)
  | exit id t1 d1 st1 => rw [hr] at this; exact this
  | ret t1 d1 st1 => rw [hr] at this; exact this
  | pan v t1 d1 st1 => rw [hr] at this; exact this

theorem code_mono (hc : CallMono call) : ∀ (n : Nat) (c : Code) (t : Tr AV) (d : Ds) (st : St), (xcode P okT call N n c t d st).ge st.n
  | 0, c, t, d, st => trivial
  | n + 1, c, t, d, st => by
    rw [xcode_succ]
    have ih := code_mono hc n
    unfold xstep
    split
    · exact Nat.le_refl _
    · exact Nat.le_refl _
    · unfold xregion
      cases plan P okT N _ _ with
      | none => trivial
      | some l => exact regL_mono hc l _ _ _ _
    · exact ge_seq ih _ _ _ _ _
    · rename_i x a b
      unfold xcond
      cases cOp P x with
      | none => trivial
      | some y =>
        show (xcondB _ (ev y t) a b t d st).ge st.n
        unfold xcondB
        split
        · rename_i v _
          cases v
          · exact ih _ _ _ _
          · exact ih _ _ _ _
        · trivial
    · rename_i id b
      unfold xblock
      have := ih b t d st
      cases hr : xcode P okT call N n b t d st with
      | no => trivial
      | norm t1 d1 st1 => rw [hr] at this; exact this
      | exit j t1 d1 st1 =>
        rw [hr] at this
        show Rs.ge st.n (Bool.rec (motive := fun _ => Rs) (.exit j t1 d1 st1) (.norm t1 d1 st1) (Nat.beq j id))
        cases Nat.beq j id <;> exact this
      | ret t1 d1 st1 => rw [hr] at this; exact this
      | pan v t1 d1 st1 => rw [hr] at this; exact this
    · rename_i b
      unfold xloop
      have := ih b t d st
      cases hr : xcode P okT call N n b t d st with
      | no => trivial
      | norm t1 d1 st1 => rw [hr] at this; exact Rs.ge.trans this (ih (.loop b) t1 d1 st1)
      | exit j t1 d1 st1 => rw [hr] at this; exact this
      | ret t1 d1 st1 => rw [hr] at this; exact this
      | pan v t1 d1 st1 => rw [hr] at this; exact this
    · exact Nat.le_refl _
    · exact Nat.le_refl _
    · trivial

theorem Free.of {σ : Env} {n m : Nat} {r r1 : Rs} (k : Free σ n r) (hne : r ≠ .no) (hm : r.ge m) (h1 : ∀ st, (∃ t d, r1 = .norm t d st) → st.n = m) (h2 : ∃ t d st, r1 = .norm t d st) : Free σ n r1 := by
  obtain ⟨t, d, st, rfl⟩ := h2
  have := h1 st ⟨t, d, rfl⟩
  subst this
  exact k.below hne hm

/-- The code does what its run says. -/
theorem wpl_xcode (hk : OkT P okT) (hc : CallsOK P) (hm : P.follows .mixedOrders = true) (hgood : CallGood P call) : ∀ (n : Nat) (c : Code) (t : Tr AV) (d : Ds) (st : St) (σ : Env) (a : Act) (w : World) (Qe : Exit → Act → World → Prop),
    (ro = none ∨ ndC c) → xcode P okT call N n c t d st ≠ .no → Free σ st.n (xcode P okT call N n c t d st) → GlobOK P σ → Rep σ st.get w → TmpOK σ t N a → DefOK bs σ d a.defers →
    (∀ e a' w', Behind bs σ st.get st.n w N (xcode P okT call N n c t d st) e a' w' → Qe e a' w') → Wpl ro P c Qe a w
  | 0, c, t, d, st, σ, a, w, Qe, _, hne, _, _, _, _, _, _ => absurd rfl hne
  | n + 1, c, t, d, st, σ, a, w, Qe, hnd, hne, hfree, hg, hr, ht, hds, hQ => by
    have ih := wpl_xcode hk hc hm hgood n
    have mono := code_mono (P := P) (okT := okT) (N := N) hgood.mono n
    rw [xcode_succ] at hne hfree hQ
    -- a piece of code, and what comes behind it
    have two : ∀ (x : Code) (Q2 : Exit → Act → World → Prop) (r : Rs), (ro = none ∨ ndC x) → xcode P okT call N n x t d st ≠ .no → Free σ st.n (xcode P okT call N n x t d st) →
        (∀ e a' w', Behind bs σ st.get st.n w N (xcode P okT call N n x t d st) e a' w' → Q2 e a' w') → x.wpIn (RF ro) 0 P Q2 a w := fun x Q2 r h0 h1 h2 h3 => (ih x t d st σ a w Q2 h0 h1 h2 hg hr ht hds h3).wp
    cases c <;> simp only [xstep] at hne hfree hQ
    case skip => exact wpIn_skip (hQ .normal a w ⟨rfl, σ, Stp.refl hr, ht, hds⟩)
    case label l => exact wpIn_label (hQ .normal a w ⟨rfl, σ, Stp.refl hr, ht, hds⟩)
    case exit id => exact wpIn_exit (hQ (.exit id) a w ⟨rfl, σ, Stp.refl hr, ht, hds⟩)
    case ret => exact wpIn_ret (hQ .ret a w ⟨rfl, σ, Stp.refl hr, ht, hds⟩)
    case region id ops draw =>
      unfold xregion at hne hfree hQ
      cases hp : plan P okT N ops draw with
      | none => rw [hp] at hne; exact absurd rfl hne
      | some l =>
        rw [hp] at hne hfree hQ
        cases draw with
        | true => exact wp_drawn hk hc hm hgood hp hne hfree hg hr ht hds hQ
        | false =>
          obtain ⟨h1, h2, h3⟩ := plan_false hp
          refine wpIn_region ?_
          rw [← h1]
          exact wp_regL hk hc hgood l [] t d st σ a w h2 h3 (hnd.imp (fun h => h) fun h pe hpe => by
            obtain ⟨i, dst, g, um, co⟩ := pe
            obtain ⟨o, hi, hco, _, _⟩ := h2 _ hpe
            cases co with
            | dfr f vs =>
              obtain ⟨c, f', hop, _⟩ := dfr_op hco
              exact h o (Array.mem_toList_iff.2 (Array.mem_of_getElem? hi)) c hop
            | _ => trivial) hne hfree hg hr ht hds hQ
    case seq x y =>
      unfold xseq at hne hfree hQ
      refine wpIn_seq ?_
      cases hx : xcode P okT call N n x t d st with
      | no => rw [hx] at hne; exact absurd rfl hne
      | norm t1 d1 st1 =>
        rw [hx] at hne hfree hQ
        have hm1 := mono y t1 d1 st1
        refine two x _ .no (hnd.imp (fun h => h) And.left) (by rw [hx]; simp) (by rw [hx]; exact hfree.below hne hm1) fun e a' w' hb => ?_
        rw [hx] at hb
        obtain ⟨rfl, σ', hs, ht', hd'⟩ := hb
        exact (ih y t1 d1 st1 σ' a' w' Qe (hnd.imp (fun h => h) And.right) hne (hfree.step hs) (hg.mono hs.le) hs.rep ht' hd' fun e a'' w'' hb => hQ e a'' w'' (hb.trans hs)).wp
      | exit id t1 d1 st1 =>
        rw [hx] at hne hfree hQ
        refine two x _ .no (hnd.imp (fun h => h) And.left) (by rw [hx]; simp) (by rw [hx]; exact hfree) fun e a' w' hb => ?_
        rw [hx] at hb
        obtain rfl := hb.1
        exact hQ _ _ _ hb
      | ret t1 d1 st1 =>
        rw [hx] at hne hfree hQ
        refine two x _ .no (hnd.imp (fun h => h) And.left) (by rw [hx]; simp) (by rw [hx]; exact hfree) fun e a' w' hb => ?_
        rw [hx] at hb
        obtain rfl := hb.1
        exact hQ _ _ _ hb
      | pan v t1 d1 st1 =>
        rw [hx] at hne hfree hQ
        refine two x _ .no (hnd.imp (fun h => h) And.left) (by rw [hx]; simp) (by rw [hx]; exact hfree) fun e a' w' hb => ?_
        rw [hx] at hb
        have hb' := hb
        obtain ⟨_, _, rfl, _⟩ := hb'
        exact hQ _ _ _ hb
    case cond x y z =>
      unfold xcond at hne hfree hQ
      cases hx : cOp P x with
      | none => rw [hx] at hne; exact absurd rfl hne
      | some o =>
        rw [hx] at hne hfree hQ
        unfold xcondB at hne hfree hQ
        have he := ht.ev hg x o hx
        cases hv : ev o t with
        | bool b =>
          simp only [hv] at hne hfree hQ he
          have he : a.eval x = .bool b := (Option.some.inj he).symm
          refine wpIn_cond he ?_
          cases b with
          | true => exact two y Qe .no (hnd.imp (fun h => h) And.left) hne hfree hQ
          | false => exact two z Qe .no (hnd.imp (fun h => h) And.right) hne hfree hQ
        | _ => simp only [hv] at hne; exact absurd rfl hne
    case block id x =>
      unfold xblock at hne hfree hQ
      refine wpIn_block ?_
      cases hx : xcode P okT call N n x t d st with
      | no => rw [hx] at hne; exact absurd rfl hne
      | norm t1 d1 st1 =>
        rw [hx] at hne hfree hQ
        refine two x _ .no (hnd) (by rw [hx]; simp) (by rw [hx]; exact hfree) fun e a' w' hb => ?_
        rw [hx] at hb
        obtain rfl := hb.1
        exact hQ _ _ _ hb
      | exit j t1 d1 st1 =>
        rw [hx] at hne hfree hQ
        simp only at hne hfree hQ
        cases hj : Nat.beq j id with
        | true =>
          rw [hj] at hne hfree hQ
          refine two x _ .no (hnd) (by rw [hx]; simp) (by rw [hx]; exact hfree) fun e a' w' hb => ?_
          rw [hx] at hb
          obtain ⟨rfl, hb⟩ := hb
          show if j = id then _ else _
          rw [if_pos (nbeq hj)]
          exact hQ _ _ _ ⟨rfl, hb⟩
        | false =>
          rw [hj] at hne hfree hQ
          refine two x _ .no (hnd) (by rw [hx]; simp) (by rw [hx]; exact hfree) fun e a' w' hb => ?_
          rw [hx] at hb
          obtain ⟨rfl, hb⟩ := hb
          show if j = id then _ else _
          rw [if_neg (fun h => by subst h; rw [Nat.beq_refl] at hj; cases hj)]
          exact hQ _ _ _ ⟨rfl, hb⟩
      | ret t1 d1 st1 =>
        rw [hx] at hne hfree hQ
        refine two x _ .no (hnd) (by rw [hx]; simp) (by rw [hx]; exact hfree) fun e a' w' hb => ?_
        rw [hx] at hb
        obtain rfl := hb.1
        exact hQ _ _ _ hb
      | pan v t1 d1 st1 =>
        rw [hx] at hne hfree hQ
        refine two x _ .no (hnd) (by rw [hx]; simp) (by rw [hx]; exact hfree) fun e a' w' hb => ?_
        rw [hx] at hb
        have hb' := hb
        obtain ⟨_, _, rfl, _⟩ := hb'
        exact hQ _ _ _ hb
    case loop x =>
      unfold xloop at hne hfree hQ
      refine loop_in ?_
      cases hx : xcode P okT call N n x t d st with
      | no => rw [hx] at hne; exact absurd rfl hne
      | norm t1 d1 st1 =>
        rw [hx] at hne hfree hQ
        have hm1 := mono (.loop x) t1 d1 st1
        refine two x _ .no (hnd) (by rw [hx]; simp) (by rw [hx]; exact hfree.below hne hm1) fun e a' w' hb => ?_
        rw [hx] at hb
        obtain ⟨rfl, σ', hs, ht', hd'⟩ := hb
        exact ih (.loop x) t1 d1 st1 σ' a' w' Qe hnd hne (hfree.step hs) (hg.mono hs.le) hs.rep ht' hd' fun e a'' w'' hb => hQ e a'' w'' (hb.trans hs)
      | exit id t1 d1 st1 =>
        rw [hx] at hne hfree hQ
        refine two x _ .no (hnd) (by rw [hx]; simp) (by rw [hx]; exact hfree) fun e a' w' hb => ?_
        rw [hx] at hb
        obtain rfl := hb.1
        exact hQ _ _ _ hb
      | ret t1 d1 st1 =>
        rw [hx] at hne hfree hQ
        refine two x _ .no (hnd) (by rw [hx]; simp) (by rw [hx]; exact hfree) fun e a' w' hb => ?_
        rw [hx] at hb
        obtain rfl := hb.1
        exact hQ _ _ _ hb
      | pan v t1 d1 st1 =>
        rw [hx] at hne hfree hQ
        refine two x _ .no (hnd) (by rw [hx]; simp) (by rw [hx]; exact hfree) fun e a' w' hb => ?_
        rw [hx] at hb
        have hb' := hb
        obtain ⟨_, _, rfl, _⟩ := hb'
        exact hQ _ _ _ hb
    all_goals exact absurd rfl hne
end
end Go.Sx

/- Calls. No program. -/
namespace Go.Sx
set_option linter.unusedVariables false
set_option linter.unusedSimpArgs false

section
variable {P : Program} {okT : Nat → Bool} {σ : Env} {N : Nat}

/-! ### Results -/
theorem load_var {h : Hp} {w : World} (hr : Rep σ h w) {T n k : Nat} {ag : Bool} {id off : Nat} {e : Eff} (hag : isAgg P T = some ag) (hn : sizeOf P T = some n)
    (hk : ag = true → k = n) (he : runLoad (h id) off k ag = some e) {x : Value} (hd : den σ (.ptr id off) = some x) : ∃ u, den σ e.val = some u ∧ (do loadVar T (← asAddr x)).run P w = .ok u w := by
  simp only [den, Option.map_eq_some_iff] at hd
  obtain ⟨l, hl, rfl⟩ := hd
  cases ag with
  | true =>
    obtain rfl := hk rfl
    simp only [runLoad] at he
    split at he
    · rename_i el sl c hg
      split at he
      · rename_i r hcut
        obtain rfl := Option.some.inj he
        have hb := hr.ok id _ hg
        obtain ⟨l', us, k1, k2, k3, k4, k5⟩ := hb.range hcut
        obtain rfl : l = l' := by rw [hl] at k1; exact Option.some.inj k1
        refine ⟨.agg us.toArray, by simp only [Eff.val, den, k2], ?_⟩
        have hlc : (loadCells ⟨l.blk, l.base + off, none⟩ k).run P w = .ok us.toArray w := by
          rw [← k3]
          exact run_loadCells_list w _ us (fun j v hv => by rw [Addr.add_mid]; exact k5 j v hv)
        simp only [asAddr, Sem.run_bind, Sem.run_pure, Result.andThen_ok, loadVar, run_isAgg hag, if_true, run_sizeOf hn, hlc]
      · cases he
    · cases he
  | false =>
    simp only [runLoad] at he
    split at he
    · rename_i el sl c hg
      split at he
      · rename_i v hcut
        obtain rfl := Option.some.inj he
        have hb := hr.ok id _ hg
        obtain ⟨l', u, k1, k2, k3, k4⟩ := hb.cell hcut
        obtain rfl : l = l' := by rw [hl] at k1; exact Option.some.inj k1
        refine ⟨u, k2, ?_⟩
        simp only [asAddr, Sem.run_bind, Sem.run_pure, Result.andThen_ok, loadVar, run_isAgg hag, Bool.false_eq_true, if_false, run_load, k4]
      · cases he
    · cases he

def resM (tmps : Array Value) : ResultVar → Sem Value
  | .tmp t => pure (tmps.getD t undef)
  | .cell a t => do loadVar t (← asAddr (tmps.getD a undef))

theorem res_run {t : Tr AV} {a : Act} {w : World} {st : St} (ht : TmpOK σ t N a) (hr : Rep σ st.get w) : ∀ {rs : List ResultVar} {vs : List AV}, resOf P t st rs = some vs → ∃ us, denL σ vs = some us ∧ us.length = vs.length ∧ (rs.mapM (resM a.tmps)).run P w = .ok us w
  | [], vs, h => by
    simp only [resOf] at h
    obtain rfl := Option.some.inj h
    exact ⟨[], rfl, rfl, rfl⟩
  | .tmp x :: l, vs, h => by
    simp only [resOf] at h
    split at h
    · rename_i vs' hvs
      obtain rfl := Option.some.inj h
      obtain ⟨us, h1, h2, h3⟩ := res_run ht hr hvs
      refine ⟨a.tmps.getD x undef :: us, ?_, by simp [h2], ?_⟩
      · simp only [denL, ht.val x, h1]
      · simp only [List.mapM_cons, resM, Sem.run_bind, Sem.run_pure, Result.andThen_ok, h3]
    · cases h
  | .cell c ty :: l, vs, h => by
    simp only [resOf] at h
    split at h
    · rename_i id off ag n vs' hp hag hn hvs
      split at h
      · rename_i e he
        obtain rfl := Option.some.inj h
        obtain ⟨us, h1, h2, h3⟩ := res_run ht hr hvs
        have hv := ht.val c
        rw [hp] at hv
        obtain ⟨u, k1, k2⟩ := load_var hr hag hn (fun h => by subst h; rfl) he hv
        refine ⟨u :: us, ?_, by simp [h2], ?_⟩
        · simp only [denL, k1, h1]
        · rw [List.mapM_cons, Sem.run_bind]
          rw [show (resM a.tmps (.cell c ty)).run P w = .ok u w from k2]
          simp only [Sem.run_bind, Sem.run_pure, Result.andThen_ok, h3]
      · cases h
    · cases h

theorem one_or {vs : List AV} {us : List Value} (h : denL σ vs = some us) : den σ (oneOr vs) = some (if h : us.toArray.size = 1 then us.toArray[0] else .tuple us.toArray) := by
  unfold oneOr
  split
  · rename_i v
    simp only [denL] at h
    cases hv : den σ v with
    | none => rw [hv] at h; cases h
    | some u =>
      rw [hv] at h
      obtain rfl := Option.some.inj h
      simp
  · rename_i hne
    have hl := denL_length h
    have : us.toArray.size ≠ 1 := by
      intro h1
      simp at h1
      rw [hl] at h1
      match vs, h1 with
      | [v], _ => exact hne v rfl
    rw [dif_neg this]
    simp only [den, h]

theorem results_ok {fn : Func} {t : Tr AV} {a : Act} {w : World} {st : St} (ht : TmpOK σ t N a) (hr : Rep σ st.get w) {vs : List AV} (h : resOf P t st fn.results.toList = some vs) : ∃ u, den σ (oneOr vs) = some u ∧ (results fn a.tmps).run P w = .ok u w := by
  obtain ⟨us, h1, h2, h3⟩ := res_run ht hr h
  refine ⟨_, one_or h1, ?_⟩
  have : (fn.results.mapM (resM a.tmps)).run P w = .ok us.toArray w := by
    rw [Array.mapM_eq_mapM_toList]
    rw [map_eq_pure_bind, Sem.run_bind, h3]
    rfl
  have e : results fn a.tmps = (fn.results.mapM (resM a.tmps) >>= fun vs => pure (if h : vs.size = 1 then vs[0] else .tuple vs)) := by
    unfold results
    congr 2
  rw [e, Sem.run_bind, this]
  rfl

/-! ### Arguments -/
theorem argsTr_get : ∀ (args : List AV) (i : Nat) (t : Tr AV) (x : Nat), getP (path x) (argsTr i args t) = if i ≤ x ∧ x < i + args.length then args[x - i]? else getP (path x) t
  | [], i, t, x => by
    have : ¬ (i ≤ x ∧ x < i + 0) := by omega
    simp only [argsTr, List.length_nil]
    rw [if_neg this]
  | v :: l, i, t, x => by
    simp only [argsTr]
    rw [argsTr_get l, get_put]
    by_cases h1 : x = i
    · subst h1
      rw [if_neg (by omega), if_pos rfl, if_pos (by simp)]
      simp
    · by_cases h2 : i ≤ x ∧ x < i + (v :: l).length
      · rw [if_pos (by simp at h2; omega), if_pos h2]
        have : x - i = (x - i.succ) + 1 := by omega
        rw [this, List.getElem?_cons_succ]
      · rw [if_neg (by simp at h2; omega), if_neg h1, if_neg h2]

theorem args_tmp {args : List AV} {us : List Value} (h : denL σ args = some us) (n : Nat) : TmpOK σ (argsTr 0 args .lf) n { tmps := us.toArray ++ Array.replicate (n - us.toArray.size) undef, defers := [] } := by
  have hl := denL_length h
  refine ⟨fun x => ?_, by simp; omega⟩
  rw [argsTr_get, getP_lf]
  rw [Array.getD_eq_getD_getElem?]
  by_cases hx : x < args.length
  · rw [if_pos (by omega)]
    obtain ⟨u, hu1, hu2⟩ := denL_get h x args[x] (List.getElem?_eq_getElem hx)
    simp only [Nat.sub_zero]
    rw [Array.getElem?_append_left (by simp; omega)]
    simp only [List.getElem?_toArray, hu1]
    rw [List.getElem?_eq_getElem hx]
    simpa using hu2
  · rw [if_neg (by omega)]
    rw [Array.getElem?_append_right (by simp; omega)]
    simp only [Array.getElem?_replicate]
    split <;> rfl
end
end Go.Sx

/- Deferred calls; bodies; calls. No program. -/
namespace Go.Sx
set_option linter.unusedVariables false
set_option linter.unusedSimpArgs false

section
variable {P : Program} {okT : Nat → Bool} {σ : Env} {N : Nat}

/-- The panic that is on its way. -/
def ModeOK (σ : Env) : Option AV → FrameMode → Prop
  | none, m => m = .returning
  | some v, m => ∃ u, m = .panicking [{ v := u, recovered := false }] ∧ den σ v = some u

theorem ModeOK.mono {σ σ' : Env} (h : σ.le σ') : ∀ {u : Option AV} {m : FrameMode}, ModeOK σ u m → ModeOK σ' u m
  | none, _, k => k
  | some v, _, ⟨u, k1, k2⟩ => ⟨u, k1, den_mono h _ _ k2⟩

/-- What a hook on a deferred call must keep. -/
structure DhGood (P : Program) (dhook : Dh) : Prop where
  ok : ∀ f vs u st u' st', dhook f vs u st = some (u', st') → ∀ (σ : Env) (w : World) (us : List Value) (m : FrameMode), Rep σ st.get w → GlobOK P σ → denL σ vs = some us → ModeOK σ u m →
    (∀ id, st.n ≤ id → id < st'.n → σ id = none) →
    CallsD P f us.toArray m w fun e m' w' => ∃ x, e = .returned x ∧ ∃ σ', Stp σ st.get st.n w σ' st'.get st'.n w' ∧ ModeOK σ' u' (settle m')
  mono : ∀ f vs u st u' st', dhook f vs u st = some (u', st') → st.n ≤ st'.n
  has : ∀ f vs u st r, dhook f vs u st = some r → ∃ fn c, nthL P.funcs.toList f = some fn ∧ fn.body = some c

theorem defer_mono {dhook : Dh} (hd : DhGood P dhook) : ∀ (d : Ds) (u : Option AV) (st : St) {u' : Option AV} {st' : St}, xdefer dhook d u st = some (u', st') → st.n ≤ st'.n
  | [], u, st, u', st', h => by
    simp only [xdefer, Option.some.injEq, Prod.mk.injEq] at h
    rw [← h.2]
    exact Nat.le_refl _
  | (f, vs) :: l, u, st, u', st', h => by
    simp only [xdefer] at h
    split at h
    · rename_i u1 st1 h1
      exact Nat.le_trans (hd.mono _ _ _ _ _ _ h1) (defer_mono hd l u1 st1 h)
    · cases h

theorem leaves_ok (hc : CallsOK P) {dhook : Dh} (hd : DhGood P dhook) {fn : Func} {tmps : Array Value} {R : Ending → World → Prop} : ∀ (d : Ds) (u : Option AV) (st : St) {u' : Option AV} {st' : St} {σ : Env} {w : World} {m : FrameMode} {defs : List Deferred},
    xdefer dhook d u st = some (u', st') → DefOK [] σ d defs → ModeOK σ u m → Rep σ st.get w → GlobOK P σ → (∀ id, st.n ≤ id → id < st'.n → σ id = none) →
    (∀ σ' w' m', Stp σ st.get st.n w σ' st'.get st'.n w' → ModeOK σ' u' m' → Leaves P fn tmps R [] m' w') → Leaves P fn tmps R defs m w
  | [], u, st, u', st', σ, w, m, defs, h, hds, hm, hr, hg, hf, hK => by
    cases hds
    simp only [xdefer, Option.some.injEq, Prod.mk.injEq] at h
    obtain ⟨rfl, rfl⟩ := h
    exact hK σ w m (Stp.refl hr) hm
  | (f, vs) :: l, u, st, u', st', σ, w, m, _ , h, hds, hm, hr, hg, hf, hK => by
    simp only [xdefer] at h
    split at h
    · rename_i u1 st1 h1
      obtain _ | ⟨ht, hv, hk⟩ := hds
      rename_i dd defs cap
      have hl1 := hd.mono _ _ _ _ _ _ h1
      have hl2 := defer_mono hd l u1 st1 h
      refine ⟨?_, .func f, cap, f, dd.args ++ cap, ht, ?_, ?_⟩
      · intro he
        subst he
        cases u with
        | none => cases hm
        | some v => obtain ⟨_, h, _⟩ := hm; cases h
      · obtain ⟨fn', c, h2, h3⟩ := hd.has _ _ _ _ _ h1
        rw [ht]
        exact hc f fn' c h2 h3 _ w
      · have hC := hd.ok f vs u st u1 st1 h1 σ w _ m hr hg hv hm (fun id h2 h3 => hf id h2 (by omega))
        intro c cs hcm
        obtain ⟨e, m', w', fr, hR, h2, h3, h4⟩ := hC c cs hcm
        obtain ⟨x, rfl, σ', hs, hm'⟩ := hR
        have h2' : Comes P (lone (Frame.enter P f (dd.args ++ cap) .deferred) (c :: cs) w) (lone fr ({ c with mode := m' } :: cs) w') (.returned x) := by
          rw [show (dd.args ++ cap : Array Value) = (dd.args ++ cap).toList.toArray from by simp]
          exact h2
        refine ⟨.returned x, m', w', fr, ?_, h2', h3, h4⟩
        refine leaves_ok hc hd l u1 st1 h (hk.mono hs.le) hm' hs.rep (hg.mono hs.le) (fun id h5 h6 => ?_) fun σ2 w2 m2 hs2 hm2 => hK σ2 w2 m2 (hs.trans hs2) hm2
        cases hq : σ' id with
        | none => rfl
        | some l =>
          rcases hs.dom id l hq with h | ⟨h7, h8⟩
          · rw [hf id (by omega) h6] at h; cases h
          · omega
    · cases h

/-- Who leaves with what. -/
theorem xfin_mono {dhook : Dh} (hd : DhGood P dhook) (rs : List ResultVar) (u : Option AV) (t : Tr AV) (d : Ds) (st : St) : (xfin P dhook rs u t d st).ge st.n := by
  unfold xfin
  split
  · rename_i st' h
    unfold xres
    split
    · exact defer_mono hd d u st h
    · trivial
  · rename_i v st' h
    exact defer_mono hd d u st h
  · trivial

/-- What stands behind a call. -/
def BehindC (σ : Env) (h : Hp) (n : Nat) (w : World) : Ro → Ending → World → Prop
  | .no, _, _ => True
  | .ret v st, e, w' => ∃ σ' u, e = .returned u ∧ den σ' v = some u ∧ Stp σ h n w σ' st.get st.n w'
  | .pan v st, e, w' => ∃ σ' u, e = .panicked [{ v := u, recovered := false }] ∧ den σ' v = some u ∧ Stp σ h n w σ' st.get st.n w'

def FreeC (σ : Env) (n : Nat) : Ro → Prop
  | .no => True
  | .ret _ st => ∀ id, n ≤ id → id < st.n → σ id = none
  | .pan _ st => ∀ id, n ≤ id → id < st.n → σ id = none

theorem FreeC.step {σ σ1 : Env} {h h1 : Hp} {n n1 : Nat} {w w1 : World} (s : Stp σ h n w σ1 h1 n1 w1) {r : Ro} (k : FreeC σ n r) : FreeC σ1 n1 r := by
  have key : ∀ m, (∀ id, n ≤ id → id < m → σ id = none) → ∀ id, n1 ≤ id → id < m → σ1 id = none := by
    intro m hm id h1 h2
    cases hq : σ1 id with
    | none => rfl
    | some l =>
      rcases s.dom id l hq with h | ⟨h3, h4⟩
      · rw [hm id (Nat.le_trans s.nle h1) h2] at h; cases h
      · omega
  cases r with
  | no => trivial
  | ret _ st => exact key _ k
  | pan _ st => exact key _ k

theorem FreeC.below {σ : Env} {n m : Nat} {r : Ro} (k : FreeC σ n r) (hne : r ≠ .no) (hm : r.ge m) : ∀ id, n ≤ id → id < m → σ id = none := by
  cases r with
  | no => exact absurd rfl hne
  | ret _ st => exact fun id h1 h2 => k id h1 (Nat.lt_of_lt_of_le h2 hm)
  | pan _ st => exact fun id h1 h2 => k id h1 (Nat.lt_of_lt_of_le h2 hm)

theorem BehindC.trans {σ σ1 : Env} {h h1 : Hp} {n n1 : Nat} {w w1 : World} (s : Stp σ h n w σ1 h1 n1 w1) : ∀ {r : Ro} {e : Ending} {w' : World}, BehindC σ1 h1 n1 w1 r e w' → BehindC σ h n w r e w'
  | .no, _, _, _ => trivial
  | .ret v st, e, w', ⟨σ', u, h1, h2, h3⟩ => ⟨σ', u, h1, h2, s.trans h3⟩
  | .pan v st, e, w', ⟨σ', u, h1, h2, h3⟩ => ⟨σ', u, h1, h2, s.trans h3⟩

theorem xfin_ok (hc : CallsOK P) {dhook : Dh} (hd : DhGood P dhook) {fn : Func} {u : Option AV} {t : Tr AV} {d : Ds} {st : St} {a : Act} {w : World} {m : FrameMode}
    (hne : xfin P dhook fn.results.toList u t d st ≠ .no) (hfree : FreeC σ st.n (xfin P dhook fn.results.toList u t d st)) (hg : GlobOK P σ) (hr : Rep σ st.get w) (ht : TmpOK σ t N a) (hds : DefOK [] σ d a.defers) (hm : ModeOK σ u m)
    {R : Ending → World → Prop} (hR : ∀ e w', BehindC σ st.get st.n w (xfin P dhook fn.results.toList u t d st) e w' → R e w') : Leaves P fn a.tmps R a.defers m w := by
  unfold xfin at hne hfree hR
  cases hx : xdefer dhook d u st with
  | none => rw [hx] at hne; exact absurd rfl hne
  | some q =>
    obtain ⟨u', st'⟩ := q
    rw [hx] at hne hfree hR
    cases u' with
    | none =>
      simp only at hne hfree hR
      unfold xres at hne hfree hR
      cases hv : resOf P t st' fn.results.toList with
      | none => rw [hv] at hne; exact absurd rfl hne
      | some vs =>
        rw [hv] at hfree hR
        refine leaves_ok hc hd d u st hx hds hm hr hg hfree fun σ' w' m' hs hm' => ?_
        obtain rfl : m' = .returning := hm'
        obtain ⟨x, h1, h2⟩ := results_ok (ht.mono hs.le) hs.rep hv
        exact ⟨x, h2, hR _ _ ⟨σ', x, rfl, h1, hs⟩⟩
    | some v =>
      simp only at hne hfree hR
      refine leaves_ok hc hd d u st hx hds hm hr hg hfree fun σ' w' m' hs hm' => ?_
      obtain ⟨x, rfl, h2⟩ := hm'
      exact hR _ _ ⟨σ', x, rfl, h2, hs⟩

/-- A function's body. -/
theorem fnOf_ok {f n : Nat} {c : Code} {rs : List ResultVar} (h : fnOf P f = some (n, c, rs)) : ∃ fn, nthL P.funcs.toList f = some fn ∧ P.funcs[f]? = some fn ∧ fn.body = some c ∧ fn.ntmps = n ∧ fn.results.toList = rs := by
  unfold fnOf at h
  split at h
  · rename_i fn hfn
    split at h
    · rename_i c' hc
      obtain ⟨rfl, rfl, rfl⟩ : fn.ntmps = n ∧ c' = c ∧ fn.results.toList = rs := by simpa using h
      refine ⟨fn, hfn, ?_, hc, rfl, rfl⟩
      rw [nthL_eq] at hfn
      rw [← Array.getElem?_toList]
      exact hfn
    · cases h
  · cases h

theorem leave_mono {dhook : Dh} (hd : DhGood P dhook) (rs : List ResultVar) {n : Nat} {r : Rs} (h : r.ge n) : (xleave P dhook rs r).ge n := by
  cases r with
  | no => trivial
  | norm t d st => exact Ro.ge.trans h (xfin_mono hd _ _ _ _ _)
  | exit id t d st => trivial
  | ret t d st => exact Ro.ge.trans h (xfin_mono hd _ _ _ _ _)
  | pan v t d st => exact Ro.ge.trans h (xfin_mono hd _ _ _ _ _)

theorem body_mono {dhook : Dh} (hd : DhGood P dhook) {call : Nat → List AV → St → Ro} (hc : CallMono call) (rounds f : Nat) (args : List AV) (st : St) : (xbody P okT dhook call rounds f args st).ge st.n := by
  unfold xbody
  split
  · exact leave_mono hd _ (code_mono hc _ _ _ _ _)
  · trivial

theorem body_ok (hk : OkT P okT) (hc : CallsOK P) (hm : P.follows .mixedOrders = true) {dhook : Dh} (hd : DhGood P dhook) {call : Nat → List AV → St → Ro} (hgood : CallGood P call) {rounds f : Nat} {args : List AV} {st : St} {w : World} {us : List Value}
    (hr : Rep σ st.get w) (hg : GlobOK P σ) (hargs : denL σ args = some us) (hne : xbody P okT dhook call rounds f args st ≠ .no) (hfree : FreeC σ st.n (xbody P okT dhook call rounds f args st)) :
    Calls P f us.toArray w (BehindC σ st.get st.n w (xbody P okT dhook call rounds f args st)) := by
  unfold xbody at hne hfree ⊢
  cases hf : fnOf P f with
  | none => rw [hf] at hne; exact absurd rfl hne
  | some q =>
    obtain ⟨n, c, rs⟩ := q
    rw [hf] at hne hfree
    simp only at hne hfree ⊢
    obtain ⟨fn, h1, h2, h3, rfl, rfl⟩ := fnOf_ok hf
    refine calls_of_wp_defers h2 h3 ?_
    have ht := args_tmp hargs fn.ntmps
    have hlm : ∀ t d st', (xfin P dhook fn.results.toList none t d st').ge st'.n := fun t d st' => xfin_mono hd _ _ _ _ _
    have run : xcode P okT call fn.ntmps rounds c (argsTr 0 args .lf) [] st ≠ .no → Free σ st.n (xcode P okT call fn.ntmps rounds c (argsTr 0 args .lf) [] st) →
        (∀ e a' w', Behind [] σ st.get st.n w fn.ntmps (xcode P okT call fn.ntmps rounds c (argsTr 0 args .lf) [] st) e a' w' → bodyPostD P fn (BehindC σ st.get st.n w (xleave P dhook fn.results.toList (xcode P okT call fn.ntmps rounds c (argsTr 0 args .lf) [] st))) e a' w') →
        c.wp P (bodyPostD P fn (BehindC σ st.get st.n w (xleave P dhook fn.results.toList (xcode P okT call fn.ntmps rounds c (argsTr 0 args .lf) [] st)))) { tmps := us.toArray ++ Array.replicate (fn.ntmps - us.toArray.size) undef, defers := [] } w :=
      fun k1 k2 k3 => (wpIn_wide (n := 0)).1 (wpl_xcode (ro := none) hk hc hm hgood rounds c _ [] st σ _ w _ (Or.inl rfl) k1 k2 hg hr ht .nil k3).wp
    cases hx : xcode P okT call fn.ntmps rounds c (argsTr 0 args .lf) [] st with
    | no => rw [hx] at hne; exact absurd rfl hne
    | exit id t d st1 => rw [hx] at hne; exact absurd rfl hne
    | norm t d st1 =>
      rw [hx] at hne hfree run
      simp only [xleave] at hne hfree run ⊢
      refine run (by simp) (hfree.below hne (hlm t d st1)) fun e a' w' hb => ?_
      obtain ⟨rfl, σ', hs, ht', hd'⟩ := hb
      exact xfin_ok hc hd hne (hfree.step hs) (hg.mono hs.le) hs.rep ht' hd' rfl fun e w'' hb => hb.trans hs
    | ret t d st1 =>
      rw [hx] at hne hfree run
      simp only [xleave] at hne hfree run ⊢
      refine run (by simp) (hfree.below hne (hlm t d st1)) fun e a' w' hb => ?_
      obtain ⟨rfl, σ', hs, ht', hd'⟩ := hb
      exact xfin_ok hc hd hne (hfree.step hs) (hg.mono hs.le) hs.rep ht' hd' rfl fun e w'' hb => hb.trans hs
    | pan v t d st1 =>
      rw [hx] at hne hfree run
      simp only [xleave] at hne hfree run ⊢
      refine run (by simp) (hfree.below hne (xfin_mono hd _ _ _ _ _)) fun e a' w' hb => ?_
      obtain ⟨σ', u, rfl, hu, hs, ht', hd'⟩ := hb
      exact xfin_ok hc hd hne (hfree.step hs) (hg.mono hs.le) hs.rep ht' hd' ⟨u, rfl, hu⟩ fun e w'' hb => hb.trans hs

/-! ### Calls, one within another -/
/-- What a hook on a call must keep. -/
structure HkGood (P : Program) (hook : Hk) : Prop where
  ok : ∀ f args st r, hook f args st = some r → r ≠ .no → ∀ (σ : Env) (w : World) (us : List Value), Rep σ st.get w → GlobOK P σ → denL σ args = some us → FreeC σ st.n r → Calls P f us.toArray w (BehindC σ st.get st.n w r)
  mono : ∀ f args st r, hook f args st = some r → r.ge st.n
  has : ∀ f args st r, hook f args st = some r → ∃ fn c, nthL P.funcs.toList f = some fn ∧ fn.body = some c

theorem HkGood.nil : HkGood P (fun _ _ _ => none) := ⟨(fun _ _ _ _ h => by cases h), (fun _ _ _ _ h => by cases h), (fun _ _ _ _ h => by cases h)⟩
theorem DhGood.nil : DhGood P (fun _ _ _ _ => none) := ⟨(fun _ _ _ _ _ _ h => by cases h), (fun _ _ _ _ _ _ h => by cases h), (fun _ _ _ _ _ h => by cases h)⟩

theorem CallGood.of {call : Nat → List AV → St → Ro} (h : ∀ f args st, call f args st ≠ .no → ∀ (σ : Env) (w : World) (us : List Value), Rep σ st.get w → GlobOK P σ → denL σ args = some us → FreeC σ st.n (call f args st) → Calls P f us.toArray w (BehindC σ st.get st.n w (call f args st)))
    (hm : CallMono call) (hh : ∀ f args st, call f args st ≠ .no → ∃ fn c, nthL P.funcs.toList f = some fn ∧ fn.body = some c) : CallGood P call := by
  refine ⟨fun f args st σ w us hr hg hu => ⟨fun v st' hres hfree => ?_, fun v st' hres hfree => ?_⟩, hm, hh⟩
  · have := h f args st (by rw [hres]; simp) σ w us hr hg hu (by rw [hres]; exact hfree)
    rw [hres] at this
    exact this
  · have := h f args st (by rw [hres]; simp) σ w us hr hg hu (by rw [hres]; exact hfree)
    rw [hres] at this
    exact this

theorem call_good (hk : OkT P okT) (hc : CallsOK P) (hm : P.follows .mixedOrders = true) {hook : Hk} {dhook : Dh} (hh : HkGood P hook) (hd : DhGood P dhook) (rounds : Nat) : ∀ n, CallGood P (xcall P okT hook dhook rounds n)
  | 0 => CallGood.of (fun f args st h => absurd rfl h) (fun f args st => trivial) (fun f args st h => absurd rfl h)
  | n + 1 => by
    have ih := call_good hk hc hm hh hd rounds n
    have unf : ∀ f args st, xcall P okT hook dhook rounds (n + 1) f args st = Option.rec (motive := fun _ => Ro) (xbody P okT dhook (xcall P okT hook dhook rounds n) rounds f args st) (fun r => r) (hook f args st) := fun _ _ _ => rfl
    refine CallGood.of (fun f args st hne σ w us hr hg hu hfree => ?_) (fun f args st => ?_) (fun f args st hne => ?_)
    · rw [unf] at hne hfree ⊢
      cases hq : hook f args st with
      | none =>
        rw [hq] at hne hfree
        exact body_ok hk hc hm hd ih hr hg hu hne hfree
      | some r =>
        rw [hq] at hne hfree
        exact hh.ok f args st r hq hne σ w us hr hg hu hfree
    · rw [unf]
      cases hq : hook f args st with
      | none => exact body_mono hd ih.mono _ _ _ _
      | some r => exact hh.mono f args st r hq
    · rw [unf] at hne
      cases hq : hook f args st with
      | none =>
        rw [hq] at hne
        have hne : xbody P okT dhook (xcall P okT hook dhook rounds n) rounds f args st ≠ .no := hne
        unfold xbody at hne
        cases hf : fnOf P f with
        | none => rw [hf] at hne; exact absurd rfl hne
        | some q =>
          obtain ⟨n', c, rs⟩ := q
          obtain ⟨fn, h1, h2, h3, _⟩ := fnOf_ok hf
          exact ⟨fn, c, h1, h3⟩
      | some r => exact hh.has f args st r hq

/-- THE LAW OF THE MACHINE: what its run says of a call is so. -/
theorem calls_of_run (hk : OkT P okT) (hc : CallsOK P) (hm : P.follows .mixedOrders = true) {hook : Hk} {dhook : Dh} (hh : HkGood P hook) (hd : DhGood P dhook) {rounds n f : Nat} {args : List AV} {st : St} {r : Ro} (hrun : xcall P okT hook dhook rounds n f args st = r)
    {w : World} {us : List Value} (hr : Rep σ st.get w) (hg : GlobOK P σ) (hargs : denL σ args = some us) (hne : r ≠ .no) (hfree : FreeC σ st.n r) : Calls P f us.toArray w (BehindC σ st.get st.n w r) := by
  subst hrun
  have h := (call_good hk hc hm hh hd rounds n).ok f args st σ w us hr hg hargs
  cases hx : xcall P okT hook dhook rounds n f args st with
  | no => exact absurd hx hne
  | ret v st' => rw [hx] at hfree; exact h.1 v st' hx hfree
  | pan v st' => rw [hx] at hfree; exact h.2 v st' hx hfree
end
end Go.Sx

/- Calls that were worked out one by one: hooks. No program. -/
namespace Go.Sx
open Go.RowKit Classical
set_option linter.unusedVariables false
set_option linter.unusedSimpArgs false

/-- Blocks that are read alone stay. -/
theorem Stp.addRo {σ : Env} {g : Hp} {n : Nat} {w : World} {σ' : Env} {g1 : Hp} {n' : Nat} {w' : World} (s : Stp σ g n w σ' g1 n' w') (hg : Rep σ g w) (hn : roN ≤ n) {g' : Hp} (h1 : ∀ id b, g' id = some b → g1 id = some b ∨ (id < roN ∧ g id = some b)) :
    Stp σ g n w σ' g' n' w' := by
  have old : ∀ id b l, g id = some b → σ' id = some l → σ id = some l := by
    intro id b l e hl
    obtain ⟨l0, o, h, _⟩ := hg.ok id b e
    have := s.le _ _ h
    rw [hl] at this
    rw [h, this]
  have far : ∀ i j b c l m, g i = some b → i < roN → σ' i = some l → g1 j = some c → σ' j = some m → l.blk = m.blk → i = j := by
    intro i j b c l m e1 hi e3 e2 e4 e5
    have hl := old i b l e1 e3
    rcases Nat.lt_or_ge j roN with hj | hj
    · rcases s.ids j c e2 with ⟨d, hd⟩ | ⟨h2, _⟩
      · exact hg.inj i j b d l m e1 hd hl (old j d m hd e4) e5
      · omega
    · rcases s.footW j c m hj e2 e4 with h | ⟨k, d, q, h2, h3, h4, h5⟩
      · have := hg.lt e1 hl; omega
      · have := hg.inj i k b d l q e1 h3 hl h4 (e5.trans h5.symm)
        omega
  refine ⟨s.nle, s.le, s.dom, ⟨fun id b e => ?_, fun i j b c l m e1 e2 e3 e4 e5 => ?_⟩, s.only, fun id b l e hl => ?_, fun id b l hro e hl => ?_, fun id b e => ?_⟩
  · rcases h1 id b e with k | ⟨k1, k2⟩
    · exact s.rep.ok id b k
    · refine ((hg.ok id b k2).only s.only fun l hl hh => ?_).mono s.le
      obtain ⟨j, c, m, h2, h3, h4, h5⟩ := hh
      have := hg.inj id j b c l m k2 h3 hl h4 h5.symm
      omega
  · rcases h1 i b e1 with k | ⟨k1, k2⟩
    · rcases h1 j c e2 with q | ⟨q1, q2⟩
      · exact s.rep.inj i j b c l m k q e3 e4 e5
      · exact (far j i c b m l q2 q1 e4 k e3 e5.symm).symm
    · rcases h1 j c e2 with q | ⟨q1, q2⟩
      · exact far i j b c l m k2 k1 e3 q e4 e5
      · exact hg.inj i j b c l m k2 q2 (old i b l k2 e3) (old j c m q2 e4) e5
  · rcases h1 id b e with k | ⟨k1, k2⟩
    · exact s.foot id b l k hl
    · exact Or.inr ⟨id, b, l, k2, old id b l k2 hl, rfl⟩
  · rcases h1 id b e with k | ⟨k1, k2⟩
    · exact s.footW id b l hro k hl
    · omega
  · rcases h1 id b e with k | ⟨k1, k2⟩
    · exact s.ids id b k
    · exact Or.inl ⟨b, k2⟩

noncomputable section
/-- A call that was worked out: the function, the arguments, the blocks that it asks, the names from n on; what comes of it: the value, the blocks that are told of, the names from n' on. -/
structure Inst where
  f : Nat
  args : List AV
  n : Nat
  ro : List (Nat × Cont)
  small : List (Nat × Blk)
  v : AV
  kept : List (Nat × Blk)
  n' : Nat

def putsL : List (Nat × Blk) → Tr Blk → Tr Blk
  | [], h => h
  | (id, b) :: l, h => putP (some b) (path id) (putsL l h)

def dropsL : List (Nat × Blk) → Tr Blk → Tr Blk
  | [], h => h
  | (id, _) :: l, h => putP none (path id) (dropsL l h)

def subB (l : List (Nat × Blk)) (st : St) : Bool := l.all fun p => sameB (st.get p.1) (some p.2)

/-- The variables' blocks; E: their elements' types. -/
def roL (E : Nat → Nat) : List (Nat × Cont) → List (Nat × Blk)
  | [] => []
  | (id, c) :: l => (id, .mk (E id) 0 c) :: roL E l

def roB (l : List (Nat × Cont)) (st : St) : Bool := l.all fun p => match st.get p.1 with
  | some (.mk _ s c) => Nat.beq s 0 && c.beq p.2
  | none => false

def elOf (st : St) (id : Nat) : Nat := match st.get id with
  | some (.mk e _ _) => e
  | none => 0

def Inst.st0 (i : Inst) (E : Nat → Nat) : St := .mk (putsL i.small (putsL (roL E i.ro) .lf)) i.n

def Inst.chk (i : Inst) (r : Ro) : Bool :=
  match r with
  | .ret v st => AV.beq v i.v && Nat.beq st.n i.n' && subB i.kept st
  | _ => false

def Inst.hook (i : Inst) : Hk := fun f args st =>
  bif Nat.beq f i.f && (Nat.beq st.n i.n && (AV.beqL args i.args && (subB i.small st && roB i.ro st))) then some (.ret i.v (.mk (putsL i.kept (dropsL i.small st.h)) i.n')) else none

def hooksL : List Inst → Hk
  | [] => fun _ _ _ => none
  | i :: l => fun f args st => match i.hook f args st with
    | some r => some r
    | none => hooksL l f args st

theorem putsL_get : ∀ (l : List (Nat × Blk)) (h : Tr Blk) (id : Nat) (b : Blk), getP (path id) (putsL l h) = some b → (id, b) ∈ l ∨ (getP (path id) h = some b ∧ ∀ c, (id, c) ∉ l)
  | [], h, id, b, e => Or.inr ⟨e, by simp⟩
  | (j, c) :: l, h, id, b, e => by
    simp only [putsL] at e
    rw [get_put] at e
    by_cases hj : id = j
    · subst hj
      rw [if_pos rfl] at e
      obtain rfl := Option.some.inj e
      exact Or.inl (List.mem_cons_self ..)
    · rw [if_neg hj] at e
      rcases putsL_get l h id b e with h1 | ⟨h1, h2⟩
      · exact Or.inl (List.mem_cons_of_mem _ h1)
      · refine Or.inr ⟨h1, fun d hd => ?_⟩
        rcases List.mem_cons.1 hd with hd | hd
        · exact hj (congrArg Prod.fst hd)
        · exact h2 d hd

theorem dropsL_get : ∀ (l : List (Nat × Blk)) (h : Tr Blk) (id : Nat) (b : Blk), getP (path id) (dropsL l h) = some b → getP (path id) h = some b ∧ ∀ c, (id, c) ∉ l
  | [], h, id, b, e => ⟨e, by simp⟩
  | (j, c) :: l, h, id, b, e => by
    simp only [dropsL] at e
    rw [get_put] at e
    by_cases hj : id = j
    · rw [if_pos hj] at e; cases e
    · rw [if_neg hj] at e
      obtain ⟨h1, h2⟩ := dropsL_get l h id b e
      refine ⟨h1, fun d hd => ?_⟩
      rcases List.mem_cons.1 hd with hd | hd
      · exact hj (congrArg Prod.fst hd)
      · exact h2 d hd

theorem subB_ok {l : List (Nat × Blk)} {st : St} (h : subB l st = true) : ∀ id b, (id, b) ∈ l → st.get id = some b := fun id b hm => sameB_eq (List.all_eq_true.1 h (id, b) hm)

theorem roL_mem (E : Nat → Nat) : ∀ {l : List (Nat × Cont)} {id : Nat} {b : Blk}, (id, b) ∈ roL E l → ∃ c, (id, c) ∈ l ∧ b = .mk (E id) 0 c
  | (j, c) :: l, id, b, h => by
    rcases List.mem_cons.1 h with h | h
    · injection h with h1 h2
      subst h1; subst h2
      exact ⟨c, List.mem_cons_self .., rfl⟩
    · obtain ⟨d, h1, h2⟩ := roL_mem E h
      exact ⟨d, List.mem_cons_of_mem _ h1, h2⟩

theorem roB_ok {l : List (Nat × Cont)} {st : St} (h : roB l st = true) : ∀ id c, (id, c) ∈ l → st.get id = some (.mk (elOf st id) 0 c) := by
  intro id c hm
  have := List.all_eq_true.1 h (id, c) hm
  simp only at this
  unfold elOf
  cases hq : st.get id with
  | none => rw [hq] at this; cases this
  | some b =>
    obtain ⟨e, s, d⟩ := b
    rw [hq] at this
    simp only at this ⊢
    obtain ⟨h1, h2⟩ := and3 this
    rw [nbeq h1, Cont.beq_eq h2]

theorem st0_get (i : Inst) (E : Nat → Nat) {id : Nat} {b : Blk} (e : (i.st0 E).get id = some b) : (id, b) ∈ i.small ∨ ((∀ c, (id, c) ∉ i.small) ∧ ∃ c, (id, c) ∈ i.ro ∧ b = .mk (E id) 0 c) := by
  rcases putsL_get i.small _ id b e with h | ⟨h, hn⟩
  · exact Or.inl h
  · rcases putsL_get _ .lf id b h with h | ⟨h, _⟩
    · exact Or.inr ⟨hn, roL_mem E h⟩
    · rw [getP_lf] at h; cases h

section
variable {P : Program} {okT : Nat → Bool}

theorem inst_good (hk : OkT P okT) (hc : CallsOK P) (hm : P.follows .mixedOrders = true) {hook : Hk} {dhook : Dh} (hh : HkGood P hook) (hd : DhGood P dhook) {rounds k : Nat} (i : Inst) (hn : Nat.ble roN i.n = true) (hro0 : (i.ro.all fun p => Nat.blt p.1 roN) = true) (run : ∀ E, i.chk (xcall P okT hook dhook rounds k i.f i.args (i.st0 E)) = true) : HkGood P i.hook := by
  have hgood := call_good (okT := okT) hk hc hm hh hd rounds k
  have one : ∀ E, ∃ st1, xcall P okT hook dhook rounds k i.f i.args (i.st0 E) = .ret i.v st1 ∧ st1.n = i.n' ∧ (∀ id b, (id, b) ∈ i.kept → st1.get id = some b) ∧ i.n ≤ st1.n := by
    intro E
    have run := run E
    cases hr : xcall P okT hook dhook rounds k i.f i.args (i.st0 E) with
    | no => rw [hr] at run; cases run
    | pan v st => rw [hr] at run; cases run
    | ret v st1 =>
      rw [hr] at run
      simp only [Inst.chk] at run
      obtain ⟨run, r3⟩ := and3 run
      obtain ⟨r1, r2⟩ := and3 run
      have e1 := AV.beq_eq _ _ r1
      have hmono := hgood.mono i.f i.args (i.st0 E)
      rw [hr] at hmono
      exact ⟨st1, by rw [e1], nbeq r2, subB_ok r3, hmono⟩
  have key : ∀ f args st r, i.hook f args st = some r → f = i.f ∧ st.n = i.n ∧ args = i.args ∧ subB i.small st = true ∧ roB i.ro st = true ∧ r = .ret i.v (.mk (putsL i.kept (dropsL i.small st.h)) i.n') := by
    intro f args st r h
    simp only [Inst.hook, cond_eq_ite] at h
    split at h
    · rename_i hb
      obtain ⟨h1, hb⟩ := and3 hb
      obtain ⟨h2, hb⟩ := and3 hb
      obtain ⟨h3, h4⟩ := and3 hb
      obtain ⟨h4, h5⟩ := and3 h4
      exact ⟨nbeq h1, nbeq h2, AV.beqL_eq _ _ h3, h4, h5, (Option.some.inj h).symm⟩
    · cases h
  refine ⟨fun f args st r h hne σ w us hrep hg hu hfree => ?_, fun f args st r h => ?_, fun f args st r h => ?_⟩
  · obtain ⟨k1, k2, k3, k4, k6, k5⟩ := key f args st r h
    subst k1; subst k3; subst k5
    have hs := subB_ok k4
    have hro := roB_ok k6
    obtain ⟨st1, hr, e2, e3, hmono⟩ := one (elOf st)
    have hsub : ∀ id b, (i.st0 (elOf st)).get id = some b → st.get id = some b := fun id b e => by
      rcases st0_get i _ e with h | ⟨_, c, h1, h2⟩
      · exact hs id b h
      · rw [h2]; exact hro id c h1
    have hfree' : ∀ id, i.n ≤ id → id < st1.n → σ id = none := fun id h1 h2 => hfree id (by rw [k2]; exact h1) (by rw [e2] at h2; exact h2)
    have hC := (hgood.ok i.f i.args (i.st0 (elOf st)) σ w us (hrep.sub hsub) hg hu).1 _ st1 hr hfree'
    refine Calls.mono hC ?_
    rintro e w' ⟨σ', u, rfl, hv, hstp⟩
    refine ⟨σ', u, rfl, hv, ?_⟩
    have hstp : Stp σ (i.st0 (elOf st)).get i.n w σ' st1.get st1.n w' := hstp
    rw [k2]
    show Stp σ st.get i.n w σ' (St.mk (putsL i.kept (dropsL i.small st.h)) i.n').get i.n' w'
    rw [← e2]
    have hs2 := hstp.frame (g' := fun id => if (∃ c, (id, c) ∈ i.ro) ∧ (∀ b, (id, b) ∉ i.kept) then none else getP (path id) (putsL i.kept (dropsL i.small st.h))) hrep hsub (fun id h1 h2 => by
      cases hq : st.get id with
      | none => rfl
      | some b =>
        exfalso
        obtain ⟨l, _, hl, _⟩ := hrep.ok id b hq
        rw [hfree' id h1 h2] at hl; cases hl) (fun id b hb => by
      split at hb
      · cases hb
      · rename_i hc
        rcases putsL_get _ _ id b hb with h1 | ⟨h1, h2⟩
        · exact Or.inl (e3 id b h1)
        · obtain ⟨h3, h4⟩ := dropsL_get _ _ id b h1
          refine Or.inr ⟨?_, h3⟩
          cases hq : (i.st0 (elOf st)).get id with
          | none => rfl
          | some d =>
            exfalso
            rcases st0_get i _ hq with h | ⟨_, c, h5, _⟩
            · exact h4 d h
            · exact hc ⟨⟨c, h5⟩, h2⟩)
    refine hs2.addRo hrep (Nat.le_of_ble_eq_true hn) fun id b hb => ?_
    have hb : getP (path id) (putsL i.kept (dropsL i.small st.h)) = some b := hb
    by_cases hc : (∃ c, (id, c) ∈ i.ro) ∧ (∀ b, (id, b) ∉ i.kept)
    · refine Or.inr ⟨?_, ?_⟩
      · obtain ⟨⟨c, h⟩, _⟩ := hc
        exact blt_of (List.all_eq_true.1 hro0 (id, c) h)
      · rcases putsL_get _ _ id b hb with h1 | ⟨h1, h2⟩
        · exact absurd h1 (hc.2 b)
        · exact (dropsL_get _ _ id b h1).1
    · exact Or.inl (by rw [if_neg hc]; exact hb)
  · obtain ⟨k1, k2, k3, k4, k6, k5⟩ := key f args st r h
    subst k5
    show st.n ≤ i.n'
    obtain ⟨st1, hr, e2, e3, hmono⟩ := one (elOf st)
    rw [k2, ← e2]
    exact hmono
  · obtain ⟨k1, k2, k3, k4, k6, k5⟩ := key f args st r h
    subst k1
    obtain ⟨st1, hr, e2, e3, hmono⟩ := one (elOf st)
    exact hgood.has i.f i.args (i.st0 (elOf st)) (by rw [hr]; simp)

theorem hooks_good : ∀ {l : List Inst}, (∀ i ∈ l, HkGood P i.hook) → HkGood P (hooksL l)
  | [], _ => HkGood.nil
  | i :: l, h => by
    have h1 := h i (List.mem_cons_self ..)
    have h2 : HkGood P (hooksL l) := hooks_good fun j hj => h j (List.mem_cons_of_mem _ hj)
    have key : ∀ f args st r, hooksL (i :: l) f args st = some r → i.hook f args st = some r ∨ hooksL l f args st = some r := by
      intro f args st r e
      simp only [hooksL] at e
      split at e
      · rename_i r' hr'
        rw [← e]
        exact Or.inl hr'
      · exact Or.inr e
    refine ⟨fun f args st r e => ?_, fun f args st r e => ?_, fun f args st r e => ?_⟩
    · rcases key f args st r e with e | e
      · exact h1.ok f args st r e
      · exact h2.ok f args st r e
    · rcases key f args st r e with e | e
      · exact h1.mono f args st r e
      · exact h2.mono f args st r e
    · rcases key f args st r e with e | e
      · exact h1.has f args st r e
      · exact h2.has f args st r e

/-- The names ahead of all: the program's variables. -/
def env0 (P : Program) : Env := fun g => if g < P.globals.size then some ⟨g, 0, 0⟩ else none

theorem glob0 (P : Program) : GlobOK P (env0 P) := fun g hg => ⟨0, by simp [env0, hg]⟩

/-- A call that asks nothing but variables: whatever the world, it comes back with v, and nothing has turned. -/
theorem calls_closed (hk : OkT P okT) (hc : CallsOK P) (hm : P.follows .mixedOrders = true) {hook : Hk} {dhook : Dh} (hh : HkGood P hook) (hd : DhGood P dhook) {rounds k : Nat} (i : Inst) (run : ∀ E, i.chk (xcall P okT hook dhook rounds k i.f i.args (i.st0 E)) = true)
    (hgl : Nat.ble P.globals.size i.n = true) (hsm : i.small = []) (hro0 : (i.ro.all fun p => Nat.blt p.1 roN && Nat.blt p.1 P.globals.size) = true) {us : List Value} (hargs : denL (env0 P) i.args = some us) {W : World} (E : Nat → Nat)
    (hw : ∀ id c, (id, c) ∈ i.ro → BlkOK (env0 P) W id (.mk (E id) 0 c)) :
    Calls P i.f us.toArray W fun e W' => ∃ u σ', e = .returned u ∧ den σ' i.v = some u ∧ Below W.heap.size W W' := by
  have run := run E
  cases hr : xcall P okT hook dhook rounds k i.f i.args (i.st0 E) with
  | no => rw [hr] at run; cases run
  | pan v st => rw [hr] at run; cases run
  | ret v st1 =>
    rw [hr] at run
    simp only [Inst.chk] at run
    obtain ⟨run, r3⟩ := and3 run
    obtain ⟨r1, r2⟩ := and3 run
    have e1 := AV.beq_eq _ _ r1
    have fromRo : ∀ id b, (i.st0 E).get id = some b → ∃ c, (id, c) ∈ i.ro ∧ b = .mk (E id) 0 c := fun id b e => by
      rcases st0_get i E e with h | ⟨_, h⟩
      · rw [hsm] at h; cases h
      · exact h
    have small : ∀ id b, (i.st0 E).get id = some b → id < roN ∧ id < P.globals.size := fun id b e => by
      obtain ⟨c, h, _⟩ := fromRo id b e
      have := and3 (List.all_eq_true.1 hro0 (id, c) h)
      exact ⟨blt_of this.1, blt_of this.2⟩
    have hrep : Rep (env0 P) (i.st0 E).get W := ⟨fun id b e => by
      obtain ⟨c, h, rfl⟩ := fromRo id b e
      exact hw id c h, fun p q b c l m e1 e2 e3 e4 e5 => by
      have h1 := (small p b e1).2
      have h2 := (small q c e2).2
      simp only [env0, h1, h2, if_true, Option.some.injEq] at e3 e4
      subst e3; subst e4
      exact e5⟩
    have := calls_of_run (σ := env0 P) hk hc hm hh hd hr hrep (glob0 P) hargs (by simp) (fun id h1 h2 => by
      have hg := Nat.le_of_ble_eq_true hgl
      have h1 : i.n ≤ id := h1
      simp only [env0]
      rw [if_neg (by omega)])
    refine Calls.mono this ?_
    rintro e w' ⟨σ', u, rfl, hv, hs⟩
    refine ⟨u, σ', rfl, by rw [← e1]; exact hv, ⟨hs.only.os, hs.only.tape, hs.only.output, hs.only.size, fun k hk => hs.only.block k hk ?_⟩⟩
    rintro ⟨id, b, l, h0, h1, h2, h3⟩
    have := (small id b h1).1
    omega
end
end
end Go.Sx

/- Closed facts of a program, as the machine asks them. No program. -/
namespace Go.Sx
set_option linter.unusedVariables false

theorem callsOK_of {P : Program} (h : (P.funcs.toList.all fun fn => fn.body.isNone || !(fn.name == "runtime.NumGoroutine")) = true) : CallsOK P := by
  intro f fn c hfn hb args w
  rw [nthL_eq] at hfn
  have hm := List.all_eq_true.1 h fn (List.mem_of_getElem? hfn)
  rw [hb] at hm
  simp only [Option.isNone_some, Bool.false_or, Bool.not_eq_true'] at hm
  have hfn' : P.funcs[f]? = some fn := by rw [← Array.getElem?_toList]; exact hfn
  unfold callFunc
  simp only [Sem.run_bind, run_program, Result.andThen_ok, hfn', hm, Bool.false_eq_true, if_false, hb, Option.isNone_some, Sem.run_pure]

theorem okT_of {P : Program} {l : List Nat} (h : (l.all fun t => !P.stoodInHeld t && !P.eqGuardType P.depth t) = true) : OkT P (fun t => memN t l) := by
  intro t ht
  have hm := List.all_eq_true.1 h t ((memN_iff t l).1 ht)
  have := and3 hm
  simpa using this
end Go.Sx

/- Laid tables as blocks. No program. -/
namespace Go.Sx
set_option linter.unusedVariables false
open Go.Lib

theorem laid_var {P : Program} {W : World} {name : String} {d : DataW Unit} : ∀ {laid : List (String × DataW Unit)} {ps : List MemPlace}, DataW.LaidVars P W laid ps → (name, d) ∈ laid →
    ∃ g t cs fuel p, P.globalNamed name = some g ∧ (P.globals[g]?).map (·.type) = some t ∧ W.var? P name = some cs ∧ DataW.trod (fun _ => ()) P W 0 (fun _ => true) false fuel t cs.toList = some (d, p) ∧ ∀ x ∈ MemPlace.row ⟨g, 0, none⟩ cs.size, x ∈ ps
  | (n, d') :: r, ps, h, hm => by
    obtain ⟨g, t, cs, fuel, p, q, h1, h2, h3, h4, h5, rfl⟩ := h
    rcases List.mem_cons.1 hm with hm | hm
    · injection hm with e1 e2
      subst e1; subst e2
      exact ⟨g, t, cs, fuel, p, h1, h2, h3, h4, fun x hx => List.mem_append_left _ (List.mem_append_left _ hx)⟩
    · obtain ⟨g', t', cs', fuel', p', k1, k2, k3, k4, k5⟩ := laid_var h5 hm
      exact ⟨g', t', cs', fuel', p', k1, k2, k3, k4, fun x hx => List.mem_append_right _ (k5 x hx)⟩

theorem denL_ints (σ : Env) (k : IntKind) : ∀ (zs : List Int), denL σ (zs.map fun z => AV.int k z) = some (zs.map fun z => Value.int k z)
  | [] => rfl
  | z :: l => by simp only [List.map_cons, denL, den, denL_ints σ k l]

/-- A laid table of integers is a block. -/
theorem laid_tab_blk {P : Program} {W : World} {name : String} {k : IntKind} {zs : List Int} {laid : List (String × DataW Unit)} {g : Nat} {t e : TypeId} {n : Nat} (hm : laidMet P laid W) (hin : (name, tabData k zs) ∈ laid)
    (hg : P.globalNamed name = some g) (hty : (P.globals[g]?).map (·.type) = some t) (ht : P.underlying t = some (.array n e)) (he : P.underlying e = some (.int k)) (hce : P.cellsOf e = 1) (hct : P.cellsOf t = n) (hpos : 0 < zs.length) :
    ∃ el, BlkOK (env0 P) W g (.mk el 0 (.cells (zs.map fun z => AV.int k z))) := by
  obtain ⟨ps, hL, _, hcell⟩ := hm
  obtain ⟨g', t', cs, fuel, p, h1, h2, h3, h4, h5⟩ := laid_var hL hin
  obtain rfl := Option.some.inj (hg.symm.trans h1)
  obtain rfl := Option.some.inj (hty.symm.trans h2)
  have hcs := cells_of_tab ht he hce hct h4
  have hsz : cs.size = zs.length := by
    rw [← Array.length_toList, hcs]; simp
  have hin0 : MemPlace.cell g 0 ∈ ps := h5 _ (by
    unfold MemPlace.row
    exact List.mem_map.2 ⟨0, List.mem_range.2 (by omega), rfl⟩)
  obtain ⟨⟨c, el, hc⟩, _⟩ := hcell g 0 hin0
  have hcc : c = cs := by
    simp only [World.var?, hg, Option.bind_some, hc] at h3
    exact Option.some.inj h3
  subst hcc
  have hlt : g < P.globals.size := by
    cases hq : P.globals[g]? with
    | none => rw [hq] at hty; cases hty
    | some x => exact (Array.getElem?_eq_some_iff.1 hq).1
  refine ⟨el, ⟨g, 0, 0⟩, _, by simp [env0, hlt], hc, c, (0, 0), zs.map fun z => Value.int k z, rfl, ⟨Or.inl rfl, fun _ => rfl⟩, denL_ints _ k zs, ?_, ?_, fun i u h => ?_, fun h => absurd rfl h⟩
  · rw [List.all_eq_true]
    intro x hx
    obtain ⟨z, _, rfl⟩ := List.mem_map.1 hx
    rfl
  · simp; omega
  · show c[0 + i]? = some u
    rw [Nat.zero_add, ← Array.getElem?_toList, hcs]
    exact h
end Go.Sx

/- A deferred function that asks what panics first, and then goes on: the machine runs what comes behind. No program. -/
namespace Go.Sx
set_option linter.unusedVariables false
set_option linter.unusedSimpArgs false

def noCall : Nat → List AV → St → Ro := fun _ _ _ => .no

/-- The hook: function f, whose first region's one operation recovers into dst; rest: what comes behind it. -/
noncomputable def dhookM (P : Program) (okT : Nat → Bool) (f N dst rounds : Nat) (rest : Code) : Dh := fun g vs u st =>
  bif Nat.beq g f then (match xcode P okT noCall N rounds rest (putP (some (u.getD .nili)) (path dst) (argsTr 0 vs .lf)) [] st with
    | .norm _ [] st' => some (none, st')
    | .ret _ [] st' => some (none, st')
    | _ => none) else none

section
variable {P : Program} {okT : Nat → Bool}

theorem noCall_good : CallGood P noCall := CallGood.of (fun f args st h => absurd rfl h) (fun f args st => trivial) (fun f args st h => absurd rfl h)

theorem dhookM_good (hk : OkT P okT) (hc : CallsOK P) (hm : P.follows .mixedOrders = true) {f N dst rounds : Nat} {rest : Code} {fn : Func} {o : Oper} {rid : Nat}
    (hf : P.funcs[f]? = some fn) (hb : fn.body = some (.seq (.region rid #[o] false) rest)) (hN : fn.ntmps = N) (hres : fn.results = #[]) (hd : Nat.blt dst N = true) (ho1 : o.dst = some dst)
    (ho2 : ∀ l, Region.wanted o l = true) (ho3 : ∀ (e : Operand → Value) (w : World), (execOp e o).run P w = .ok .recover w) : DhGood P (dhookM P okT f N dst rounds rest) := by
  have key : ∀ {g vs u st u' st'}, dhookM P okT f N dst rounds rest g vs u st = some (u', st') → g = f ∧ u' = none ∧ ∃ r, xcode P okT noCall N rounds rest (putP (some (u.getD .nili)) (path dst) (argsTr 0 vs .lf)) [] st = r ∧ ((∃ t, r = .norm t [] st') ∨ (∃ t, r = .ret t [] st')) := by
    intro g vs u st u' st' h
    unfold dhookM at h
    cases hq : Nat.beq g f with
    | false => rw [hq] at h; cases h
    | true =>
      rw [hq] at h
      simp only [cond_true] at h
      refine ⟨Nat.eq_of_beq_eq_true hq, ?_⟩
      split at h
      · rename_i t st1 hr
        simp only [Option.some.injEq, Prod.mk.injEq] at h
        obtain ⟨rfl, rfl⟩ := h
        exact ⟨rfl, _, hr, Or.inl ⟨t, rfl⟩⟩
      · rename_i t st1 hr
        simp only [Option.some.injEq, Prod.mk.injEq] at h
        obtain ⟨rfl, rfl⟩ := h
        exact ⟨rfl, _, hr, Or.inr ⟨t, rfl⟩⟩
      · cases h
  refine ⟨fun g vs u st u' st' h σ w us m hr hg hv hmode hfree => ?_, fun g vs u st u' st' h => ?_, fun g vs u st r h => ?_⟩
  · obtain ⟨rfl, rfl, r, hrun, hsh⟩ := key h
    have hdst : dstP N (some dst) = some (some (path dst)) := by simp [dstP, hd]
    -- the rest of the code, from either mode
    have main : ∀ (c0 : Frame) (cs' : List Frame) (x : Value) (cs : List Frame) (m' : FrameMode), den σ (u.getD .nili) = some x → cs' = { c0 with mode := m' } :: cs → settle m' = .returning →
        rest.wpS P (bodyPostS P fn c0 cs fun e m2 w' => ∃ y, e = .returned y ∧ ∃ σ', Stp σ st.get st.n w σ' st'.get st'.n w' ∧ ModeOK σ' none (settle m2)) (Act.put { tmps := us.toArray ++ Array.replicate (fn.ntmps - us.toArray.size) undef, defers := [] } (some dst) x) cs' w := by
      intro c0 cs' x cs m' hx hcs hset
      subst hcs
      refine wpS_of_wp ?_
      have ht := (args_tmp hv N).put hdst hx
      rw [hN]
      refine (wpIn_wide (n := 0)).1 (wpl_xcode (bs := []) (ro := none) hk hc hm noCall_good rounds rest _ [] st σ _ w _ (Or.inl rfl) ?_ ?_ hg hr ht ?_ fun e a' w' hbh => ?_).wp
      · show xcode P okT noCall N rounds rest (putP (some (u.getD .nili)) (path dst) (argsTr 0 vs .lf)) [] st ≠ .no
        rw [hrun]
        rcases hsh with ⟨t, rfl⟩ | ⟨t, rfl⟩ <;> simp
      · show Free σ st.n (xcode P okT noCall N rounds rest (putP (some (u.getD .nili)) (path dst) (argsTr 0 vs .lf)) [] st)
        rw [hrun]
        rcases hsh with ⟨t, rfl⟩ | ⟨t, rfl⟩ <;> exact hfree
      · exact DefOK.nil
      · have hbh : Behind [] σ st.get st.n w N (xcode P okT noCall N rounds rest (putP (some (u.getD .nili)) (path dst) (argsTr 0 vs .lf)) [] st) e a' w' := hbh
        rw [hrun] at hbh
        have hnil : (results fn a'.tmps).run P w' = .ok (.tuple #[]) w' := by simp [results, hres, go_sem]
        rcases hsh with ⟨t, rfl⟩ | ⟨t, rfl⟩
        · obtain ⟨rfl, σ', hs, ht', hds⟩ := hbh
          have hds : a'.defers = [] := by cases hq : a'.defers with | nil => rfl | cons => rw [hq] at hds; cases hds
          exact ⟨hds, m', rfl, _, hnil, _, rfl, σ', hs, hset⟩
        · obtain ⟨rfl, σ', hs, ht', hds⟩ := hbh
          have hds : a'.defers = [] := by cases hq : a'.defers with | nil => rfl | cons => rw [hq] at hds; cases hds
          exact ⟨hds, m', rfl, _, hnil, _, rfl, σ', hs, hset⟩
    refine callsD_of_wpS hf hb fun c₀ cs hu => ?_
    apply wpS_seq
    apply wpS_region
    simp only [List.size_toArray, List.length_singleton, List.length_cons, List.length_nil, Nat.zero_add, List.range_one, wpOpsS, List.getElem?_toArray, List.getElem?_cons_zero, ho2, if_true, ho3]
    cases u with
    | none =>
      obtain rfl : m = .returning := hmode
      have : recoverD (c₀ :: cs) = none := by simp [recoverD, hu]
      rw [this, ho1]
      refine main c₀ (c₀ :: cs) _ cs .returning rfl ?_ rfl
      rw [← hu]
    | some v =>
      obtain ⟨x, rfl, hx⟩ := hmode
      have : recoverD (c₀ :: cs) = some (x, { c₀ with mode := .panicking [{ v := x, recovered := true }] } :: cs) := by simp [recoverD, hu]
      rw [this, ho1]
      exact main c₀ _ x cs _ hx rfl rfl
  · obtain ⟨rfl, rfl, r, hrun, hsh⟩ := key h
    have := code_mono (P := P) (okT := okT) (N := N) (noCall_good (P := P)).mono rounds rest (putP (some (u.getD .nili)) (path dst) (argsTr 0 vs .lf)) [] st
    rw [hrun] at this
    rcases hsh with ⟨t, rfl⟩ | ⟨t, rfl⟩ <;> exact this
  · obtain ⟨u', st'⟩ := r
    obtain ⟨rfl, _⟩ := key h
    exact ⟨fn, _, by rw [nthL_eq, Array.getElem?_toList]; exact hf, hb⟩
end
end Go.Sx

/- Pieces of code whose runs are joined by hand (a condition that isn't worked out); closed calls as hooks in any heap; a law's call. No program. -/
namespace Go.Sx
open Go.RowKit
set_option linter.unusedVariables false
set_option linter.unusedSimpArgs false

/-- The code, from t, d, st, does what r says. -/
structure RunsAs (P : Program) (N : Nat) (c : Code) (t : Tr AV) (d : Ds) (st : St) (r : Rs) : Prop where
  mono : r.ge st.n
  ok : ∀ (σ : Env) (a : Act) (w : World) (Qe : Exit → Act → World → Prop), r ≠ .no → Free σ st.n r → GlobOK P σ → Rep σ st.get w → TmpOK σ t N a → DefOK [] σ d a.defers →
    (∀ e a' w', Behind [] σ st.get st.n w N r e a' w' → Qe e a' w') → c.wp P Qe a w

section
variable {P : Program} {okT : Nat → Bool} {N : Nat}

theorem runs_code (hk : OkT P okT) (hc : CallsOK P) (hm : P.follows .mixedOrders = true) {call : Nat → List AV → St → Ro} (hgood : CallGood P call) (n : Nat) (c : Code) (t : Tr AV) (d : Ds) (st : St) : RunsAs P N c t d st (xcode P okT call N n c t d st) :=
  ⟨code_mono hgood.mono n c t d st, fun σ a w Qe h1 h2 h3 h4 h5 h6 h7 => (wpIn_wide (n := 0)).1 (wpl_xcode (bs := []) (ro := none) hk hc hm hgood n c t d st σ a w Qe (Or.inl rfl) h1 h2 h3 h4 h5 h6 h7).wp⟩

def Rs.isNorm : Rs → Bool
  | .norm .. => true
  | _ => false
def Rs.isRet : Rs → Bool
  | .ret .. => true
  | _ => false
def Rs.t : Rs → Tr AV
  | .norm t _ _ => t
  | .ret t _ _ => t
  | _ => .lf
def Rs.d : Rs → Ds
  | .norm _ d _ => d
  | .ret _ d _ => d
  | _ => []
def Rs.s : Rs → St
  | .norm _ _ s => s
  | .ret _ _ s => s
  | _ => .mk .lf 0

theorem Rs.eta {r : Rs} (h : r.isNorm = true) : r = .norm r.t r.d r.s := by cases r <;> first | rfl | cases h
theorem Rs.etaR {r : Rs} (h : r.isRet = true) : r = .ret r.t r.d r.s := by cases r <;> first | rfl | cases h

theorem RunsAs.seq {p q : Code} {t d st r1 r} (h1 : RunsAs P N p t d st r1) (hn : r1.isNorm = true) (h2 : RunsAs P N q r1.t r1.d r1.s r) : RunsAs P N (.seq p q) t d st r := by
  have he := Rs.eta hn
  generalize r1.t = t1 at he h2
  generalize r1.d = d1 at he h2
  generalize r1.s = st1 at he h2
  subst he
  refine ⟨Rs.ge.trans h1.mono h2.mono, fun σ a w Qe hne hfree hg hr ht hd hQ => ?_⟩
  refine wp_seq ?_
  refine h1.ok σ a w _ (by simp) (hfree.below hne h2.mono) hg hr ht hd fun e a' w' hb => ?_
  obtain ⟨rfl, σ', hs, ht', hd'⟩ := hb
  exact h2.ok σ' a' w' Qe hne (hfree.step hs) (hg.mono hs.le) hs.rep ht' hd' fun e a'' w'' hb => hQ e a'' w'' (hb.trans hs)

theorem RunsAs.seqR {p q : Code} {t d st r} (h1 : RunsAs P N p t d st r) (hn : r.isRet = true) : RunsAs P N (.seq p q) t d st r := by
  have he := Rs.etaR hn
  generalize r.t = t1 at he
  generalize r.d = d1 at he
  generalize r.s = st1 at he
  subst he
  refine ⟨h1.mono, fun σ a w Qe hne hfree hg hr ht hd hQ => ?_⟩
  refine wp_seq ?_
  refine h1.ok σ a w _ (by simp) hfree hg hr ht hd fun e a' w' hb => ?_
  obtain rfl := hb.1
  exact hQ _ _ _ hb

theorem RunsAs.cond {o : Operand} {x y : Code} {t d st r} {b : Bool} (hv : (cOp P o).map (fun e => ev e t) = some (.bool b)) (h : RunsAs P N (if b = true then x else y) t d st r) : RunsAs P N (.cond o x y) t d st r := by
  refine ⟨h.mono, fun σ a w Qe hne hfree hg hr ht hd hQ => ?_⟩
  obtain ⟨e, he, hev⟩ := Option.map_eq_some_iff.1 hv
  have := ht.ev hg o e he
  rw [hev] at this
  have hb : a.eval o = .bool b := (Option.some.inj this).symm
  exact wp_cond hb (h.ok σ a w Qe hne hfree hg hr ht hd hQ)

theorem RunsAs.skip {t d st} : RunsAs P N .skip t d st (.norm t d st) := by
  refine ⟨Nat.le_refl _, fun σ a w Qe hne hfree hg hr ht hd hQ => ?_⟩
  exact wp_skip (hQ .normal a w ⟨rfl, σ, Stp.refl hr, ht, hd⟩)

/-- A function's body by the run of its code. -/
theorem body_of_runs (hc : CallsOK P) {dhook : Dh} (hd : DhGood P dhook) {f : Nat} {c : Code} {rs : List ResultVar} (hf : fnOf P f = some (N, c, rs)) {args : List AV} {st : St} {r : Rs} (hruns : RunsAs P N c (argsTr 0 args .lf) [] st r)
    {σ : Env} {w : World} {us : List Value} (hr : Rep σ st.get w) (hg : GlobOK P σ) (hargs : denL σ args = some us) (hne : xleave P dhook rs r ≠ .no) (hfree : FreeC σ st.n (xleave P dhook rs r)) :
    Calls P f us.toArray w (BehindC σ st.get st.n w (xleave P dhook rs r)) := by
  obtain ⟨fn, h1, h2, h3, rfl, rfl⟩ := fnOf_ok hf
  refine calls_of_wp_defers h2 h3 ?_
  have ht := args_tmp hargs fn.ntmps
  have hlm : ∀ t d st', (xfin P dhook fn.results.toList none t d st').ge st'.n := fun t d st' => xfin_mono hd _ _ _ _ _
  cases r with
  | no => exact absurd rfl hne
  | exit id t d st1 => exact absurd rfl hne
  | norm t d st1 =>
    simp only [xleave] at hne hfree ⊢
    refine hruns.ok σ _ w _ (by simp) (hfree.below hne (hlm t d st1)) hg hr ht .nil fun e a' w' hb => ?_
    obtain ⟨rfl, σ', hs, ht', hd'⟩ := hb
    exact xfin_ok hc hd hne (hfree.step hs) (hg.mono hs.le) hs.rep ht' hd' rfl fun e w'' hb => hb.trans hs
  | ret t d st1 =>
    simp only [xleave] at hne hfree ⊢
    refine hruns.ok σ _ w _ (by simp) (hfree.below hne (hlm t d st1)) hg hr ht .nil fun e a' w' hb => ?_
    obtain ⟨rfl, σ', hs, ht', hd'⟩ := hb
    exact xfin_ok hc hd hne (hfree.step hs) (hg.mono hs.le) hs.rep ht' hd' rfl fun e w'' hb => hb.trans hs
  | pan v t d st1 =>
    simp only [xleave] at hne hfree ⊢
    refine hruns.ok σ _ w _ (by simp) (hfree.below hne (xfin_mono hd _ _ _ _ _)) hg hr ht .nil fun e a' w' hb => ?_
    obtain ⟨σ', u, rfl, hu, hs, ht', hd'⟩ := hb
    exact xfin_ok hc hd hne (hfree.step hs) (hg.mono hs.le) hs.rep ht' hd' ⟨u, rfl, hu⟩ fun e w'' hb => hb.trans hs

/-! ### No names -/
def AV.flat : AV → Bool
  | .bool _ => true
  | .int .. => true
  | .flt .. => true
  | .str .. => true
  | .nilp => true
  | .nils => true
  | .nilm => true
  | .nilf => true
  | .nili => true
  | .osl .. => true
  | .ostr _ => true
  | .agg l => flatL l
  | .tup l => flatL l
  | _ => false
where flatL : List AV → Bool
  | [] => true
  | v :: l => v.flat && flatL l

mutual
theorem den_flat (σ σ' : Env) : ∀ (v : AV), v.flat = true → den σ v = den σ' v
  | .bool _, _ => rfl
  | .int .., _ => rfl
  | .flt .., _ => rfl
  | .str .., _ => rfl
  | .nilp, _ => rfl
  | .nils, _ => rfl
  | .nilm, _ => rfl
  | .nilf, _ => rfl
  | .nili, _ => rfl
  | .osl .., _ => rfl
  | .ostr _, _ => rfl
  | .par .., _ => rfl
  | .agg l, h => by
    simp only [AV.flat] at h
    simp only [den, denL_flat σ σ' l h]
  | .tup l, h => by
    simp only [AV.flat] at h
    simp only [den, denL_flat σ σ' l h]
  | .ptr .., h => by cases h
  | .slc .., h => by cases h
  | .slz .., h => by cases h
  | .map _, h => by cases h
  | .fn .., h => by cases h
  | .ifc .., h => by cases h
theorem denL_flat (σ σ' : Env) : ∀ (l : List AV), AV.flat.flatL l = true → denL σ l = denL σ' l
  | [], _ => rfl
  | v :: l, h => by
    simp only [AV.flat.flatL, Bool.and_eq_true] at h
    simp only [denL, den_flat σ σ' v h.1, denL_flat σ σ' l h.2]
end

def Cont.flat : Cont → Bool
  | .cells vs => AV.flat.flatL vs
  | .bytes .. => false
  | .map .. => false
  | .txt _ => false

theorem BlkOK.flat {σ σ' : Env} {w : World} {id el sl : Nat} {c : Cont} (hc : c.flat = true) (he : σ' id = σ id) (k : BlkOK σ w id (.mk el sl c)) : BlkOK σ' w id (.mk el sl c) := by
  obtain ⟨l, o, h1, h2, h3⟩ := k
  refine ⟨l, o, he.trans h1, h2, ?_⟩
  cases c with
  | map => cases hc
  | txt => cases hc
  | cells vs =>
    obtain ⟨cs, fr, us, k1, k2, k3, k4⟩ := h3
    exact ⟨cs, fr, us, k1, k2, by rw [← k3]; exact denL_flat σ' σ vs hc, k4⟩
  | bytes => cases hc

/-! ### Closed calls -/
noncomputable section
/-- The hook of a call that asks nothing but variables, in any heap. -/
def Inst.closed (i : Inst) : Hk := fun f args st => bif Nat.beq f i.f && (AV.beqL args i.args && roB i.ro st) then some (.ret i.v st) else none

theorem closed_good (hk : OkT P okT) (hc : CallsOK P) (hm : P.follows .mixedOrders = true) {hook : Hk} {dhook : Dh} (hh : HkGood P hook) (hd : DhGood P dhook) {rounds k : Nat} (i : Inst) (hn : Nat.ble roN i.n = true) (hgl : Nat.ble P.globals.size roN = true)
    (hsm : i.small = []) (hro : (i.ro.all fun p => Nat.blt p.1 roN && p.2.flat) = true) (hv : i.v.flat = true) (ha : AV.flat.flatL i.args = true) (run : ∀ E, i.chk (xcall P okT hook dhook rounds k i.f i.args (i.st0 E)) = true) : HkGood P i.closed := by
  have hgood := call_good (okT := okT) hk hc hm hh hd rounds k
  have one : ∀ E, ∃ st1, xcall P okT hook dhook rounds k i.f i.args (i.st0 E) = .ret i.v st1 := by
    intro E
    have run := run E
    cases hr : xcall P okT hook dhook rounds k i.f i.args (i.st0 E) with
    | no => rw [hr] at run; cases run
    | pan v st => rw [hr] at run; cases run
    | ret v st1 =>
      rw [hr] at run
      simp only [Inst.chk] at run
      obtain ⟨run, r3⟩ := and3 run
      obtain ⟨r1, r2⟩ := and3 run
      exact ⟨st1, by rw [AV.beq_eq _ _ r1]⟩
  have key : ∀ f args st r, i.closed f args st = some r → f = i.f ∧ args = i.args ∧ roB i.ro st = true ∧ r = .ret i.v st := by
    intro f args st r h
    simp only [Inst.closed, cond_eq_ite] at h
    split at h
    · rename_i hb
      obtain ⟨h1, hb⟩ := and3 hb
      obtain ⟨h2, h3⟩ := and3 hb
      exact ⟨nbeq h1, AV.beqL_eq _ _ h2, h3, (Option.some.inj h).symm⟩
    · cases h
  refine ⟨fun f args st r h hne σ w us hrep hg hu hfree => ?_, fun f args st r h => ?_, fun f args st r h => ?_⟩
  · obtain ⟨rfl, rfl, k3, rfl⟩ := key f args st r h
    have hroE := roB_ok k3
    obtain ⟨st1, hr⟩ := one (elOf st)
    have fromRo : ∀ id b, (i.st0 (elOf st)).get id = some b → ∃ c, (id, c) ∈ i.ro ∧ b = .mk (elOf st id) 0 c := fun id b e => by
      rcases st0_get i (elOf st) e with h | ⟨_, h⟩
      · rw [hsm] at h; cases h
      · exact h
    have hroC : ∀ {id c}, (id, c) ∈ i.ro → id < roN ∧ c.flat = true := fun {id c} h => by
      have := and3 (List.all_eq_true.1 hro (id, c) h)
      exact ⟨blt_of this.1, this.2⟩
    have hσ : ∀ id, id < roN → (fun id => if id < roN then σ id else none) id = σ id := fun id h => by simp [h]
    have hrep0 : Rep (fun id => if id < roN then σ id else none) (i.st0 (elOf st)).get w := ⟨fun id b e => by
      obtain ⟨c, h, rfl⟩ := fromRo id b e
      exact (hrep.ok id _ (hroE id c h)).flat (hroC h).2 (hσ id (hroC h).1), fun p q b c l m e1 e2 e3 e4 e5 => by
      obtain ⟨c1, h1, rfl⟩ := fromRo p b e1
      obtain ⟨c2, h2, rfl⟩ := fromRo q c e2
      have e3 := (hσ p (hroC h1).1).symm.trans e3
      have e4 := (hσ q (hroC h2).1).symm.trans e4
      exact hrep.inj p q _ _ l m (hroE p c1 h1) (hroE q c2 h2) e3 e4 e5⟩
    have hg0 : GlobOK P (fun id => if id < roN then σ id else none) := fun g hlt => by
      obtain ⟨c, e⟩ := hg g hlt
      have := Nat.le_of_ble_eq_true hgl
      exact ⟨c, by simp [show g < roN by omega, e]⟩
    have hu0 : denL (fun id => if id < roN then σ id else none) i.args = some us := by rw [← hu]; exact denL_flat _ _ _ ha
    have hC := (hgood.ok i.f i.args (i.st0 (elOf st)) _ w us hrep0 hg0 hu0).1 _ st1 hr (fun id h1 h2 => by
      have h0 := Nat.le_of_ble_eq_true hn
      have h1 : i.n ≤ id := h1
      have : ¬ id < roN := by omega
      simp [this])
    refine Calls.mono hC ?_
    rintro e w' ⟨σ', u, rfl, hvv, hstp⟩
    have hO : OnlyB w w' (fun _ => False) := hstp.only.mono (by
      rintro k _ ⟨id, b, l, h0, h1, h2, h3⟩
      obtain ⟨c, h, _⟩ := fromRo id b h1
      have := (hroC h).1
      omega)
    refine ⟨σ, u, rfl, by rw [← hvv]; exact den_flat _ _ _ hv, Nat.le_refl _, Env.le.refl _, fun _ _ e => Or.inl e, ⟨fun id b e => (hrep.ok id b e).only hO fun _ _ hf => hf, hrep.inj⟩, hO.mono (fun _ _ hf => hf.elim),
      fun id b l e hl => Or.inr ⟨id, b, l, e, hl, rfl⟩, fun id b l hro e hl => Or.inr ⟨id, b, l, hro, e, hl, rfl⟩, fun id b e => Or.inl ⟨b, e⟩⟩
  · obtain ⟨rfl, rfl, k3, rfl⟩ := key f args st r h
    exact Nat.le_refl _
  · obtain ⟨rfl, rfl, k3, rfl⟩ := key f args st r h
    obtain ⟨st1, hr⟩ := one (elOf st)
    exact hgood.has i.f i.args (i.st0 (elOf st)) (by rw [hr]; simp)

/-! ### A law -/
def Ro.isTrue : Ro → Bool
  | .ret (.bool b) _ => b
  | _ => false

def Ro.st : Ro → St
  | .ret _ st => st
  | .pan _ st => st
  | .no => .mk .lf 0

/-- A law's call, from a heap of variables and names of what came in: it returns true, and nothing has turned. -/
theorem law_of_runs (hc : CallsOK P) {dhook : Dh} (hd : DhGood P dhook) {f : Nat} {c : Code} {rs : List ResultVar} (hf : fnOf P f = some (N, c, rs)) {args : List AV} {st : St} {r : Rs} (hruns : RunsAs P N c (argsTr 0 args .lf) [] st r)
    (htrue : (xleave P dhook rs r).isTrue = true) {W : World} {us : List Value} (hargs : denL (env0 P) args = some us) (hrep : Rep (env0 P) st.get W) (hro : ∀ id b, st.get id = some b → id < roN) (hn : P.globals.size ≤ st.n) :
    Calls P f us.toArray W fun e W' => e = .returned (.bool true) ∧ Below W.heap.size W W' := by
  have hrr : ∃ st', xleave P dhook rs r = .ret (.bool true) st' := by
    cases hx : xleave P dhook rs r with
    | no => rw [hx] at htrue; cases htrue
    | pan => rw [hx] at htrue; cases htrue
    | ret v st' =>
      rw [hx] at htrue
      cases v <;> try (cases htrue; done)
      rename_i b
      obtain rfl : b = true := htrue
      exact ⟨st', rfl⟩
  obtain ⟨st', hx⟩ := hrr
  have := body_of_runs hc hd hf hruns hrep (glob0 P) hargs (by rw [hx]; simp) (by
    rw [hx]
    intro id h1 h2
    simp only [env0]
    rw [if_neg (by omega)])
  refine Calls.mono this ?_
  rintro e w' hb
  rw [hx] at hb
  obtain ⟨σ', u, rfl, hu, hs⟩ := hb
  obtain rfl : Value.bool true = u := Option.some.inj hu
  refine ⟨rfl, ⟨hs.only.os, hs.only.tape, hs.only.output, hs.only.size, fun k hk => hs.only.block k hk ?_⟩⟩
  rintro ⟨id, b, l, h0, h1, h2, h3⟩
  have := hro id b h1
  omega
end
end
end Go.Sx

/- A law whose head asks awake, and whether what came in is long. No program. -/
namespace Go.Sx
open Go.RowKit
set_option linter.unusedVariables false

def seqA : Code → Code
  | .seq a _ => a
  | c => c
def seqB : Code → Code
  | .seq _ b => b
  | c => c
def condA : Code → Code
  | .cond _ a _ => a
  | c => c
def condO : Code → Operand
  | .cond o _ _ => o
  | _ => .tmp 0
noncomputable def bodyOf (P : Program) (f : Nat) : Code := match fnOf P f with
  | some (_, c, _) => c
  | none => .skip
noncomputable def ntOf (P : Program) (f : Nat) : Nat := match fnOf P f with
  | some (n, _, _) => n
  | none => 0
noncomputable def resultsOf (P : Program) (f : Nat) : List ResultVar := match fnOf P f with
  | some (_, _, rs) => rs
  | none => []

section
variable {P : Program} {okT : Nat → Bool}

/-- The heap ahead of a law: the variables that are read. -/
noncomputable def st0 (ro : List (Nat × Cont)) (E : Nat → Nat) : St := .mk (putsL (roL E ro) .lf) roN

theorem st0_in {ro : List (Nat × Cont)} {E : Nat → Nat} {id : Nat} {b : Blk} (e : (st0 ro E).get id = some b) : ∃ c, (id, c) ∈ ro ∧ b = .mk (E id) 0 c := by
  rcases putsL_get _ .lf id b e with h | ⟨h, _⟩
  · exact roL_mem E h
  · rw [getP_lf] at h; cases h

theorem law_shape (hk : OkT P okT) (hc : CallsOK P) (hm : P.follows .mixedOrders = true) {hook : Hk} {dhook : Dh} (hh : HkGood P hook) (hd : DhGood P dhook) {rounds k f N : Nat} {R0 R1 A rest : Code} {o : Operand} {rs : List ResultVar}
    (hf : fnOf P f = some (N, .seq R0 (.seq (.seq R1 (.cond o A .skip)) rest), rs)) {args : List AV} {us : List Value} (hargs : denL (env0 P) args = some us) {ro : List (Nat × Cont)} (hro : (ro.all fun p => Nat.blt p.1 roN && Nat.blt p.1 P.globals.size) = true) (hgl : Nat.ble P.globals.size roN = true)
    {E : Nat → Nat} {W : World} (hw : ∀ id c, (id, c) ∈ ro → BlkOK (env0 P) W id (.mk (E id) 0 c)) {r0 r1 : Rs}
    (e0 : r0 = xcode P okT (xcall P okT hook dhook rounds k) N rounds R0 (argsTr 0 args .lf) [] (st0 ro E)) (n0 : r0.isNorm = true)
    (e1 : r1 = xcode P okT (xcall P okT hook dhook rounds k) N rounds R1 r0.t r0.d r0.s) (n1 : r1.isNorm = true) {b : Bool} (hv : (cOp P o).map (fun e => ev e r1.t) = some (.bool b))
    (htrue : b = true → (xcode P okT (xcall P okT hook dhook rounds k) N rounds A r1.t r1.d r1.s).isRet = true ∧ (xleave P dhook rs (xcode P okT (xcall P okT hook dhook rounds k) N rounds A r1.t r1.d r1.s)).isTrue = true)
    (hfalse : b = false → (xleave P dhook rs (xcode P okT (xcall P okT hook dhook rounds k) N rounds rest r1.t r1.d r1.s)).isTrue = true) :
    Calls P f us.toArray W fun e W' => e = .returned (.bool true) ∧ Below W.heap.size W W' := by
  have hgood := call_good (okT := okT) hk hc hm hh hd rounds k
  have small : ∀ id b, (st0 ro E).get id = some b → id < roN ∧ id < P.globals.size := fun id b e => by
    obtain ⟨c, h, _⟩ := st0_in e
    have := and3 (List.all_eq_true.1 hro (id, c) h)
    exact ⟨blt_of this.1, blt_of this.2⟩
  have hrep : Rep (env0 P) (st0 ro E).get W := ⟨fun id b e => by
    obtain ⟨c, h, rfl⟩ := st0_in e
    exact hw id c h, fun p q b c l m e1 e2 e3 e4 e5 => by
    have h1 := (small p b e1).2
    have h2 := (small q c e2).2
    simp only [env0, h1, h2, if_true, Option.some.injEq] at e3 e4
    subst e3; subst e4
    exact e5⟩
  have q0 : RunsAs P N R0 (argsTr 0 args .lf) [] (st0 ro E) r0 := by rw [e0]; exact runs_code hk hc hm hgood rounds _ _ _ _
  have q1 : RunsAs P N R1 r0.t r0.d r0.s r1 := by rw [e1]; exact runs_code hk hc hm hgood rounds _ _ _ _
  have hg := Nat.le_of_ble_eq_true hgl
  cases b with
  | true =>
    obtain ⟨h1, h2⟩ := htrue rfl
    exact law_of_runs hc hd hf (q0.seq n0 ((q1.seq n1 (RunsAs.cond hv (runs_code hk hc hm hgood rounds A _ _ _))).seqR h1)) h2 hargs hrep (fun id b e => (small id b e).1) hg
  | false =>
    exact law_of_runs hc hd hf (q0.seq n0 ((q1.seq n1 (RunsAs.cond hv RunsAs.skip)).seq rfl (runs_code hk hc hm hgood rounds rest _ _ _))) (hfalse rfl) hargs hrep (fun id b e => (small id b e).1) hg
end
end Go.Sx

/- What comes in, opened: structs, slices, strings, numbers. No program. -/
namespace Go.Sx
open Go.ChangeShapes Go.WideShapes Go.RowKit
set_option linter.unusedVariables false

/-- Some cells read as a datum of type t. -/
def Reads (P : Program) (W : World) (t : TypeId) (cs : List Value) : Prop :=
  ∃ (H : Type) (enc : TypeId × Value → H) (fuel : Nat) (x : DataW H × List MemPlace), DataW.trod enc P W 0 (fun _ => true) true fuel t cs = some x

variable {P : Program} {W : World}

theorem reads_of {H : Type} {enc : TypeId × Value → H} {t : TypeId} {v : Value} {d : DataW H} {p : List MemPlace} (h : DataW.Trod enc P W 0 (fun _ => true) true t v d p) : Reads P W t v.cells.toList := by
  obtain ⟨m, hm⟩ := h
  exact ⟨H, enc, m, _, hm⟩

theorem reads_len {t : TypeId} {fs : Array Field} {cs : List Value} (ht : P.underlying t = some (.struct fs)) (h : Reads P W t cs) : cs.length = P.cellsOf t := by
  obtain ⟨H, enc, fuel, x, h⟩ := h
  obtain ⟨xs, n, _, _, hl, _, hm⟩ := DataW.trod_struct ht h
  exact hl

theorem reads_field {t : TypeId} {fs : Array Field} {cs : List Value} (ht : P.underlying t = some (.struct fs)) (h : Reads P W t cs) (i : Nat) {o n T : Nat} (hf : (fs[i]?).map (fun f => (f.offset, f.type)) = some (o, T)) (hn : P.cellsOf T = n) : Reads P W T ((cs.drop o).take n) := by
  obtain ⟨H, enc, fuel, x, h⟩ := h
  obtain ⟨f, hf2, he⟩ := Option.map_eq_some_iff.1 hf
  injection he with ho hT
  subst ho hT hn
  obtain ⟨xs, n, _, _, _, hl, hm⟩ := DataW.trod_struct ht h
  have hi : i < fs.size := (Array.getElem?_eq_some_iff.1 hf2).1
  have := hm i f hf2
  rw [List.getElem?_eq_getElem (by omega)] at this
  exact ⟨H, enc, n, _, this⟩

theorem reads_int {t : TypeId} {k : IntKind} {cs : List Value} (ht : P.underlying t = some (.int k)) (h : Reads P W t cs) : ∃ n, cs = [.int k n] ∧ (Lit.int k n).wf = true := by
  obtain ⟨H, enc, fuel, x, h⟩ := h
  obtain ⟨n, h1, _, h2⟩ := DataW.trod_int ht h
  exact ⟨n, h1, h2⟩

theorem reads_bool {t : TypeId} {cs : List Value} (ht : P.underlying t = some .bool) (h : Reads P W t cs) : ∃ b, cs = [.bool b] := by
  obtain ⟨H, enc, fuel, x, h⟩ := h
  obtain ⟨b, h1, _⟩ := DataW.trod_bool ht h
  exact ⟨b, h1⟩

theorem reads_float {t : TypeId} {k : FloatKind} {cs : List Value} (ht : P.underlying t = some (.float k)) (h : Reads P W t cs) : ∃ b, cs = [.float k b] ∧ (Lit.float k b).wf = true := by
  obtain ⟨H, enc, fuel, x, h⟩ := h
  cases fuel with
  | zero => simp [DataW.trod] at h
  | succ n =>
    unfold DataW.trod at h
    rw [ht] at h
    split at h <;> simp_all

theorem reads_slice {t e : TypeId} {cs : List Value} (ht : P.underlying t = some (.slice e)) (h : Reads P W t cs) : ∃ a n c, cs = [.slice a n c] := by
  obtain ⟨H, enc, fuel, x, h⟩ := h
  rcases DataW.trod_slice ht h with ⟨h, _⟩ | ⟨a, len, cap, elems, rest, n, _, h, _⟩
  · exact ⟨_, _, _, h⟩
  · exact ⟨_, _, _, h⟩
end Go.Sx
