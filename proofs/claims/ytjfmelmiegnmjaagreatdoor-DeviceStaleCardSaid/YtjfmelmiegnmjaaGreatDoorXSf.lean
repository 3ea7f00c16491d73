/- Contracts out of runs on numbers that are not looked into; calls that hand back a value, whatever blocks of their own they lay, as hooks. No program. -/
import Derived.Test.YtjfmelmiegnmjaaGreatDoorXSe
set_option linter.all false
namespace Go.Sx
open Go.RowKit
set_option linter.unusedVariables false
set_option linter.unusedSimpArgs false

/-- What a call hands back. -/
def Ro.val : Ro → Option AV
  | .ret v _ => some v
  | _ => none

/-- A call, from a heap that is read alone: its value. -/
theorem env_calls {P : Program} {okT : Nat → Bool} (hk : OkT P okT) (hc : CallsOK P) (hm : P.follows .mixedOrders = true) {hook : Hk} {dhook : Dh} (hh : HkGood P hook) (hd : DhGood P dhook) {rounds k f : Nat} {args : List AV} {us : List Value} {σ : Env} (hargs : denL σ args = some us)
    {st : St} (hn : roN ≤ st.n) (hσ : ∀ id, roN ≤ id → σ id = none) (hg : GlobOK P σ) {W : World} (hrep : Rep σ st.get W) (hro : ∀ id b, st.get id = some b → id < roN) {v : AV} (hrun : (xcall P okT hook dhook rounds k f args st).val = some v) {u : Value} (hv : ∀ σ', den σ' v = some u) :
    Calls P f us.toArray W fun e W' => e = .returned u ∧ OnlyB W W' (fun _ => False) := by
  cases hx : xcall P okT hook dhook rounds k f args st with
  | no => rw [hx] at hrun; cases hrun
  | pan v' st' => rw [hx] at hrun; cases hrun
  | ret v' st' =>
    rw [hx] at hrun
    obtain rfl : v' = v := Option.some.inj hrun
    refine Calls.mono (calls_of_run hk hc hm hh hd hx hrep hg hargs (by simp) (fun id h1 h2 => hσ id (Nat.le_trans hn h1))) ?_
    rintro e w' ⟨σ', u', rfl, hu, hs⟩
    obtain rfl : u' = u := Option.some.inj (hu.symm.trans (hv σ'))
    refine ⟨rfl, hs.only.os, hs.only.tape, hs.only.output, hs.only.size, fun k hk _ => hs.only.block k hk ?_⟩
    rintro ⟨id, b, l, h0, h1, h2, h3⟩
    have := hro id b h1
    omega

/-- The same of a call that reads nothing but the program's tables. -/
theorem sym_calls {P : Program} {okT : Nat → Bool} (hk : OkT P okT) (hc : CallsOK P) (hm : P.follows .mixedOrders = true) {hook : Hk} {dhook : Dh} (hh : HkGood P hook) (hd : DhGood P dhook) {rounds k f : Nat} {args : List AV} {us : List Value} (hargs : ∀ σ, denL σ args = some us)
    {ro : List (Nat × Cont)} (hro : (ro.all fun p => Nat.blt p.1 roN && Nat.blt p.1 P.globals.size) = true) (hgl : Nat.ble P.globals.size roN = true) {E : Nat → Nat} {W : World} (hw : ∀ id c, (id, c) ∈ ro → BlkOK (env0 P) W id (.mk (E id) 0 c))
    {v : AV} (hrun : (xcall P okT hook dhook rounds k f args (st0 ro E)).val = some v) {u : Value} (hv : ∀ σ', den σ' v = some u) :
    Calls P f us.toArray W fun e W' => e = .returned u ∧ OnlyB W W' (fun _ => False) := by
  obtain ⟨hrep, small⟩ := rep_st0 hro hw
  refine env_calls hk hc hm hh hd (hargs _) (Nat.le_refl _) (fun id h => ?_) (glob0 P) hrep (fun id b e => (small id b e).1) hrun hv
  have := Nat.le_of_ble_eq_true hgl
  unfold env0
  rw [if_neg (by omega)]

/-- Numbers of a kind that are not looked into. -/
def natsL (k : IntKind) : List AV → Option (List Nat)
  | [] => some []
  | .sn j n _ :: l => match Nat.beq (ikn j) (ikn k), natsL k l with
    | true, some r => some (n :: r)
    | _, _ => none
  | _ => none
def nats (k : IntKind) : AV → Option (List Nat)
  | .agg l => natsL k l
  | _ => none

theorem natsL_den {k : IntKind} {σ : Env} : ∀ {l : List AV} {r : List Nat}, natsL k l = some r → denL σ l = some (r.map fun (n : Nat) => Value.int k n)
  | [], r, h => by
    obtain rfl := Option.some.inj h
    rfl
  | a :: l, r, h => by
    unfold natsL at h
    split at h
    · rename_i heq; cases heq
    · rename_i j n hn l' heq
      injection heq with e1 e2
      subst e1; subst e2
      split at h
      · rename_i r' hb hr
        obtain rfl := Option.some.inj h
        obtain rfl := ikn_inj (nbeq hb)
        have ih := natsL_den (σ := σ) hr
        simp only [denL, den, ih, List.map_cons]
        rfl
      · cases h
    · cases h
theorem nats_den {k : IntKind} {σ : Env} {v : AV} {r : List Nat} (h : nats k v = some r) : den σ v = some (.agg (r.map fun (n : Nat) => Value.int k n).toArray) := by
  unfold nats at h
  split at h
  · simp only [den, natsL_den (σ := σ) h]
  · cases h

/-- A call on numbers that are not looked into: its numbers. -/
theorem nat_calls {P : Program} {okT : Nat → Bool} (hk : OkT P okT) (hc : CallsOK P) (hm : P.follows .mixedOrders = true) {hook : Hk} {dhook : Dh} (hh : HkGood P hook) (hd : DhGood P dhook) {rounds n f : Nat} {args : List AV} {us : List Value} (hargs : ∀ σ, denL σ args = some us)
    {ro : List (Nat × Cont)} (hro : (ro.all fun p => Nat.blt p.1 roN && Nat.blt p.1 P.globals.size) = true) (hgl : Nat.ble P.globals.size roN = true) {E : Nat → Nat} {W : World} (hw : ∀ id c, (id, c) ∈ ro → BlkOK (env0 P) W id (.mk (E id) 0 c))
    {k : IntKind} {r : List Nat} (hrun : (xcall P okT hook dhook rounds n f args (st0 ro E)).val.bind (nats k) = some r) :
    Calls P f us.toArray W fun e W' => e = .returned (.agg (r.map fun (n : Nat) => Value.int k n).toArray) ∧ OnlyB W W' (fun _ => False) := by
  obtain ⟨v, h1, h2⟩ := Option.bind_eq_some_iff.1 hrun
  exact sym_calls hk hc hm hh hd hargs hro hgl hw h1 fun σ => nats_den h2

/-- A number that is worked out, or not looked into. -/
noncomputable def limb (s : Bool) (k : IntKind) (n : Nat) (h : n < um k) : AV :=
  match s with
  | true => .sn k n h
  | false => forceI k (.ofNat n)
theorem limb_den {σ : Env} {s : Bool} {k : IntKind} {n : Nat} {h : n < um k} : den σ (limb s k n h) = some (.int k n) := by
  cases s
  · show den σ (forceI k (.ofNat n)) = _
    rw [forceI_eq]
    rfl
  · rfl

/-- The world has new blocks; what was known stands. -/
theorem stp_onlyW {σ : Env} {h : Hp} {n : Nat} {w w' : World} (hr : Rep σ h w) (ho : OnlyB w w' (fun _ => False)) : Stp σ h n w σ h n w' :=
  ⟨Nat.le_refl _, Env.le.refl _, fun _ _ e => Or.inl e, ⟨fun id b e => (hr.ok id b e).only ho (fun _ _ h => h), hr.inj⟩, ho.mono (fun k _ h => h.elim),
    fun id b l e hl => Or.inr ⟨id, b, l, e, hl, rfl⟩, fun id b l hro e hl => Or.inr ⟨id, b, l, hro, e, hl, rfl⟩, fun id b e => Or.inl ⟨b, e⟩⟩

/-- A call that hands back a value. -/
theorem fHook_good {P : Program} {f : Nat} {g : List AV → Option AV} (hf : ∃ fn c, nthL P.funcs.toList f = some fn ∧ fn.body = some c)
    (h : ∀ args v σ us w, g args = some v → denL σ args = some us → ∃ u, den σ v = some u ∧ Calls P f us.toArray w fun e w' => e = .returned u ∧ OnlyB w w' (fun _ => False)) : HkGood P (pureHook f g) := by
  have key : ∀ {k args st r}, pureHook f g k args st = some r → k = f ∧ ∃ v, g args = some v ∧ r = .ret v st := by
    intro k args st r h
    unfold pureHook at h
    split at h
    · rename_i hb
      split at h
      · rename_i v hv
        exact ⟨nbeq hb, v, hv, (Option.some.inj h).symm⟩
      · cases h
    · cases h
  refine ⟨fun k args st r hk hne σ w us hr hg hu hfree => ?_, fun k args st r hk => ?_, fun k args st r hk => ?_⟩
  · obtain ⟨rfl, v, hv, rfl⟩ := key hk
    obtain ⟨u, h1, h2⟩ := h args v σ us w hv hu
    refine h2.mono ?_
    rintro e w' ⟨rfl, ho⟩
    exact ⟨σ, u, rfl, h1, stp_onlyW hr ho⟩
  · obtain ⟨rfl, v, hv, rfl⟩ := key hk
    exact Nat.le_refl _
  · obtain ⟨rfl, _⟩ := key hk
    exact hf
end Go.Sx

/- Calls that read a row of bytes; calls that lay a new one: as hooks. No program. -/
namespace Go.Sx
open Go.RowKit
set_option linter.unusedVariables false
set_option linter.unusedSimpArgs false

/-- A row that came in stands beside the program's tables. -/
theorem rep_stC {P : Program} {ro : List (Nat × Cont)} (hro : (ro.all fun p => Nat.blt p.1 roN && Nat.blt p.1 P.globals.size) = true) (hgl : P.globals.size ≤ idT) {E : Nat → Nat} {W : World} (hw : ∀ id c, (id, c) ∈ ro → BlkOK (env0 P) W id (.mk (E id) 0 c))
    {l : Loc} {T : Nat} {xs : List AV} {us : List Value} {cs : Array Value} {fr : Nat × Nat} (hb : W.heap[l.blk]? = some (.cells cs T fr)) (hfr : FrOK fr cs.size) (hd : denL (envT P l) xs = some us) (h1 : xs.all AV.one = true) (ho : l.base + us.length ≤ cs.size)
    (hus : ∀ i u, us[i]? = some u → cs[l.base + i]? = some u) (hne : ∀ id c, (id, c) ∈ ro → id ≠ l.blk) : Rep (envT P l) (stT ro E T xs).get W := by
  obtain ⟨hrep, small⟩ := rep_st0 hro hw
  have hle : (env0 P).le (envT P l) := by
    intro id l h
    unfold envT
    have : id ≠ idT := by
      rintro rfl
      unfold env0 at h
      rw [if_neg (by omega)] at h
      cases h
    rw [if_neg this]
    exact h
  have txt : ∀ B, (stT ro E T xs).get idT = some B → B = .mk T 0 (.cells xs) := fun B h => by
    rw [stT_get, if_pos rfl] at h
    exact (Option.some.inj h).symm
  have oth : ∀ id B, (stT ro E T xs).get id = some B → id ≠ idT → (st0 ro E).get id = some B := fun id B h hi => by
    rwa [stT_get, if_neg hi] at h
  refine ⟨fun id B h => ?_, fun i j B C l' m e1 e2 e3 e4 e5 => ?_⟩
  · by_cases hi : id = idT
    · subst hi
      obtain rfl := txt B h
      exact ⟨l, _, by simp [envT], hb, cs, fr, us, rfl, ⟨hfr, fun h => absurd h (by omega)⟩, hd, h1, ho, hus, fun h => absurd rfl h⟩
    · exact (hrep.ok id B (oth id B h hi)).mono hle
  · have loc : ∀ id B l', (st0 ro E).get id = some B → id ≠ idT → envT P l id = some l' → l'.blk = id ∧ id ≠ l.blk := by
      intro id B l' h hi hl
      have hs := (small id B h).2
      unfold envT at hl
      rw [if_neg hi] at hl
      simp only [env0, hs, if_true, Option.some.injEq] at hl
      subst hl
      obtain ⟨c, hm, _⟩ := st0_in h
      exact ⟨rfl, hne id c hm⟩
    by_cases hi : i = idT <;> by_cases hj : j = idT
    · rw [hi, hj]
    · obtain ⟨k1, k2⟩ := loc j C m (oth j C e2 hj) hj e4
      subst hi
      simp only [envT, if_true, Option.some.injEq] at e3
      subst e3
      exact absurd (k1.symm.trans e5.symm) k2
    · obtain ⟨k1, k2⟩ := loc i B l' (oth i B e1 hi) hi e3
      subst hj
      simp only [envT, if_true, Option.some.injEq] at e4
      subst e4
      exact absurd (k1.symm.trans e5) k2
    · obtain ⟨k1, _⟩ := loc i B l' (oth i B e1 hi) hi e3
      obtain ⟨k2, _⟩ := loc j C m (oth j C e2 hj) hj e4
      rw [← k1, ← k2]
      exact e5

/-- A row of bytes stands there. -/
structure RowAt (w : World) (b o T : Nat) (bs : List Nat) : Prop where
  at_ : ∃ cs fr, w.heap[b]? = some (.cells cs T fr) ∧ FrOK fr cs.size ∧ o + bs.length ≤ cs.size ∧ ∀ (i x : Nat), bs[i]? = some x → cs[o + i]? = some (.int .u8 x)

/-- The program's tables stand there, apart from a block. -/
def TabsAt (P : Program) (ro : List (Nat × Cont)) (w : World) (b : Nat) (E : Nat → Nat) : Prop := ∀ id c, (id, c) ∈ ro → BlkOK (env0 P) w id (.mk (E id) 0 c) ∧ id ≠ b

/-- Bytes that are not looked into. -/
def snB : (l : List Nat) → (∀ x ∈ l, x < 256) → List AV
  | [], _ => []
  | x :: l, h => .sn .u8 x (h x (List.mem_cons_self ..)) :: snB l (fun y hy => h y (List.mem_cons_of_mem _ hy))
theorem snB_den {σ : Env} : ∀ (l : List Nat) (h : ∀ x ∈ l, x < 256), denL σ (snB l h) = some (l.map fun (x : Nat) => Value.int .u8 x) ∧ (snB l h).all AV.one = true
  | [], _ => ⟨rfl, rfl⟩
  | x :: l, h => by
    obtain ⟨h1, h2⟩ := snB_den (σ := σ) l (fun y hy => h y (List.mem_cons_of_mem _ hy))
    refine ⟨by simp only [snB, denL, den, h1, List.map_cons]; rfl, ?_⟩
    simp only [snB, List.all_cons, h2, Bool.and_true]
    rfl

/-- A call that reads such a row: its value. -/
theorem row_calls {P : Program} {okT : Nat → Bool} (hk : OkT P okT) (hc : CallsOK P) (hm : P.follows .mixedOrders = true) {hook : Hk} {dhook : Dh} (hh : HkGood P hook) (hd : DhGood P dhook) {rounds n f : Nat} {args : List AV} {us : List Value} {b o T : Nat} (hargs : denL (envT P ⟨b, o, 0⟩) args = some us)
    {ro : List (Nat × Cont)} (hro : (ro.all fun p => Nat.blt p.1 roN && Nat.blt p.1 P.globals.size) = true) (hgl : Nat.ble P.globals.size idT = true) {E : Nat → Nat} {W : World} (hw : TabsAt P ro W b E) {bs : List Nat} (hbs : ∀ x ∈ bs, x < 256) (hrow : RowAt W b o T bs)
    {v : AV} (hrun : (xcall P okT hook dhook rounds n f args (stT ro E T (snB bs hbs))).val = some v) {u : Value} (hv : ∀ σ', den σ' v = some u) :
    Calls P f us.toArray W fun e W' => e = .returned u ∧ OnlyB W W' (fun _ => False) := by
  obtain ⟨cs, fr, h1, h2, h3, h4⟩ := hrow.at_
  obtain ⟨k1, k2⟩ := snB_den (σ := envT P ⟨b, o, 0⟩) bs hbs
  have hgl := Nat.le_of_ble_eq_true hgl
  have hrep := rep_stC hro hgl (fun id c h => (hw id c h).1) (l := ⟨b, o, 0⟩) h1 h2 k1 k2 (by simpa using h3) (fun i u hu => by
    rw [List.getElem?_map] at hu
    obtain ⟨x, hx, rfl⟩ := Option.map_eq_some_iff.1 hu
    exact h4 i x hx) (fun id c h => (hw id c h).2)
  refine env_calls hk hc hm hh hd hargs (Nat.le_refl _) (fun id h => ?_) (fun g hg => ⟨0, ?_⟩) hrep (fun id B h => ?_) hrun hv
  · have h : 256 ≤ id := h
    unfold envT env0
    have : idT = 200 := rfl
    rw [if_neg (by omega), if_neg (by omega)]
  · unfold envT env0
    rw [if_neg (by omega), if_pos hg]
  · rw [stT_get] at h
    split at h
    · rename_i e; subst e; decide
    · obtain ⟨c, hm, _⟩ := st0_in h
      exact blt_of (and3 (List.all_eq_true.1 hro (id, c) hm)).1

/-- The same, of numbers. -/
theorem rowN_calls {P : Program} {okT : Nat → Bool} (hk : OkT P okT) (hc : CallsOK P) (hm : P.follows .mixedOrders = true) {hook : Hk} {dhook : Dh} (hh : HkGood P hook) (hd : DhGood P dhook) {rounds n f : Nat} {args : List AV} {us : List Value} {b o T : Nat} (hargs : denL (envT P ⟨b, o, 0⟩) args = some us)
    {ro : List (Nat × Cont)} (hro : (ro.all fun p => Nat.blt p.1 roN && Nat.blt p.1 P.globals.size) = true) (hgl : Nat.ble P.globals.size idT = true) {E : Nat → Nat} {W : World} (hw : TabsAt P ro W b E) {bs : List Nat} (hbs : ∀ x ∈ bs, x < 256) (hrow : RowAt W b o T bs)
    {k : IntKind} {r : List Nat} (hrun : (xcall P okT hook dhook rounds n f args (stT ro E T (snB bs hbs))).val.bind (nats k) = some r) :
    Calls P f us.toArray W fun e W' => e = .returned (.agg (r.map fun (n : Nat) => Value.int k n).toArray) ∧ OnlyB W W' (fun _ => False) := by
  obtain ⟨v, h1, h2⟩ := Option.bind_eq_some_iff.1 hrun
  exact row_calls hk hc hm hh hd hargs hro hgl hw hbs hrow h1 fun σ => nats_den h2

/-- Bytes that are known. -/
def byteL : List AV → Option (List Nat)
  | [] => some []
  | .int .u8 (.ofNat b) :: l => bif Nat.blt b 256 then (match byteL l with
    | some r => some (b :: r)
    | none => none) else none
  | _ => none
theorem byteL_den {σ : Env} : ∀ {l : List AV} {r : List Nat} {us : List Value}, byteL l = some r → denL σ l = some us → us = (r.map fun (x : Nat) => Value.int .u8 x) ∧ (∀ x ∈ r, x < 256) ∧ r.length = l.length
  | [], r, us, h, hd => by
    obtain rfl := Option.some.inj h
    obtain rfl := denL_nil hd
    exact ⟨rfl, by simp, rfl⟩
  | a :: l, r, us, h, hd => by
    unfold byteL at h
    split at h
    · rename_i heq; cases heq
    · rename_i b l' heq
      injection heq with e1 e2
      subst e1; subst e2
      cases hb : Nat.blt b 256 with
      | false => rw [hb] at h; cases h
      | true =>
        rw [hb] at h
        have hb : b < 256 := blt_of hb
        simp only [cond_true] at h
        split at h
        · rename_i r' hr
          obtain rfl := Option.some.inj h
          obtain ⟨u, us', rfl, hu, hus⟩ := denL_cons hd
          obtain ⟨rfl, h2, h3⟩ := byteL_den hr hus
          obtain rfl := Option.some.inj hu
          exact ⟨rfl, fun x hx => by
            rcases List.mem_cons.1 hx with rfl | hx
            · exact hb
            · exact h2 x hx, by simp [h3]⟩
        · cases h
    · cases h

noncomputable def rowOf (st : St) (id off len : Nat) : Option (List Nat) :=
  match st.get id with
  | some (.mk _ _ c) => match c.cut off len with
    | some r => byteL r.toL
    | none => none
  | none => none

noncomputable section
/-- A call that reads the row of its argument j, and the tables ro, and hands back a value. -/
def rdHook (f j : Nat) (ro : List (Nat × Cont)) (g : List AV → List Nat → Option AV) : Hk := fun h args st =>
  match Nat.beq h f with
  | true => match nthL args j with
    | some (.slc id off len _) => match rowOf st id off len, roB ro st && ro.all (fun p => Bool.not (Nat.beq p.1 id)) with
      | some bs, true => match g args bs with
        | some v => some (.ret v st)
        | none => none
      | _, _ => none
    | _ => none
  | false => none
end

theorem BlkOK.glob {P : Program} {σ : Env} (hg : GlobOK P σ) {w : World} {id e : Nat} {c : Cont} (hlt : id < P.globals.size) (hf : c.flat = true) (hm : c.isMap = false) (h : BlkOK σ w id (.mk e 0 c)) : BlkOK (env0 P) w id (.mk e 0 c) := by
  obtain ⟨l, cs, fr, us, h1, h2, h3, h4, h5, h6, h7, h8⟩ := h.row hm
  obtain ⟨cp, hcp⟩ := hg id hlt
  obtain rfl : l = ⟨id, 0, cp⟩ := Option.some.inj (h1.symm.trans hcp)
  refine ⟨⟨id, 0, 0⟩, _, by simp [env0, hlt], h2, (objOK_row hm).2 ⟨cs, fr, us, rfl, h3, ?_, h5, h6, h7, fun h => absurd rfl h⟩⟩
  rw [← h4]
  cases c with
  | cells vs => exact denL_flat _ _ _ hf
  | bytes n x => rw [unrow_den2, unrow_den2]
  | map es k => cases hm
  | txt pre => cases hm
where
  unrow_den2 {σ : Env} {n x : Nat} : denL σ (Cont.bytes n x).toL = some ((unrowU x n).map fun b => Value.int .u8 b.toNat) := unrow_den n x

theorem rdHook_good {P : Program} {f j : Nat} {ro : List (Nat × Cont)} (hro : (ro.all fun p => Nat.blt p.1 roN && Nat.blt p.1 P.globals.size) = true) (hfl : (ro.all fun p => p.2.flat && Bool.not p.2.isMap) = true) {g : List AV → List Nat → Option AV} (hf : ∃ fn c, nthL P.funcs.toList f = some fn ∧ fn.body = some c)
    (h : ∀ args v bs σ us w id off len cp l T E, nthL args j = some (.slc id off len cp) → g args bs = some v → denL σ args = some us → σ id = some l → bs.length = len → (∀ x ∈ bs, x < 256) → RowAt w l.blk (l.base + off) T bs → TabsAt P ro w l.blk E →
      ∃ u, den σ v = some u ∧ Calls P f us.toArray w fun e w' => e = .returned u ∧ OnlyB w w' (fun _ => False)) : HkGood P (rdHook f j ro g) := by
  have key : ∀ {k args st r}, rdHook f j ro g k args st = some r → k = f ∧ ∃ id off len cp bs v, nthL args j = some (.slc id off len cp) ∧ rowOf st id off len = some bs ∧ roB ro st = true ∧ (ro.all fun p => Bool.not (Nat.beq p.1 id)) = true ∧ g args bs = some v ∧ r = .ret v st := by
    intro k args st r h
    unfold rdHook at h
    split at h
    · rename_i hb
      split at h
      · rename_i id off len cp hj
        split at h
        · rename_i bs hbs hro2
          split at h
          · rename_i v hv
            obtain ⟨q1, q2⟩ := and3 hro2
            exact ⟨nbeq hb, id, off, len, cp, bs, v, hj, hbs, q1, q2, hv, (Option.some.inj h).symm⟩
          · cases h
        · cases h
      · cases h
    · cases h
  refine ⟨fun k args st r hk hne σ w us hr hg hu hfree => ?_, fun k args st r hk => ?_, fun k args st r hk => ?_⟩
  · obtain ⟨rfl, id, off, len, cp, bs, v, hj, hbs, q1, q2, hv, rfl⟩ := key hk
    unfold rowOf at hbs
    split at hbs
    · rename_i e s c hget
      split at hbs
      · rename_i row hcut
        have hB := hr.ok id _ hget
        obtain ⟨l, cs, fr, us0, k1, k2, k3, _⟩ := hB.row (isMap_of_cut hcut)
        obtain ⟨l', us', m1, m2, m3, m4, m5⟩ := hB.range hcut
        obtain rfl : l = l' := Option.some.inj (k1.symm.trans m1)
        obtain ⟨rfl, b2, b3⟩ := byteL_den hbs m2
        have hlen : bs.length = len := by simpa using m3
        have hroE := roB_ok q1
        have tabs : TabsAt P ro w l.blk (elOf st) := fun gid c' hm => by
          have h1 := and3 (List.all_eq_true.1 hro (gid, c') hm)
          have h2 := and3 (List.all_eq_true.1 hfl (gid, c') hm)
          have hlt := blt_of h1.2
          refine ⟨BlkOK.glob hg hlt h2.1 (by simpa using h2.2) (hr.ok gid _ (hroE gid c' hm)), fun e => ?_⟩
          obtain ⟨cp2, hcp⟩ := hg gid hlt
          have := hr.inj gid id _ _ _ _ (hroE gid c' hm) hget hcp k1 e
          subst this
          have := List.all_eq_true.1 q2 (gid, c') hm
          simp at this
        have cell : ∀ (i x : Nat), bs[i]? = some x → cs[l.base + off + i]? = some (.int .u8 x) := fun i x hx => by
          have := m5 i (.int .u8 x) (by rw [List.getElem?_map, hx]; rfl)
          unfold World.cell? at this
          rw [k2] at this
          exact this
        have hsz : l.base + off + bs.length ≤ cs.size := by
          rcases Nat.eq_zero_or_pos bs.length with h0 | h0
          · obtain ⟨_, _, _, _, z1, z2, _, z4, _, z6, _⟩ := hB.row (isMap_of_cut hcut)
            obtain rfl := Option.some.inj (k1.symm.trans z1)
            rw [k2] at z2
            injection z2 with z2
            injection z2 with z2 _ _
            subst z2
            obtain ⟨c1, _⟩ := Cont.cut_eq hcut
            have := denL_length z4
            omega
          · obtain ⟨x, hx⟩ : ∃ x, bs[bs.length - 1]? = some x := ⟨_, List.getElem?_eq_getElem (by omega)⟩
            have := (Array.getElem?_eq_some_iff.1 (cell _ x hx)).1
            omega
        obtain ⟨u, h1, h2⟩ := h args v bs σ us w id off len cp l e (elOf st) hj hv hu k1 hlen b2 ⟨cs, fr, k2, k3.1, hsz, cell⟩ tabs
        refine h2.mono ?_
        rintro e' w' ⟨rfl, ho⟩
        exact ⟨σ, u, rfl, h1, stp_onlyW hr ho⟩
      · cases hbs
    · cases hbs
  · obtain ⟨rfl, id, off, len, cp, bs, v, hj, hbs, q1, q2, hv, rfl⟩ := key hk
    exact Nat.le_refl _
  · obtain ⟨rfl, _⟩ := key hk
    exact hf
end Go.Sx

/- Calls that lay a new row of bytes, as hooks; numbers worked out. No program. -/
namespace Go.Sx
open Go.RowKit
set_option linter.unusedVariables false
set_option linter.unusedSimpArgs false

/-- A number, worked out, and what is done with it. -/
noncomputable def wo {α : Type} (n : Nat) (k : Nat → α) : α := Nat.rec (motive := fun _ => α) (k 0) (fun p _ => k (Nat.succ p)) n
theorem wo_eq {α : Type} (n : Nat) (k : Nat → α) : wo n k = k n := by cases n <;> rfl

/-- A new row of bytes has come. -/
structure RowNew (w : World) (T : Nat) (bs : List Nat) (e : Ending) (w' : World) : Prop where
  at_ : ∃ N o cs fr, e = .returned (.slice (some ⟨N, o, none⟩) bs.length bs.length) ∧ w.heap.size ≤ N ∧ w'.heap[N]? = some (.cells cs T fr) ∧ FrOK fr cs.size ∧ o + bs.length ≤ cs.size ∧ ∀ (i x : Nat), bs[i]? = some x → cs[o + i]? = some (.int .u8 x)
  only : OnlyB w w' (fun _ => False)

/-- Bytes, looked into or not. -/
def natsB : List AV → Option (List Nat)
  | [] => some []
  | .sn .u8 n _ :: l => match natsB l with
    | some r => some (n :: r)
    | none => none
  | .int .u8 (.ofNat n) :: l => match natsB l with
    | some r => some (n :: r)
    | none => none
  | _ => none
theorem natsB_den {σ : Env} : ∀ {l : List AV} {r : List Nat} {us : List Value}, natsB l = some r → denL σ l = some us → us = r.map fun (x : Nat) => Value.int .u8 x
  | [], r, us, h, hd => by
    obtain rfl := Option.some.inj h
    exact denL_nil hd
  | a :: l, r, us, h, hd => by
    obtain ⟨u, us', rfl, hu, hus⟩ := denL_cons hd
    unfold natsB at h
    split at h
    · rename_i heq; cases heq
    · rename_i n hn l' heq
      injection heq with e1 e2
      subst e1; subst e2
      split at h
      · rename_i r' hr
        obtain rfl := Option.some.inj h
        rw [natsB_den hr hus]
        obtain rfl := Option.some.inj hu
        rfl
      · cases h
    · rename_i n l' heq
      injection heq with e1 e2
      subst e1; subst e2
      split at h
      · rename_i r' hr
        obtain rfl := Option.some.inj h
        rw [natsB_den hr hus]
        obtain rfl := Option.some.inj hu
        rfl
      · cases h
    · cases h

/-- A call's end: a new row; its bytes. -/
noncomputable def rowRes (T : Nat) : Ro → Option (List Nat)
  | .ret (.slc id 0 len (.lit c)) st => bif Nat.ble roN id && Nat.beq len c then (match st.get id with
    | some (.mk el 0 (.cells xs)) => bif Nat.beq el T && Nat.beq (lenL xs) len then natsB xs else none
    | _ => none) else none
  | _ => none

theorem lenL_eq2 {α : Type} (l : List α) : lenL l = l.length := by
  induction l with
  | nil => rfl
  | cons a l ih => show Nat.succ (lenL l) = _; rw [ih]; rfl

theorem new_calls {P : Program} {okT : Nat → Bool} (hk : OkT P okT) (hc : CallsOK P) (hm : P.follows .mixedOrders = true) {hook : Hk} {dhook : Dh} (hh : HkGood P hook) (hd : DhGood P dhook) {rounds k f : Nat} {args : List AV} {us : List Value} (hargs : ∀ σ, denL σ args = some us)
    (hgl : Nat.ble P.globals.size roN = true) {E : Nat → Nat} {W : World} {T : Nat} {bs : List Nat} (hrun : rowRes T (xcall P okT hook dhook rounds k f args (st0 [] E)) = some bs) : Calls P f us.toArray W (RowNew W T bs) := by
  have hro : (([] : List (Nat × Cont)).all fun p => Nat.blt p.1 roN && Nat.blt p.1 P.globals.size) = true := rfl
  obtain ⟨hrep, small⟩ := rep_st0 (W := W) (E := E) hro (fun _ _ h => by cases h)
  have hg := Nat.le_of_ble_eq_true hgl
  cases hx : xcall P okT hook dhook rounds k f args (st0 [] E) with
  | no => rw [hx] at hrun; cases hrun
  | pan v st => rw [hx] at hrun; cases hrun
  | ret v st1 =>
    rw [hx] at hrun
    unfold rowRes at hrun
    split at hrun
    · rename_i id len c st heq
      injection heq with e1 e2
      subst e1; subst e2
      cases hb : (Nat.ble roN id && Nat.beq len c) with
      | false => rw [hb] at hrun; cases hrun
      | true =>
        rw [hb] at hrun
        obtain ⟨h1, h2⟩ := and3 hb
        obtain rfl := nbeq h2
        simp only [cond_true] at hrun
        split at hrun
        · rename_i el xs hget
          cases hb2 : (Nat.beq el T && Nat.beq (lenL xs) len) with
          | false => rw [hb2] at hrun; cases hrun
          | true =>
            rw [hb2] at hrun
            obtain ⟨h3, h4⟩ := and3 hb2
            obtain rfl := nbeq h3
            have h4 := nbeq h4
            rw [lenL_eq2] at h4
            simp only [cond_true] at hrun
            refine Calls.mono (calls_of_run (σ := env0 P) hk hc hm hh hd hx hrep (glob0 P) (hargs _) (by simp) (fun id h1 h2 => ?_)) ?_
            · have h1 : roN ≤ id := h1
              simp only [env0]
              rw [if_neg (by omega)]
            · rintro e w' ⟨σ', x, rfl, hdx, hs⟩
              simp only [den, Option.map_eq_some_iff] at hdx
              obtain ⟨l, hl, rfl⟩ := hdx
              obtain ⟨l', cs, fr, us', k1, k2, k3, k4, k5, k6, k7, _⟩ := (hs.rep.ok id _ hget).row rfl
              obtain rfl : l = l' := Option.some.inj (hl.symm.trans k1)
              have hnot : ∀ k, ¬ InH (env0 P) (st0 [] E).get k := by
                rintro k ⟨id', b', l', p0, p1, p2, p3⟩
                have := (small id' b' p1).1
                omega
              have hl2 := denL_length k4
              have hn := natsB_den hrun k4
              have hbl : bs.length = len := by
                rw [← h4]
                have : us'.length = bs.length := by rw [hn]; simp
                have h5 : us'.length = xs.length := hl2
                omega
              refine ⟨⟨l.blk, l.base + 0, cs, fr, by rw [hbl]; rfl, ?_, k2, k3.1, ?_, fun i x hx => ?_⟩, hs.only.os, hs.only.tape, hs.only.output, hs.only.size, fun k hk _ => hs.only.block k hk (hnot k)⟩
              · rcases hs.footW id _ l (Nat.le_of_ble_eq_true h1) hget hl with h | h
                · exact h
                · exact absurd h (hnot _)
              · have h6 : l.base + us'.length ≤ cs.size := k6
                have : us'.length = bs.length := by rw [hn]; simp
                omega
              · exact k7 i _ (by rw [hn, List.getElem?_map, hx]; rfl)
        · cases hrun
    · cases hrun

/-- Bytes, packed, the first lowest. -/
def packN : List Nat → Nat
  | [] => 0
  | b :: l => Nat.add b (Nat.mul 256 (packN l))
theorem packN_eq : ∀ (l : List Nat), (∀ x ∈ l, x < 256) → packN l = packL (l.map UInt8.ofNat)
  | [], _ => rfl
  | b :: l, h => by
    have hb := h b (List.mem_cons_self ..)
    have e : (UInt8.ofNat b).toNat = b := by simp; omega
    simp only [packN, List.map_cons, packL, e, packN_eq l (fun x hx => h x (List.mem_cons_of_mem _ hx))]
theorem packN_den {σ : Env} (l : List Nat) (h : ∀ x ∈ l, x < 256) : denL σ (unrow (packN l) l.length) = some (l.map fun (x : Nat) => Value.int .u8 x) := by
  have h1 := unrow_den (σ := σ) l.length (packN l)
  rw [h1, packN_eq l h]
  have h2 := unrowU_pack (l.map UInt8.ofNat)
  rw [List.length_map] at h2
  rw [h2, List.map_map]
  congr 1
  refine List.map_congr_left fun x hx => ?_
  have : (UInt8.ofNat x).toNat = x := by have := h x hx; simp; omega
  simp only [Function.comp_apply, this]

def allB (l : List Nat) : Bool := l.all fun x => Nat.blt x 256

noncomputable section
/-- A call that lays such a row: f, the bytes' type, its bytes. -/
def nbHook (f T : Nat) (g : List AV → Option (List Nat)) : Hk := fun h args st =>
  match Nat.beq h f with
  | true => match g args with
    | some bs => bif allB bs then wo (packN bs) fun x => some (.ret (.slc st.n 0 (lenL bs) (.lit (lenL bs))) (St.eff st (.n (.tup []) (.mk T 0 (.bytes (lenL bs) x))))) else none
    | none => none
  | false => none
end

theorem nbHook_good {P : Program} {f T : Nat} {g : List AV → Option (List Nat)} (hf : ∃ fn c, nthL P.funcs.toList f = some fn ∧ fn.body = some c)
    (h : ∀ args bs σ us w, g args = some bs → denL σ args = some us → Calls P f us.toArray w (RowNew w T bs)) : HkGood P (nbHook f T g) := by
  have key : ∀ {k args st r}, nbHook f T g k args st = some r → k = f ∧ ∃ bs, g args = some bs ∧ (∀ x ∈ bs, x < 256) ∧ r = .ret (.slc st.n 0 bs.length (.lit bs.length)) (St.eff st (.n (.tup []) (.mk T 0 (.bytes bs.length (packN bs))))) := by
    intro k args st r h
    unfold nbHook at h
    split at h
    · rename_i hb
      split at h
      · rename_i bs hbs
        rw [wo_eq, lenL_eq2] at h
        cases ha : allB bs with
        | false => rw [ha] at h; cases h
        | true =>
          rw [ha] at h
          exact ⟨nbeq hb, bs, hbs, fun x hx => blt_of (List.all_eq_true.1 ha x hx), (Option.some.inj h).symm⟩
      · cases h
    · cases h
  refine ⟨fun k args st r hk hne σ w us hr hg hu hfree => ?_, fun k args st r hk => ?_, fun k args st r hk => ?_⟩
  · obtain ⟨rfl, bs, hbs, hb, rfl⟩ := key hk
    have hn : σ st.n = none := hfree _ (Nat.le_refl _) (by
      cases st
      exact Nat.lt_succ_self _)
    refine (h args bs σ us w hbs hu).mono ?_
    rintro e w' ⟨⟨N, o, cs, fr, rfl, z5, z6, z7, z8, z9⟩, z10⟩
    have he : EffOK σ st.n w (σ.put st.n ⟨N, o, 0⟩) w' (.n (.tup []) (.mk T 0 (.bytes bs.length (packN bs)))) :=
      ⟨⟨N, o, 0⟩, rfl, z5, z10, ⟨N, o, 0⟩, _, Env.put_same _ _ _, z6, cs, fr, _, rfl, ⟨z7, fun h => absurd h (by omega)⟩, packN_den bs hb, unrow_one _ _, by simpa using z8, fun i u hu => by
        rw [List.getElem?_map] at hu
        obtain ⟨x, hx, rfl⟩ := Option.map_eq_some_iff.1 hu
        exact z9 i x hx, fun h => absurd rfl h⟩
    have s2 := he.stp hr (fun _ => hn) rfl (fun i hi => by
      simp only [Eff.ids, List.mem_singleton] at hi
      exact Or.inl ⟨hi, Nat.lt_succ_self _⟩)
    refine ⟨σ.put st.n ⟨N, o, 0⟩, _, rfl, ?_, ?_⟩
    · simp only [den, Env.put_same, Option.map_some]
      rfl
    · have hget : (St.eff st (.n (.tup []) (.mk T 0 (.bytes bs.length (packN bs))))).get = appE st.n (.n (.tup []) (.mk T 0 (.bytes bs.length (packN bs)))) st.get := by
        funext i
        exact eff_get st _ i
      have hnn : (St.eff st (.n (.tup []) (.mk T 0 (.bytes bs.length (packN bs))))).n = st.n + 1 := by cases st; rfl
      rw [hget, hnn]
      exact s2
  · obtain ⟨rfl, bs, hbs, hb, rfl⟩ := key hk
    cases st
    exact Nat.le_succ _
  · obtain ⟨rfl, _⟩ := key hk
    exact hf
end Go.Sx

/- Calls whose first number is only known by a rest: run once, as hooks. No program. -/
namespace Go.Sx
open Go.RowKit Classical
set_option linter.unusedVariables false
set_option linter.unusedSimpArgs false


section
variable {P : Program} {okT : Nat → Bool}

/-- A family of calls that were run: each answer of the hook is one of them. -/
theorem fam_good (hk : OkT P okT) (hc : CallsOK P) (hm : P.follows .mixedOrders = true) {hook : Hk} {dhook : Dh} (hh : HkGood P hook) (hd : DhGood P dhook) {rounds k : Nat} {H : Hk}
    (hH : ∀ f args st r, H f args st = some r → ∃ i : Inst, Nat.ble roN i.n = true ∧ (i.ro.all fun p => Nat.blt p.1 roN) = true ∧ (∀ E, i.chk (xcall P okT hook dhook rounds k i.f i.args (i.st0 E)) = true) ∧
      f = i.f ∧ st.n = i.n ∧ args = i.args ∧ subB i.small st = true ∧ roB i.ro st = true ∧ r = .ret i.v (.mk (putsL i.kept (dropsL i.small st.h)) i.n')) : HkGood P H := by
  have hgood := call_good (okT := okT) hk hc hm hh hd rounds k
  have one : ∀ i : Inst, (∀ E, i.chk (xcall P okT hook dhook rounds k i.f i.args (i.st0 E)) = true) → ∀ E, ∃ st1, xcall P okT hook dhook rounds k i.f i.args (i.st0 E) = .ret i.v st1 ∧ st1.n = i.n' ∧ (∀ id b, (id, b) ∈ i.kept → st1.get id = some b) ∧ i.n ≤ st1.n := by
    intro i run E
    have run := run E
    cases hr : xcall P okT hook dhook rounds k i.f i.args (i.st0 E) with
    | no => rw [hr] at run; cases run
    | pan v st => rw [hr] at run; cases run
    | ret v st1 =>
      rw [hr] at run
      simp only [Inst.chk] at run
      obtain ⟨run, r3⟩ := and3 run
      obtain ⟨r1, r2⟩ := and3 run
      have e1 := AV.beq_eq _ _ r1
      have hmono := hgood.mono i.f i.args (i.st0 E)
      rw [hr] at hmono
      exact ⟨st1, by rw [e1], nbeq r2, subB_ok r3, hmono⟩
  refine ⟨fun f args st r h hne σ w us hrep hg hu hfree => ?_, fun f args st r h => ?_, fun f args st r h => ?_⟩
  · obtain ⟨i, hn, hro0, run, k1, k2, k3, k4, k6, k5⟩ := hH f args st r h
    subst k1; subst k3; subst k5
    have hs := subB_ok k4
    have hro := roB_ok k6
    obtain ⟨st1, hr, e2, e3, hmono⟩ := one i run (elOf st)
    have hsub : ∀ id b, (i.st0 (elOf st)).get id = some b → st.get id = some b := fun id b e => by
      rcases st0_get i _ e with h | ⟨_, c, h1, h2⟩
      · exact hs id b h
      · rw [h2]; exact hro id c h1
    have hfree' : ∀ id, i.n ≤ id → id < st1.n → σ id = none := fun id h1 h2 => hfree id (by rw [k2]; exact h1) (by rw [e2] at h2; exact h2)
    have hC := (hgood.ok i.f i.args (i.st0 (elOf st)) σ w us (hrep.sub hsub) hg hu).1 _ st1 hr hfree'
    refine Calls.mono hC ?_
    rintro e w' ⟨σ', u, rfl, hv, hstp⟩
    refine ⟨σ', u, rfl, hv, ?_⟩
    have hstp : Stp σ (i.st0 (elOf st)).get i.n w σ' st1.get st1.n w' := hstp
    rw [k2]
    show Stp σ st.get i.n w σ' (St.mk (putsL i.kept (dropsL i.small st.h)) i.n').get i.n' w'
    rw [← e2]
    have hs2 := hstp.frame (g' := fun id => if (∃ c, (id, c) ∈ i.ro) ∧ (∀ b, (id, b) ∉ i.kept) then none else getP (path id) (putsL i.kept (dropsL i.small st.h))) hrep hsub (fun id h1 h2 => by
      cases hq : st.get id with
      | none => rfl
      | some b =>
        exfalso
        obtain ⟨l, _, hl, _⟩ := hrep.ok id b hq
        rw [hfree' id h1 h2] at hl; cases hl) (fun id b hb => by
      split at hb
      · cases hb
      · rename_i hc
        rcases putsL_get _ _ id b hb with h1 | ⟨h1, h2⟩
        · exact Or.inl (e3 id b h1)
        · obtain ⟨h3, h4⟩ := dropsL_get _ _ id b h1
          refine Or.inr ⟨?_, h3⟩
          cases hq : (i.st0 (elOf st)).get id with
          | none => rfl
          | some d =>
            exfalso
            rcases st0_get i _ hq with h | ⟨_, c, h5, _⟩
            · exact h4 d h
            · exact hc ⟨⟨c, h5⟩, h2⟩)
    refine hs2.addRo hrep (Nat.le_of_ble_eq_true hn) fun id b hb => ?_
    have hb : getP (path id) (putsL i.kept (dropsL i.small st.h)) = some b := hb
    by_cases hc : (∃ c, (id, c) ∈ i.ro) ∧ (∀ b, (id, b) ∉ i.kept)
    · refine Or.inr ⟨?_, ?_⟩
      · obtain ⟨⟨c, h⟩, _⟩ := hc
        exact blt_of (List.all_eq_true.1 hro0 (id, c) h)
      · rcases putsL_get _ _ id b hb with h1 | ⟨h1, h2⟩
        · exact absurd h1 (hc.2 b)
        · exact (dropsL_get _ _ id b h1).1
    · exact Or.inl (by rw [if_neg hc]; exact hb)
  · obtain ⟨i, hn, hro0, run, k1, k2, k3, k4, k6, k5⟩ := hH f args st r h
    subst k5
    show st.n ≤ i.n'
    obtain ⟨st1, hr, e2, e3, hmono⟩ := one i run (elOf st)
    rw [k2, ← e2]
    exact hmono
  · obtain ⟨i, hn, hro0, run, k1, k2, k3, k4, k6, k5⟩ := hH f args st r h
    subst k1
    obtain ⟨st1, hr, e2, e3, hmono⟩ := one i run (elOf st)
    exact hgood.has i.f i.args (i.st0 (elOf st)) (by rw [hr]; simp)

/-- Such a call, but for its first number. -/
def Inst.withA (i : Inst) (a : AV) : Inst := { i with args := a :: i.args.tail }
noncomputable def Inst.parHook (i : Inst) (m r : Nat) : Hk := fun f args st =>
  match args with
  | .par .u8 n m' r' h :: rest => bif Nat.beq m' m && Nat.beq r' r && (Nat.beq f i.f && (Nat.beq st.n i.n && (AV.beqL rest i.args.tail && (subB i.small st && roB i.ro st)))) then some (.ret i.v (.mk (putsL i.kept (dropsL i.small st.h)) i.n')) else none
  | _ => none
theorem par_good (hk : OkT P okT) (hc : CallsOK P) (hm : P.follows .mixedOrders = true) {hook : Hk} {dhook : Dh} (hh : HkGood P hook) (hd : DhGood P dhook) {rounds k m r : Nat} (i : Inst) (hn : Nat.ble roN i.n = true) (hro0 : (i.ro.all fun p => Nat.blt p.1 roN) = true)
    (run : ∀ n h E, i.chk (xcall P okT hook dhook rounds k i.f (.par .u8 n m r h :: i.args.tail) (i.st0 E)) = true) : HkGood P (i.parHook m r) := by
  refine fam_good hk hc hm hh hd (rounds := rounds) (k := k) fun f args st x h => ?_
  unfold Inst.parHook at h
  split at h
  · rename_i n m' r' hp rest
    simp only [cond_eq_ite] at h
    split at h
    · rename_i hb
      obtain ⟨h0, hb⟩ := and3 hb
      obtain ⟨ha, hb0⟩ := and3 h0
      obtain ⟨h1, hb⟩ := and3 hb
      obtain ⟨h2, hb⟩ := and3 hb
      obtain ⟨h3, hb⟩ := and3 hb
      obtain ⟨h4, h5⟩ := and3 hb
      obtain rfl := nbeq ha
      obtain rfl := nbeq hb0
      obtain rfl := AV.beqL_eq _ _ h3
      exact ⟨i.withA (.par .u8 n m' r' hp), hn, hro0, fun E => run n hp E, nbeq h1, nbeq h2, rfl, h4, h5, (Option.some.inj h).symm⟩
    · cases h
  · cases h
end
end Go.Sx

/- Calls that read rows of known bytes and lay a new one. No program. -/
namespace Go.Sx
open Go.RowKit
set_option linter.unusedVariables false

/-- A row of known bytes stands in the world. -/
theorem rowOf_at {σ : Env} {st : St} {w : World} (hr : Rep σ st.get w) {id off len : Nat} {bs : List Nat} (hbs : rowOf st id off len = some bs) :
    ∃ l e, σ id = some l ∧ bs.length = len ∧ (∀ x ∈ bs, x < 256) ∧ RowAt w l.blk (l.base + off) e bs := by
  unfold rowOf at hbs
  split at hbs
  · rename_i e s c hget
    split at hbs
    · rename_i row hcut
      have hB := hr.ok id _ hget
      obtain ⟨l, cs, fr, us0, k1, k2, k3, _⟩ := hB.row (isMap_of_cut hcut)
      obtain ⟨l', us', m1, m2, m3, m4, m5⟩ := hB.range hcut
      obtain rfl : l = l' := Option.some.inj (k1.symm.trans m1)
      obtain ⟨rfl, b2, b3⟩ := byteL_den hbs m2
      have hlen : bs.length = len := by simpa using m3
      have cell : ∀ (i x : Nat), bs[i]? = some x → cs[l.base + off + i]? = some (.int .u8 x) := fun i x hx => by
        have := m5 i (.int .u8 x) (by rw [List.getElem?_map, hx]; rfl)
        unfold World.cell? at this
        rw [k2] at this
        exact this
      have hsz : l.base + off + bs.length ≤ cs.size := by
        rcases Nat.eq_zero_or_pos bs.length with h0 | h0
        · obtain ⟨_, _, _, _, z1, z2, _, z4, _, z6, _⟩ := hB.row (isMap_of_cut hcut)
          obtain rfl := Option.some.inj (k1.symm.trans z1)
          rw [k2] at z2
          injection z2 with z2
          injection z2 with z2 _ _
          subst z2
          obtain ⟨c1, _⟩ := Cont.cut_eq hcut
          have := denL_length z4
          omega
        · obtain ⟨x, hx⟩ : ∃ x, bs[bs.length - 1]? = some x := ⟨_, List.getElem?_eq_getElem (by omega)⟩
          have := (Array.getElem?_eq_some_iff.1 (cell _ x hx)).1
          omega
      exact ⟨l, e, k1, hlen, b2, ⟨cs, fr, k2, k3.1, hsz, cell⟩⟩
    · cases hbs
  · cases hbs

noncomputable section
/-- A call that lays a row of bytes, by what stands there: f, the bytes' type, its bytes. -/
def nsHook (f T : Nat) (g : List AV → St → Option (List Nat)) : Hk := fun h args st =>
  match Nat.beq h f with
  | true => match g args st with
    | some bs => bif allB bs then wo (packN bs) fun x => some (.ret (.slc st.n 0 (lenL bs) (.lit (lenL bs))) (St.eff st (.n (.tup []) (.mk T 0 (.bytes (lenL bs) x))))) else none
    | none => none
  | false => none
end

theorem nsHook_good {P : Program} {f T : Nat} {g : List AV → St → Option (List Nat)} (hf : ∃ fn c, nthL P.funcs.toList f = some fn ∧ fn.body = some c)
    (h : ∀ args st bs σ us w, g args st = some bs → Rep σ st.get w → denL σ args = some us → Calls P f us.toArray w (RowNew w T bs)) : HkGood P (nsHook f T g) := by
  have key : ∀ {k args st r}, nsHook f T g k args st = some r → k = f ∧ ∃ bs, g args st = some bs ∧ (∀ x ∈ bs, x < 256) ∧ r = .ret (.slc st.n 0 bs.length (.lit bs.length)) (St.eff st (.n (.tup []) (.mk T 0 (.bytes bs.length (packN bs))))) := by
    intro k args st r h
    unfold nsHook at h
    split at h
    · rename_i hb
      split at h
      · rename_i bs hbs
        rw [wo_eq, lenL_eq2] at h
        cases ha : allB bs with
        | false => rw [ha] at h; cases h
        | true =>
          rw [ha] at h
          exact ⟨nbeq hb, bs, hbs, fun x hx => blt_of (List.all_eq_true.1 ha x hx), (Option.some.inj h).symm⟩
      · cases h
    · cases h
  refine ⟨fun k args st r hk hne σ w us hr hg hu hfree => ?_, fun k args st r hk => ?_, fun k args st r hk => ?_⟩
  · obtain ⟨rfl, bs, hbs, hb, rfl⟩ := key hk
    have hn : σ st.n = none := hfree _ (Nat.le_refl _) (by
      cases st
      exact Nat.lt_succ_self _)
    refine (h args st bs σ us w hbs hr hu).mono ?_
    rintro e w' ⟨⟨N, o, cs, fr, rfl, z5, z6, z7, z8, z9⟩, z10⟩
    have he : EffOK σ st.n w (σ.put st.n ⟨N, o, 0⟩) w' (.n (.tup []) (.mk T 0 (.bytes bs.length (packN bs)))) :=
      ⟨⟨N, o, 0⟩, rfl, z5, z10, ⟨N, o, 0⟩, _, Env.put_same _ _ _, z6, cs, fr, _, rfl, ⟨z7, fun h => absurd h (by omega)⟩, packN_den bs hb, unrow_one _ _, by simpa using z8, fun i u hu => by
        rw [List.getElem?_map] at hu
        obtain ⟨x, hx, rfl⟩ := Option.map_eq_some_iff.1 hu
        exact z9 i x hx, fun h => absurd rfl h⟩
    have s2 := he.stp hr (fun _ => hn) rfl (fun i hi => by
      simp only [Eff.ids, List.mem_singleton] at hi
      exact Or.inl ⟨hi, Nat.lt_succ_self _⟩)
    refine ⟨σ.put st.n ⟨N, o, 0⟩, _, rfl, ?_, ?_⟩
    · simp only [den, Env.put_same, Option.map_some]
      rfl
    · have hget : (St.eff st (.n (.tup []) (.mk T 0 (.bytes bs.length (packN bs))))).get = appE st.n (.n (.tup []) (.mk T 0 (.bytes bs.length (packN bs)))) st.get := by
        funext i
        exact eff_get st _ i
      have hnn : (St.eff st (.n (.tup []) (.mk T 0 (.bytes bs.length (packN bs))))).n = st.n + 1 := by cases st; rfl
      rw [hget, hnn]
      exact s2
  · obtain ⟨rfl, bs, hbs, hb, rfl⟩ := key hk
    cases st
    exact Nat.le_succ _
  · obtain ⟨rfl, _⟩ := key hk
    exact hf
end Go.Sx
