/- Calls that only reckon, as hooks; a law whose arguments lie in a block that is read. No program. -/
import Derived.Test.YtjfmelmiegnmjaaGreatDoorXSd
set_option linter.all false
namespace Go.Sx
open Go.RowKit
set_option linter.unusedVariables false

noncomputable section
/-- A call that only reckons. -/
def pureHook (f : Nat) (g : List AV → Option AV) : Hk := fun h args st =>
  match Nat.beq h f with
  | true => match g args with
    | some v => some (.ret v st)
    | none => none
  | false => none
end

theorem pureHook_good {P : Program} {f : Nat} {g : List AV → Option AV} (hf : ∃ fn c, nthL P.funcs.toList f = some fn ∧ fn.body = some c)
    (h : ∀ args v σ us, g args = some v → denL σ args = some us → ∃ u, den σ v = some u ∧ ∀ w, Calls P f us.toArray w fun e w' => e = .returned u ∧ w' = w) : HkGood P (pureHook f g) := by
  have key : ∀ {k args st r}, pureHook f g k args st = some r → k = f ∧ ∃ v, g args = some v ∧ r = .ret v st := by
    intro k args st r h
    unfold pureHook at h
    split at h
    · rename_i hb
      split at h
      · rename_i v hv
        exact ⟨nbeq hb, v, hv, (Option.some.inj h).symm⟩
      · cases h
    · cases h
  refine ⟨fun k args st r hk hne σ w us hr hg hu hfree => ?_, fun k args st r hk => ?_, fun k args st r hk => ?_⟩
  · obtain ⟨rfl, v, hv, rfl⟩ := key hk
    obtain ⟨u, h1, h2⟩ := h args v σ us hv hu
    refine (h2 w).mono ?_
    rintro e w' ⟨rfl, rfl⟩
    exact ⟨σ, u, rfl, h1, Stp.refl hr⟩
  · obtain ⟨rfl, v, hv, rfl⟩ := key hk
    exact Nat.le_refl _
  · obtain ⟨rfl, _⟩ := key hk
    exact hf

/-- A law's call, from a heap that is read alone. -/
theorem law_env {P : Program} {okT : Nat → Bool} (hk : OkT P okT) (hc : CallsOK P) (hm : P.follows .mixedOrders = true) {hook : Hk} {dhook : Dh} (hh : HkGood P hook) (hd : DhGood P dhook) {rounds k f N : Nat} {c : Code} {rs : List ResultVar}
    (hf : fnOf P f = some (N, c, rs)) {args : List AV} {us : List Value} {σ : Env} (hargs : denL σ args = some us) {st : St} (hn : roN ≤ st.n) (hσ : ∀ id, roN ≤ id → σ id = none) (hg : GlobOK P σ) {W : World} (hrep : Rep σ st.get W) (hro : ∀ id b, st.get id = some b → id < roN)
    (htrue : (xleave P dhook rs (xcode P okT (xcall P okT hook dhook rounds k) N rounds c (argsTr 0 args .lf) [] st)).isTrue = true) :
    Calls P f us.toArray W fun e W' => e = .returned (.bool true) ∧ Below W.heap.size W W' := by
  have hrr : ∃ st', xleave P dhook rs (xcode P okT (xcall P okT hook dhook rounds k) N rounds c (argsTr 0 args .lf) [] st) = .ret (.bool true) st' := by
    cases hx : xleave P dhook rs (xcode P okT (xcall P okT hook dhook rounds k) N rounds c (argsTr 0 args .lf) [] st) with
    | no => rw [hx] at htrue; cases htrue
    | pan => rw [hx] at htrue; cases htrue
    | ret v st' =>
      rw [hx] at htrue
      cases v <;> try (cases htrue; done)
      rename_i b
      obtain rfl : b = true := htrue
      exact ⟨st', rfl⟩
  obtain ⟨st', hx⟩ := hrr
  have := body_of_runs hc hd hf (runs_code hk hc hm (call_good (okT := okT) hk hc hm hh hd rounds k) rounds c _ _ _) hrep hg hargs (by rw [hx]; simp) (by
    rw [hx]
    intro id h1 h2
    exact hσ id (Nat.le_trans hn h1))
  refine Calls.mono this ?_
  rintro e w' hb
  rw [hx] at hb
  obtain ⟨σ', u, rfl, hu, hs⟩ := hb
  obtain rfl : Value.bool true = u := Option.some.inj hu
  refine ⟨rfl, ⟨hs.only.os, hs.only.tape, hs.only.output, hs.only.size, fun k hk => hs.only.block k hk ?_⟩⟩
  rintro ⟨id, b, l, h0, h1, h2, h3⟩
  have := hro id b h1
  omega

/-! ### A text that came in -/
/-- The name of its block. -/
def idT : Nat := 200

noncomputable section
/-- So many bytes. -/
def bytesF (f : Nat → Int) : Nat → List AV
  | 0 => []
  | n + 1 => .int .u8 (f 0) :: bytesF (fun i => f (i + 1)) n

/-- The heap ahead of a law: the variables that are read, and the text. -/
def stT (ro : List (Nat × Cont)) (E : Nat → Nat) (T : Nat) (xs : List AV) : St :=
  match st0 ro E with
  | .mk h n => .mk (putP (some (.mk T 0 (.cells xs))) (path idT) h) n

def envT (P : Program) (l : Loc) : Env := fun id => if id = idT then some l else env0 P id
end

theorem bytesF_den (σ : Env) : ∀ (n : Nat) (f : Nat → Int), ∃ us, denL σ (bytesF f n) = some us ∧ us.length = n ∧ (∀ i, i < n → us[i]? = some (.int .u8 (f i))) ∧ (bytesF f n).all AV.one = true
  | 0, f => ⟨[], rfl, rfl, fun i h => absurd h (by omega), rfl⟩
  | n + 1, f => by
    obtain ⟨us, h1, h2, h3, h4⟩ := bytesF_den σ n (fun i => f (i + 1))
    refine ⟨.int .u8 (f 0) :: us, by simp only [bytesF, denL, den, h1], by simp [h2], fun i hi => ?_, ?_⟩
    · cases i with
      | zero => rfl
      | succ i => simpa using h3 i (by omega)
    · simp only [bytesF, List.all_cons, h4, Bool.and_true]
      rfl

theorem stT_get {ro : List (Nat × Cont)} {E : Nat → Nat} {T : Nat} {xs : List AV} (id : Nat) : (stT ro E T xs).get id = if id = idT then some (.mk T 0 (.cells xs)) else (st0 ro E).get id := by
  unfold stT
  cases h : st0 ro E with
  | mk hh n =>
    show getP (path id) (putP _ (path idT) hh) = _
    rw [get_put]
    rfl

/-- The text's block is none of the variables'. -/
theorem rep_stT {P : Program} {ro : List (Nat × Cont)} (hro : (ro.all fun p => Nat.blt p.1 roN && Nat.blt p.1 P.globals.size) = true) (hgl : P.globals.size ≤ idT) {E : Nat → Nat} {W : World} (hw : ∀ id c, (id, c) ∈ ro → BlkOK (env0 P) W id (.mk (E id) 0 c))
    {n : Nat} {f : Nat → Int} {b o T : Nat} {cs : Array Value} {fr : Nat × Nat} (hb : W.heap[b]? = some (.cells cs T fr)) (hfr : FrOK fr cs.size) (ho : o + n ≤ cs.size) (hcs : ∀ i, i < n → cs[o + i]? = some (.int .u8 (f i))) (hne : ∀ id c, (id, c) ∈ ro → id ≠ b) :
    Rep (envT P ⟨b, o, 0⟩) (stT ro E T (bytesF f n)).get W := by
  obtain ⟨hrep, small⟩ := rep_st0 hro hw
  obtain ⟨us, h1, h2, h3, h4⟩ := bytesF_den (envT P ⟨b, o, 0⟩) n f
  have hle : (env0 P).le (envT P ⟨b, o, 0⟩) := by
    intro id l h
    unfold envT
    have : id ≠ idT := by
      rintro rfl
      unfold env0 at h
      rw [if_neg (by omega)] at h
      cases h
    rw [if_neg this]
    exact h
  have txt : ∀ B, (stT ro E T (bytesF f n)).get idT = some B → B = .mk T 0 (.cells (bytesF f n)) := fun B h => by
    rw [stT_get, if_pos rfl] at h
    exact (Option.some.inj h).symm
  have oth : ∀ id B, (stT ro E T (bytesF f n)).get id = some B → id ≠ idT → (st0 ro E).get id = some B := fun id B h hi => by
    rwa [stT_get, if_neg hi] at h
  refine ⟨fun id B h => ?_, fun i j B C l m e1 e2 e3 e4 e5 => ?_⟩
  · by_cases hi : id = idT
    · subst hi
      obtain rfl := txt B h
      refine ⟨⟨b, o, 0⟩, _, by simp [envT], hb, cs, fr, us, rfl, ⟨hfr, fun h => absurd h (by omega)⟩, h1, h4, by rw [h2]; exact ho, fun i u hu => ?_, fun h => absurd rfl h⟩
      have hi : i < n := by
        have := (List.getElem?_eq_some_iff.1 hu).1
        omega
      rw [h3 i hi] at hu
      obtain rfl := Option.some.inj hu
      exact hcs i hi
    · exact (hrep.ok id B (oth id B h hi)).mono hle
  · have loc : ∀ id B l, (st0 ro E).get id = some B → id ≠ idT → envT P ⟨b, o, 0⟩ id = some l → l.blk = id ∧ id ≠ b := by
      intro id B l h hi hl
      have hs := (small id B h).2
      unfold envT at hl
      rw [if_neg hi] at hl
      simp only [env0, hs, if_true, Option.some.injEq] at hl
      subst hl
      obtain ⟨c, hm, _⟩ := st0_in h
      exact ⟨rfl, hne id c hm⟩
    by_cases hi : i = idT <;> by_cases hj : j = idT
    · rw [hi, hj]
    · obtain ⟨k1, k2⟩ := loc j C m (oth j C e2 hj) hj e4
      subst hi
      simp only [envT, if_true, Option.some.injEq] at e3
      subst e3
      exact absurd (k1.symm.trans e5.symm) k2
    · obtain ⟨k1, k2⟩ := loc i B l (oth i B e1 hi) hi e3
      subst hj
      simp only [envT, if_true, Option.some.injEq] at e4
      subst e4
      exact absurd (k1.symm.trans e5) k2
    · obtain ⟨k1, _⟩ := loc i B l (oth i B e1 hi) hi e3
      obtain ⟨k2, _⟩ := loc j C m (oth j C e2 hj) hj e4
      rw [← k1, ← k2]
      exact e5
end Go.Sx

/- A function that inserts one element into a row, as a hook: its contract comes from a walk. No program. -/
namespace Go.Sx
open Go.RowKit
set_option linter.unusedVariables false
set_option linter.unusedSimpArgs false

noncomputable section
def insNOK (T size n id v off eo ov el sl len l2 : Nat) (cs ds : List AV) : Bool :=
  Nat.beq el T && (Nat.beq sl size && (Nat.ble roN id && (Bool.not (Nat.beq id v) && (Nat.beq off (Nat.mul eo size) && (Nat.ble (Nat.add off (Nat.mul n size)) (lenL cs) && (Nat.ble (Nat.add ov size) (lenL ds) && (cs.all AV.one && (ds.all AV.one && (Nat.beq len n && Nat.beq l2 1)))))))))

def insNC (size n i off ov : Nat) (cs ds : List AV) : List AV := ((cs.drop off).take (i * size) ++ (ds.drop ov).take size) ++ (cs.drop (off + i * size)).take ((n - i) * size)

def insNR (T size n i : Nat) (args : List AV) (st : St) : Option Ro :=
  match args with
  | [.slc id off len (.op eo), .int .i64 (.ofNat k), .slc v ov l2 cv] =>
    match st.get id, st.get v with
    | some (.mk el sl (.cells cs)), some (.mk el2 sl2 (.cells ds)) =>
      match Nat.beq k i && insNOK T size n id v off eo ov el sl len l2 cs ds with
      | true => some (.ret (.slc st.n 0 (n + 1) (.op 0)) (st.eff (.k (.tup []) id (.mk T size (.cells (insNC size n i off ov cs ds))))))
      | false => none
    | _, _ => none
  | _ => none

def insNHook (f T size n i : Nat) : Hk := fun g args st =>
  match Nat.beq g f with
  | true => insNR T size n i args st
  | false => none
end

/-- There is room. -/
def InsNShift (P : Program) (f T size n i : Nat) : Prop :=
  ∀ (g o c vb ov cv : Nat) (cs ds : Array Value) (Tv : TypeId) (frv : Nat × Nat) (xs vs : List Value) (w : World),
    w.heap[g]? = some (.cells cs T (0, 0)) → cs.size = o + c * size → n + 1 ≤ c → c ≤ 9223372036854775807 → xs.length = (n - i) * size → (∀ j u, xs[j]? = some u → cs[o + i * size + j]? = some u) →
    w.heap[vb]? = some (.cells ds Tv frv) → vs.length = size → (∀ j u, vs[j]? = some u → ds[ov + j]? = some u) → vb ≠ g → (∀ u ∈ xs, u.oneCell' = true) → (∀ u ∈ vs, u.oneCell' = true) →
    Calls P f #[.slice (some ⟨g, o, none⟩) n c, .int .i64 i, .slice (some ⟨vb, ov, none⟩) 1 cv] w fun e w' => e = .returned (.slice (some ⟨g, o, none⟩) (n + 1) c) ∧ w' = (w.drew.setCells g (o + (i + 1) * size) xs).setCells g (o + i * size) vs

/-- There is none. -/
def InsNGrow (P : Program) (f T size n i : Nat) : Prop :=
  ∀ (g o vb ov cv : Nat) (cs ds : Array Value) (Tv : TypeId) (frv : Nat × Nat) (ps xs vs : List Value) (w : World),
    w.heap[g]? = some (.cells cs T (0, 0)) → ps.length = i * size → (∀ j u, ps[j]? = some u → cs[o + j]? = some u) → xs.length = (n - i) * size → (∀ j u, xs[j]? = some u → cs[o + i * size + j]? = some u) →
    w.heap[vb]? = some (.cells ds Tv frv) → vs.length = size → (∀ j u, vs[j]? = some u → ds[ov + j]? = some u) → (∀ u ∈ ps, u.oneCell' = true) → (∀ u ∈ xs, u.oneCell' = true) → (∀ u ∈ vs, u.oneCell' = true) →
    Calls P f #[.slice (some ⟨g, o, none⟩) n n, .int .i64 i, .slice (some ⟨vb, ov, none⟩) 1 cv] w fun e w' => ∃ (G : Nat) (zs : Array Value), n + 1 ≤ G ∧ G ≤ 9223372036854775807 ∧ zs.size = G * size ∧ (∀ (j : Nat) (u : Value), ps[j]? = some u → zs[j]? = some u) ∧
      e = .returned (.slice (some ⟨w.heap.size, 0, none⟩) (n + 1) G) ∧ w' = ((w.drew.alloc (.cells zs T)).setCells w.heap.size (i * size) vs).drew.setCells w.heap.size ((i + 1) * size) xs

section
variable {P : Program} {f T size n i : Nat}

theorem insNR_ok {args : List AV} {st : St} {r : Ro} (h : insNR T size n i args st = some r) : ∃ id off eo v ov cv cs el2 sl2 ds, args = [.slc id off n (.op eo), .int .i64 i, .slc v ov 1 cv] ∧ st.get id = some (.mk T size (.cells cs)) ∧ st.get v = some (.mk el2 sl2 (.cells ds)) ∧
    roN ≤ id ∧ id ≠ v ∧ off = eo * size ∧ off + n * size ≤ cs.length ∧ ov + size ≤ ds.length ∧ cs.all AV.one = true ∧ ds.all AV.one = true ∧
    r = .ret (.slc st.n 0 (n + 1) (.op 0)) (st.eff (.k (.tup []) id (.mk T size (.cells (insNC size n i off ov cs ds))))) := by
  unfold insNR at h
  split at h
  · rename_i id off len eo k v ov l2 cv
    split at h
    · rename_i el sl cs el2 sl2 ds h1 h2
      split at h
      · rename_i hok
        unfold insNOK at hok
        obtain ⟨k0, hok⟩ := and3 hok
        obtain ⟨k1, hok⟩ := and3 hok
        obtain ⟨k2, hok⟩ := and3 hok
        obtain ⟨k3, hok⟩ := and3 hok
        obtain ⟨k4, hok⟩ := and3 hok
        obtain ⟨k5, hok⟩ := and3 hok
        obtain ⟨k6, hok⟩ := and3 hok
        obtain ⟨k7, hok⟩ := and3 hok
        obtain ⟨k8, hok⟩ := and3 hok
        obtain ⟨k9, hok⟩ := and3 hok
        obtain ⟨k10, k11⟩ := and3 hok
        obtain rfl := nbeq k0
        obtain rfl := nbeq k1
        obtain rfl := nbeq k2
        obtain rfl := nbeq k10
        obtain rfl := nbeq k11
        have k4 : id ≠ v := by
          rintro rfl
          rw [Nat.beq_refl] at k4
          cases k4
        have k6 := Nat.le_of_ble_eq_true k6
        have k7 := Nat.le_of_ble_eq_true k7
        rw [lenL_eq] at k6 k7
        exact ⟨id, off, eo, v, ov, cv, cs, el2, sl2, ds, rfl, h1, h2, Nat.le_of_ble_eq_true k3, k4, nbeq k5, k6, k7, k8, k9, (Option.some.inj h).symm⟩
      · cases h
    · cases h
  · cases h

theorem insNHook_good (h1 : 1 < size) (hi : i < n) (hf : ∃ fn c, nthL P.funcs.toList f = some fn ∧ fn.body = some c) (hsh : InsNShift P f T size n i) (hgr : InsNGrow P f T size n i) : HkGood P (insNHook f T size n i) := by
  have key : ∀ {g args st r}, insNHook f T size n i g args st = some r → g = f ∧ insNR T size n i args st = some r := by
    intro g args st r h
    unfold insNHook at h
    split at h
    · rename_i hb
      exact ⟨nbeq hb, h⟩
    · cases h
  have hin : i * size + (n - i) * size = n * size := by
    rw [← Nat.add_mul]
    congr 1
    omega
  have hsz1 : (i + 1) * size = i * size + size := by rw [Nat.add_mul]; omega
  have hn1 : (n + 1) * size = n * size + size := by rw [Nat.add_mul]; omega
  refine ⟨fun g args st r h hne σ w us hr hg hu hfree => ?_, fun g args st r h => ?_, fun g args st r h => ?_⟩
  · obtain ⟨rfl, h'⟩ := key h
    obtain ⟨id, off, eo, v, ov, cv, cs, el2, sl2, ds, rfl, hid, hv, hro, hne', rfl, hcs, hds, ho1, ho2, rfl⟩ := insNR_ok h'
    -- where the rows lie
    obtain ⟨l, o, e1, e2, e3⟩ := hr.ok id _ hid
    obtain ⟨Cs, fr, uc, rfl, ⟨_, c1⟩, c2, c3, c4, c5, c6⟩ := e3
    obtain ⟨lv, o', f1, f2, f3⟩ := hr.ok v _ hv
    obtain ⟨Ds, frv, ud, rfl, _, d2, d3, d4, d5, d6⟩ := f3
    obtain rfl := c1 h1
    obtain ⟨c6, c7⟩ := c6 (by omega)
    have huc : uc.length = cs.length := denL_length c2
    have hud : ud.length = ds.length := denL_length d2
    simp only [denL, den, e1, f1, Option.map_some, Option.some.injEq, capDen] at hu
    subst hu
    have hps := denL_take (i * size) (denL_drop (eo * size) c2)
    have hxs := denL_take ((n - i) * size) (denL_drop (eo * size + i * size) c2)
    have hvs := denL_take size (denL_drop ov d2)
    obtain ⟨ps, hpe⟩ : ∃ ps, ps = (uc.drop (eo * size)).take (i * size) := ⟨_, rfl⟩
    obtain ⟨xs, hxe⟩ : ∃ xs, xs = (uc.drop (eo * size + i * size)).take ((n - i) * size) := ⟨_, rfl⟩
    obtain ⟨vs, hve⟩ : ∃ vs, vs = (ud.drop ov).take size := ⟨_, rfl⟩
    rw [← hpe] at hps
    rw [← hxe] at hxs
    rw [← hve] at hvs
    have hpl : ps.length = i * size := by rw [hpe]; simp; omega
    have hxl : xs.length = (n - i) * size := by rw [hxe]; simp; omega
    have hvl : vs.length = size := by rw [hve]; simp; omega
    have sub : ∀ {L : List Value} {a m : Nat} {C : Array Value} {b : Nat}, (∀ j u, L[j]? = some u → C[b + j]? = some u) → ∀ j u, ((L.drop a).take m)[j]? = some u → C[b + a + j]? = some u := by
      intro L a m C b hL j u hj
      rw [List.getElem?_take] at hj
      split at hj
      · rw [List.getElem?_drop] at hj
        rw [Nat.add_assoc]
        exact hL _ _ hj
      · cases hj
    have hpat : ∀ j u, ps[j]? = some u → Cs[l.base + eo * size + j]? = some u := by rw [hpe]; exact sub c5
    have hxat : ∀ j u, xs[j]? = some u → Cs[l.base + eo * size + i * size + j]? = some u := by
      rw [hxe]
      intro j u hj
      have := sub c5 j u hj
      rwa [← Nat.add_assoc] at this
    have hvat : ∀ j u, vs[j]? = some u → Ds[lv.base + ov + j]? = some u := by rw [hve]; exact sub d5
    have hone : ∀ {L : List AV} {n m : Nat}, L.all AV.one = true → ((L.drop n).take m).all AV.one = true := by
      intro L n m hL
      rw [List.all_eq_true] at hL ⊢
      exact fun x hx => hL x (List.mem_of_mem_drop (List.mem_of_mem_take hx))
    have hp1 := denL_one hps (hone ho1)
    have hx1 := denL_one hxs (hone ho1)
    have hv1 := denL_one hvs (hone ho2)
    have hblk : lv.blk ≠ l.blk := fun heq => hne' (hr.inj id v _ _ l lv hid hv e1 f1 heq.symm)
    have hnn : σ st.n = none := by
      refine hfree st.n (Nat.le_refl _) ?_
      rw [eff_n]
      exact Nat.lt_succ_self _
    have hids : st.n < Eff.top st.n (.k (.tup []) id (.mk T size (.cells (insNC size n i (eo * size) ov cs ds)))) → σ st.n = none := fun _ => hnn
    have hcap : eo + n ≤ l.cap := by
      have : (eo + n) * size ≤ l.cap * size := by rw [Nat.add_mul]; omega
      exact Nat.le_of_mul_le_mul_right this (by omega)
    have hroom : Cs.size = (l.base + eo * size) + (l.cap - eo) * size := by
      rw [c6, Nat.sub_mul]
      have : eo * size ≤ l.cap * size := Nat.mul_le_mul_right _ (by omega)
      omega
    -- the new row's block
    have new : ∀ (σ' : Env) (w' : World) (b base cap : Nat) (Zs : Array Value), σ' = σ.put st.n ⟨b, base, cap⟩ → w'.heap[b]? = some (.cells Zs T (0, 0)) → Zs.size = base + cap * size → cap ≤ 9223372036854775807 → n + 1 ≤ cap →
        (∀ j u, ((ps ++ vs) ++ xs)[j]? = some u → Zs[base + j]? = some u) → BlkOK σ' w' st.n (.mk T size (.cells (insNC size n i (eo * size) ov cs ds))) := by
      intro σ' w' b base cap Zs hσ hheap hsz hc hc2 hat
      subst hσ
      have hl : ((ps ++ vs) ++ xs).length = (n + 1) * size := by simp [hpl, hxl, hvl]; omega
      refine ⟨_, _, Env.put_same _ _ _, hheap, Zs, (0, 0), (ps ++ vs) ++ xs, rfl, ⟨Or.inl rfl, fun _ => rfl⟩, denL_mono (Env.le_put _ hnn) _ _ (denL_append (denL_append hps hvs) hxs), ?_, ?_, hat, fun _ => ⟨hsz, hc⟩⟩
      · show (insNC size n i (eo * size) ov cs ds).all AV.one = true
        unfold insNC
        rw [List.all_append, List.all_append, hone ho1, hone ho2, hone ho1]
        rfl
      · show base + ((ps ++ vs) ++ xs).length ≤ Zs.size
        rw [hl, hsz]
        have : (n + 1) * size ≤ cap * size := Nat.mul_le_mul_right _ hc2
        omega
    have fin : ∀ (σ' : Env) (w' : World) (b base cap : Nat), σ' = σ.put st.n ⟨b, base, cap⟩ → EffOK σ st.n w σ' w' (.k (.tup []) id (.mk T size (.cells (insNC size n i (eo * size) ov cs ds)))) →
        BehindC σ st.get st.n w (.ret (.slc st.n 0 (n + 1) (.op 0)) (st.eff (.k (.tup []) id (.mk T size (.cells (insNC size n i (eo * size) ov cs ds)))))) (.returned (.slice (some ⟨b, base, none⟩) (n + 1) cap)) w' := by
      intro σ' w' b base cap hσ he
      have hs := he.stp hr hids (by show Nat.ble 256 id = true; exact Nat.ble_eq_true_of_le hro) (fun k hk => by
        simp only [Eff.ids, List.mem_cons, List.not_mem_nil, or_false] at hk
        rcases hk with rfl | rfl
        · exact Or.inr ⟨_, hid⟩
        · exact Or.inl ⟨rfl, Nat.lt_succ_self _⟩)
      refine ⟨σ', _, rfl, ?_, ?_⟩
      · subst hσ
        simp [den, Env.put_same, capDen]
      · have hget : (st.eff (.k (.tup []) id (.mk T size (.cells (insNC size n i (eo * size) ov cs ds))))).get = appE st.n (.k (.tup []) id (.mk T size (.cells (insNC size n i (eo * size) ov cs ds)))) st.get := funext fun k => eff_get st _ k
        rw [hget, eff_n]
        exact hs
    rcases Nat.lt_or_ge (l.cap - eo) (n + 1) with hlt | hge
    · have h1c : l.cap - eo = n := by omega
      rw [h1c]
      refine (hgr l.blk (l.base + eo * size) lv.blk (lv.base + ov) (capDen lv cv) Cs Ds el2 frv ps xs vs w e2 hpl hpat hxl hxat f2 hvl hvat hp1 hx1 hv1).mono ?_
      rintro e w' ⟨G, zs, g1, g2, g3, g4, rfl, rfl⟩
      have ha : (w.drew.alloc (.cells zs T)).heap[w.heap.size]? = some (.cells zs T (0, 0)) := alloc_new w.drew _
      have hb := setCells_heap vs (o := i * size) ha
      have hc : (((w.drew.alloc (.cells zs T)).setCells w.heap.size (i * size) vs).drew).heap[w.heap.size]? = some (.cells (setR zs (i * size) vs) T (0, 0)) := hb
      have hd := setCells_heap xs (o := (i + 1) * size) hc
      have honly : OnlyB w ((((w.drew.alloc (.cells zs T)).setCells w.heap.size (i * size) vs).drew).setCells w.heap.size ((i + 1) * size) xs) (· = l.blk) := by
        have a1 : OnlyB w (w.drew.alloc (.cells zs T)) (fun _ => False) := (OnlyB.drew w _).trans (alloc_only w.drew _) (fun _ h => h.elim)
        have a2 := a1.trans (setCells_only vs (w.drew.alloc (.cells zs T)) w.heap.size (i * size)) (fun i h => Or.inr (by omega))
        have a3 := a2.trans (OnlyB.drew ((w.drew.alloc (.cells zs T)).setCells w.heap.size (i * size) vs) (fun _ => False)) (fun i h => h.elim)
        have a4 := a3.trans (setCells_only xs _ w.heap.size ((i + 1) * size)) (fun i h => Or.inr (by omega))
        exact a4.mono (fun _ _ h => h.elim)
      have hG : (n + 1) * size ≤ G * size := Nat.mul_le_mul_right _ g1
      refine fin (σ.put st.n ⟨w.heap.size, 0, G⟩) _ _ _ _ rfl ⟨l, ⟨w.heap.size, 0, G⟩, e1, rfl, Or.inl (Nat.le_refl _), honly, new _ _ w.heap.size 0 G _ rfl hd ?_ g2 g1 ?_⟩
      · rw [setR_size, setR_size, g3]; omega
      · intro j u hj
        rw [Nat.zero_add]
        rw [List.getElem?_append] at hj
        split at hj
        · rename_i hlt2
          simp only [List.length_append, hpl, hvl] at hlt2
          rw [setR_out xs ((i + 1) * size) _ _ (Or.inl (by omega))]
          rw [List.getElem?_append] at hj
          split at hj
          · rename_i hlt3
            rw [hpl] at hlt3
            rw [setR_out vs (i * size) _ _ (Or.inl hlt3)]
            exact g4 j u hj
          · rename_i hge3
            rw [hpl] at hge3 hj
            have := setR_in vs (i * size) zs (j - i * size) u (by rw [hvl, g3]; omega) hj
            rwa [show i * size + (j - i * size) = j by omega] at this
        · rename_i hge2
          simp only [List.length_append, hpl, hvl] at hge2 hj
          have := setR_in xs ((i + 1) * size) (setR zs (i * size) vs) (j - (i * size + size)) u (by rw [hxl, setR_size, g3]; omega) hj
          rwa [show (i + 1) * size + (j - (i * size + size)) = j by omega] at this
    · refine (hsh l.blk (l.base + eo * size) (l.cap - eo) lv.blk (lv.base + ov) (capDen lv cv) Cs Ds el2 frv xs vs w e2 hroom hge (by omega) hxl hxat f2 hvl hvat hblk hx1 hv1).mono ?_
      rintro e w' ⟨rfl, rfl⟩
      have ha : w.drew.heap[l.blk]? = some (.cells Cs T (0, 0)) := e2
      have hb := setCells_heap xs (o := l.base + eo * size + (i + 1) * size) ha
      have hc := setCells_heap vs (o := l.base + eo * size + i * size) hb
      have honly : OnlyB w ((w.drew.setCells l.blk (l.base + eo * size + (i + 1) * size) xs).setCells l.blk (l.base + eo * size + i * size) vs) (· = l.blk) :=
        ((OnlyB.drew w (· = l.blk)).trans (setCells_only xs w.drew _ _) (fun i h => Or.inl h)).trans (setCells_only vs _ _ _) (fun i h => Or.inl h)
      have hG : (n + 1) * size ≤ (l.cap - eo) * size := Nat.mul_le_mul_right _ hge
      refine fin (σ.put st.n ⟨l.blk, l.base + eo * size, l.cap - eo⟩) _ _ _ _ rfl ⟨l, ⟨l.blk, l.base + eo * size, l.cap - eo⟩, e1, rfl, Or.inr rfl, honly, new _ _ l.blk (l.base + eo * size) (l.cap - eo) _ rfl hc ?_ (by omega) hge ?_⟩
      · rw [setR_size, setR_size, hroom]
      · intro j u hj
        rw [List.getElem?_append] at hj
        split at hj
        · rename_i hlt2
          simp only [List.length_append, hpl, hvl] at hlt2
          rw [List.getElem?_append] at hj
          split at hj
          · rename_i hlt3
            rw [hpl] at hlt3
            rw [setR_out vs _ _ _ (Or.inl (by omega)), setR_out xs _ _ _ (Or.inl (by omega))]
            exact hpat j u hj
          · rename_i hge3
            rw [hpl] at hge3 hj
            have := setR_in vs (l.base + eo * size + i * size) (setR Cs (l.base + eo * size + (i + 1) * size) xs) (j - i * size) u (by rw [hvl, setR_size, hroom]; omega) hj
            rwa [show l.base + eo * size + i * size + (j - i * size) = l.base + eo * size + j by omega] at this
        · rename_i hge2
          simp only [List.length_append, hpl, hvl] at hge2 hj
          rw [setR_out vs _ _ _ (Or.inr (by omega))]
          have := setR_in xs (l.base + eo * size + (i + 1) * size) Cs (j - (i * size + size)) u (by rw [hxl, hroom]; omega) hj
          rwa [show l.base + eo * size + (i + 1) * size + (j - (i * size + size)) = l.base + eo * size + j by omega] at this
  · obtain ⟨rfl, h'⟩ := key h
    obtain ⟨id, off, eo, v, ov, cv, cs, el2, sl2, ds, rfl, hid, hv, hro, hne', rfl, hcs, hds, ho1, ho2, rfl⟩ := insNR_ok h'
    show st.n ≤ (st.eff _).n
    rw [eff_n]
    exact top_ge _ _
  · obtain ⟨rfl, h'⟩ := key h
    exact hf
end
end Go.Sx

/- Calls that take a text of unknown bytes and lay a new one, as hooks; a law's call with such a text. No program. -/
namespace Go.Sx
open Go.RowKit
set_option linter.unusedVariables false
set_option linter.unusedSimpArgs false

/-- A text stands there. -/
def TxtAt (w : World) (l : Loc) : Prop := ∃ cs el fr, w.heap[l.blk]? = some (.cells cs el fr) ∧ True ∧ l.base + l.len ≤ cs.size ∧ (∀ i, i < l.len → ∃ b : Nat, b < 256 ∧ cs[l.base + i]? = some (.int .u8 b)) ∧ l.len ≤ l.room ∧ l.room ≤ 9223372036854775807

/-- A new text has come. -/
def TxtNew (w : World) (T lo hi : Nat) (e : Ending) (w' : World) : Prop :=
  ∃ N o k G zs fr, e = .returned (.slice (some ⟨N, o, none⟩) k G) ∧ lo ≤ k ∧ k ≤ hi ∧ (k ≤ G ∧ G ≤ 9223372036854775807) ∧ w.heap.size ≤ N ∧ w'.heap[N]? = some (.cells zs T fr) ∧ FrOK fr zs.size ∧ o + k ≤ zs.size ∧
    (∀ i, i < k → ∃ b : Nat, b < 256 ∧ zs[o + i]? = some (.int .u8 b)) ∧ OnlyB w w' (fun _ => False)

noncomputable section
/-- g: which text; between which lengths what is laid is. T: the bytes' type. -/
def txHook (f T : Nat) (g : List AV → Option ((Nat × Nat × Nat) × (Nat × Nat))) : Hk := fun h args st =>
  match Nat.beq h f with
  | true => match g args with
    | some ((id, lo, hi), (lo', hi')) => match st.get id with
      | some (.mk _ _ (.txt _)) => some (.ret (.slcT st.n lo' hi') (St.eff st (.n (.tup []) (.mk T 0 (.txt [])))))
      | _ => none
    | none => none
  | false => none
end

theorem txHook_good {P : Program} {f T : Nat} {g : List AV → Option ((Nat × Nat × Nat) × (Nat × Nat))} (hf : ∃ fn c, nthL P.funcs.toList f = some fn ∧ fn.body = some c)
    (h : ∀ args id lo hi lo' hi' σ us l w, g args = some ((id, lo, hi), (lo', hi')) → denL σ args = some us → σ id = some l → TxtAt w l → Calls P f us.toArray w (TxtNew w T lo' hi')) : HkGood P (txHook f T g) := by
  have key : ∀ {k args st r}, txHook f T g k args st = some r → k = f ∧ ∃ id lo hi lo' hi' el sl pre, g args = some ((id, lo, hi), (lo', hi')) ∧ st.get id = some (.mk el sl (.txt pre)) ∧
      r = .ret (.slcT st.n lo' hi') (St.eff st (.n (.tup []) (.mk T 0 (.txt [])))) := by
    intro k args st r hk
    unfold txHook at hk
    split at hk
    · rename_i hb
      split at hk
      · rename_i id lo hi lo' hi' hg
        split at hk
        · rename_i el sl pre hst
          exact ⟨nbeq hb, id, lo, hi, lo', hi', el, sl, pre, hg, hst, (Option.some.inj hk).symm⟩
        · cases hk
      · cases hk
    · cases hk
  refine ⟨fun k args st r hk hne σ w us hr hg hu hfree => ?_, fun k args st r hk => ?_, fun k args st r hk => ?_⟩
  · obtain ⟨rfl, id, lo, hi, lo', hi', el, sl, pre, hga, hst, rfl⟩ := key hk
    have hn : σ st.n = none := hfree _ (Nat.le_refl _) (by
      cases st
      exact Nat.lt_succ_self _)
    obtain ⟨l, o, k1, k2, _, cs, fr, us0, rfl, q1, q2, q3, q4, q5, q6, q7, q8⟩ := hr.ok id _ hst
    refine (h args id lo hi lo' hi' σ us l w hga hu k1 ⟨cs, el, fr, k2, q1, q5, q7, q8⟩).mono ?_
    rintro e w' ⟨N, o, k, G, zs, fr', rfl, z1, z2, z3, z5, z6, z7, z8, z9, z10⟩
    obtain ⟨p1, p2⟩ := packT (a := k) (b := G) (by have := z3.1; have := z3.2; omega) ⟨N, o, 0⟩
    have he : EffOK σ st.n w (σ.put st.n ⟨N, o, k + 18446744073709551616 * G⟩) w' (.n (.tup []) (.mk T 0 (.txt []))) := by
      refine ⟨⟨N, o, k + 18446744073709551616 * G⟩, rfl, z5, z10, ⟨N, o, k + 18446744073709551616 * G⟩, _, Env.put_same _ _ _, z6, rfl, zs, fr', [], rfl, trivial, rfl, rfl, Nat.zero_le _, ?_, fun i u hu => by simp at hu, fun i hi => ?_, by rw [p1, p2]; exact z3.1, by rw [p2]; exact z3.2⟩
      · show o + Loc.len _ ≤ _
        rw [p1]; exact z8
      · replace hi : i < k := by rw [← p1]; exact hi
        exact z9 i hi
    have s2 := he.stp hr (fun _ => hn) rfl (fun i hi => by
      simp only [Eff.ids, List.mem_singleton] at hi
      exact Or.inl ⟨hi, Nat.lt_succ_self _⟩)
    refine ⟨σ.put st.n ⟨N, o, k + 18446744073709551616 * G⟩, _, rfl, ?_, ?_⟩
    · have : denT (σ.put st.n ⟨N, o, k + 18446744073709551616 * G⟩) st.n lo' hi' = some ⟨N, o, k + 18446744073709551616 * G⟩ := by
        unfold denT
        rw [Env.put_same]
        simp only
        rw [p1, if_pos ⟨z1, z2⟩]
      simp only [den, this, Option.map_some, p1, p2]
    · have hget : (St.eff st (.n (.tup []) (.mk T 0 (.txt [])))).get = appE st.n (.n (.tup []) (.mk T 0 (.txt []))) st.get := by
        funext i
        exact eff_get st _ i
      have hnn : (St.eff st (.n (.tup []) (.mk T 0 (.txt [])))).n = st.n + 1 := by cases st; rfl
      rw [hget, hnn]
      exact s2
  · obtain ⟨rfl, id, lo, hi, lo', hi', el, sl, pre, hga, hst, rfl⟩ := key hk
    cases st
    exact Nat.le_succ _
  · obtain ⟨rfl, _⟩ := key hk
    exact hf

/-! ### A text that came in -/
noncomputable section
/-- The heap ahead of a law: the variables that are read, and the text. -/
def stX (ro : List (Nat × Cont)) (E : Nat → Nat) (T : Nat) (pre : List AV) : St :=
  match st0 ro E with
  | .mk h n => .mk (putP (some (.mk T 0 (.txt pre))) (path idT) h) n
end

theorem stX_get {ro : List (Nat × Cont)} {E : Nat → Nat} {T : Nat} {pre : List AV} (id : Nat) : (stX ro E T pre).get id = if id = idT then some (.mk T 0 (.txt pre)) else (st0 ro E).get id := by
  unfold stX
  cases h : st0 ro E with
  | mk hh n =>
    show getP (path id) (putP _ (path idT) hh) = _
    rw [get_put]
    rfl

/-- The text's block is none of the variables'. -/
theorem rep_stX {P : Program} {ro : List (Nat × Cont)} (hro : (ro.all fun p => Nat.blt p.1 roN && Nat.blt p.1 P.globals.size) = true) (hgl : P.globals.size ≤ idT) {E : Nat → Nat} {W : World} (hw : ∀ id c, (id, c) ∈ ro → BlkOK (env0 P) W id (.mk (E id) 0 c))
    {l : Loc} {T : Nat} {pre : List AV} {us : List Value} {cs : Array Value} {fr : Nat × Nat} (hb : W.heap[l.blk]? = some (.cells cs T fr)) (hpre : denL (envT P l) pre = some us) (hp1 : pre.all AV.one = true) (hpl : us.length ≤ l.len) (ho : l.base + l.len ≤ cs.size)
    (hus : ∀ i u, us[i]? = some u → cs[l.base + i]? = some u) (hcs : ∀ i, i < l.len → ∃ b : Nat, b < 256 ∧ cs[l.base + i]? = some (.int .u8 b)) (hrm : l.len ≤ l.room ∧ l.room ≤ 9223372036854775807) (hne : ∀ id c, (id, c) ∈ ro → id ≠ l.blk) :
    Rep (envT P l) (stX ro E T pre).get W := by
  obtain ⟨hrep, small⟩ := rep_st0 hro hw
  have hle : (env0 P).le (envT P l) := by
    intro id l h
    unfold envT
    have : id ≠ idT := by
      rintro rfl
      unfold env0 at h
      rw [if_neg (by omega)] at h
      cases h
    rw [if_neg this]
    exact h
  have txt : ∀ B, (stX ro E T pre).get idT = some B → B = .mk T 0 (.txt pre) := fun B h => by
    rw [stX_get, if_pos rfl] at h
    exact (Option.some.inj h).symm
  have oth : ∀ id B, (stX ro E T pre).get id = some B → id ≠ idT → (st0 ro E).get id = some B := fun id B h hi => by
    rwa [stX_get, if_neg hi] at h
  refine ⟨fun id B h => ?_, fun i j B C l' m e1 e2 e3 e4 e5 => ?_⟩
  · by_cases hi : id = idT
    · subst hi
      obtain rfl := txt B h
      exact ⟨l, _, by simp [envT], hb, rfl, cs, fr, us, rfl, trivial, hpre, hp1, hpl, ho, hus, hcs, hrm⟩
    · exact (hrep.ok id B (oth id B h hi)).mono hle
  · have loc : ∀ id B l', (st0 ro E).get id = some B → id ≠ idT → envT P l id = some l' → l'.blk = id ∧ id ≠ l.blk := by
      intro id B l' h hi hl
      have hs := (small id B h).2
      unfold envT at hl
      rw [if_neg hi] at hl
      simp only [env0, hs, if_true, Option.some.injEq] at hl
      subst hl
      obtain ⟨c, hm, _⟩ := st0_in h
      exact ⟨rfl, hne id c hm⟩
    by_cases hi : i = idT <;> by_cases hj : j = idT
    · rw [hi, hj]
    · obtain ⟨k1, k2⟩ := loc j C m (oth j C e2 hj) hj e4
      subst hi
      simp only [envT, if_true, Option.some.injEq] at e3
      subst e3
      exact absurd (k1.symm.trans e5.symm) k2
    · obtain ⟨k1, k2⟩ := loc i B l' (oth i B e1 hi) hi e3
      subst hj
      simp only [envT, if_true, Option.some.injEq] at e4
      subst e4
      exact absurd (k1.symm.trans e5) k2
    · obtain ⟨k1, _⟩ := loc i B l' (oth i B e1 hi) hi e3
      obtain ⟨k2, _⟩ := loc j C m (oth j C e2 hj) hj e4
      rw [← k1, ← k2]
      exact e5
end Go.Sx

/- Calls that lay a new text, or hand back an empty slice, out of an empty one. No program. -/
namespace Go.Sx
open Go.RowKit
set_option linter.unusedVariables false
set_option linter.unusedSimpArgs false

/-- A name is given, of which no block is known; what was known stands. -/
theorem stp_nameW {σ : Env} {h : Hp} {n : Nat} {w w' : World} (hr : Rep σ h w) (h0 : σ n = none) (m : Loc) (ho : OnlyB w w' (fun _ => False)) : Stp σ h n w (σ.put n m) h (n + 1) w' := by
  have hle : σ.le (σ.put n m) := Env.le_put _ h0
  have old : ∀ id b l, h id = some b → (σ.put n m) id = some l → σ id = some l := by
    intro id b l e hl
    obtain ⟨l0, o0, k1, _⟩ := hr.ok id b e
    have := hle _ _ k1
    rw [hl] at this
    rw [k1, this]
  refine ⟨by omega, hle, fun id l e => ?_, ⟨fun id b e => ((hr.ok id b e).only ho (fun _ _ h => h)).mono hle, fun i j b c l m e1 e2 e3 e4 e5 => hr.inj i j b c l m e1 e2 (old i b l e1 e3) (old j c m e2 e4) e5⟩,
    ho.mono (fun k _ h => h.elim), fun id b l e hl => Or.inr ⟨id, b, l, e, old id b l e hl, rfl⟩, fun id b l hro e hl => Or.inr ⟨id, b, l, hro, e, old id b l e hl, rfl⟩, fun id b e => Or.inl ⟨b, e⟩⟩
  by_cases e2 : id = n
  · exact Or.inr ⟨by omega, by omega⟩
  · rw [Env.put_other _ _ _ e2] at e
    exact Or.inl e

noncomputable section
def uHook (f : Nat) (g : List AV → Option Unit) : Hk := fun h args st =>
  match Nat.beq h f with
  | true => match g args with
    | some _ => some (.ret (.slcU st.n) (.mk st.h (st.n + 1)))
    | none => none
  | false => none

/-- g: between which lengths what is laid is. T: the bytes' type. -/
def nxHook (f T : Nat) (g : List AV → Option (Nat × Nat)) : Hk := fun h args st =>
  match Nat.beq h f with
  | true => match g args with
    | some (lo', hi') => some (.ret (.slcT st.n lo' hi') (St.eff st (.n (.tup []) (.mk T 0 (.txt [])))))
    | none => none
  | false => none
end

theorem uHook_good {P : Program} {f : Nat} {g : List AV → Option Unit} (hf : ∃ fn c, nthL P.funcs.toList f = some fn ∧ fn.body = some c)
    (h : ∀ args σ us w, g args = some () → denL σ args = some us → Calls P f us.toArray w fun e w' => ∃ ao c, ((ao = none → c = 0) ∧ c ≤ 9223372036854775807) ∧ e = .returned (.slice ao 0 c) ∧ OnlyB w w' (fun _ => False)) : HkGood P (uHook f g) := by
  have key : ∀ {k args st r}, uHook f g k args st = some r → k = f ∧ g args = some () ∧ r = .ret (.slcU st.n) (.mk st.h (st.n + 1)) := by
    intro k args st r hk
    unfold uHook at hk
    split at hk
    · rename_i hb
      split at hk
      · rename_i hg
        exact ⟨nbeq hb, hg, (Option.some.inj hk).symm⟩
      · cases hk
    · cases hk
  refine ⟨fun k args st r hk hne σ w us hr hg hu hfree => ?_, fun k args st r hk => ?_, fun k args st r hk => ?_⟩
  · obtain ⟨rfl, hga, rfl⟩ := key hk
    have hn : σ st.n = none := hfree _ (Nat.le_refl _) (Nat.lt_succ_self _)
    refine (h args σ us w hga hu).mono ?_
    rintro e w' ⟨ao, c, hc, rfl, ho⟩
    obtain ⟨l, h1, h2⟩ := Loc.at0_of ao (c := c) (by have := hc.2; omega)
    have hd : denU (σ.put st.n l) st.n = some l := by
      unfold denU
      rw [Env.put_same]
      simp only
      rw [h1, h2, if_pos hc]
    have s := stp_nameW hr hn l ho
    refine ⟨σ.put st.n l, _, rfl, ?_, ?_⟩
    · simp only [den, hd, Option.map_some, h1, h2]
    · cases st
      exact s
  · obtain ⟨rfl, hga, rfl⟩ := key hk
    exact Nat.le_succ _
  · obtain ⟨rfl, _⟩ := key hk
    exact hf

theorem nxHook_good {P : Program} {f T : Nat} {g : List AV → Option (Nat × Nat)} (hf : ∃ fn c, nthL P.funcs.toList f = some fn ∧ fn.body = some c)
    (h : ∀ args lo' hi' σ us w, g args = some (lo', hi') → denL σ args = some us → Calls P f us.toArray w (TxtNew w T lo' hi')) : HkGood P (nxHook f T g) := by
  have key : ∀ {k args st r}, nxHook f T g k args st = some r → k = f ∧ ∃ lo' hi', g args = some (lo', hi') ∧ r = .ret (.slcT st.n lo' hi') (St.eff st (.n (.tup []) (.mk T 0 (.txt [])))) := by
    intro k args st r hk
    unfold nxHook at hk
    split at hk
    · rename_i hb
      split at hk
      · rename_i lo' hi' hg
        exact ⟨nbeq hb, lo', hi', hg, (Option.some.inj hk).symm⟩
      · cases hk
    · cases hk
  refine ⟨fun k args st r hk hne σ w us hr hg hu hfree => ?_, fun k args st r hk => ?_, fun k args st r hk => ?_⟩
  · obtain ⟨rfl, lo', hi', hga, rfl⟩ := key hk
    have hn : σ st.n = none := hfree _ (Nat.le_refl _) (by
      cases st
      exact Nat.lt_succ_self _)
    refine (h args lo' hi' σ us w hga hu).mono ?_
    rintro e w' ⟨N, o, k, G, zs, fr', rfl, z1, z2, z3, z5, z6, z7, z8, z9, z10⟩
    obtain ⟨p1, p2⟩ := packT (a := k) (b := G) (by have := z3.1; have := z3.2; omega) ⟨N, o, 0⟩
    have he : EffOK σ st.n w (σ.put st.n ⟨N, o, k + 18446744073709551616 * G⟩) w' (.n (.tup []) (.mk T 0 (.txt []))) := by
      refine ⟨⟨N, o, k + 18446744073709551616 * G⟩, rfl, z5, z10, ⟨N, o, k + 18446744073709551616 * G⟩, _, Env.put_same _ _ _, z6, rfl, zs, fr', [], rfl, trivial, rfl, rfl, Nat.zero_le _, ?_, fun i u hu => by simp at hu, fun i hi => ?_, by rw [p1, p2]; exact z3.1, by rw [p2]; exact z3.2⟩
      · show o + Loc.len _ ≤ _
        rw [p1]; exact z8
      · replace hi : i < k := by rw [← p1]; exact hi
        exact z9 i hi
    have s2 := he.stp hr (fun _ => hn) rfl (fun i hi => by
      simp only [Eff.ids, List.mem_singleton] at hi
      exact Or.inl ⟨hi, Nat.lt_succ_self _⟩)
    refine ⟨σ.put st.n ⟨N, o, k + 18446744073709551616 * G⟩, _, rfl, ?_, ?_⟩
    · have : denT (σ.put st.n ⟨N, o, k + 18446744073709551616 * G⟩) st.n lo' hi' = some ⟨N, o, k + 18446744073709551616 * G⟩ := by
        unfold denT
        rw [Env.put_same]
        simp only
        rw [p1, if_pos ⟨z1, z2⟩]
      simp only [den, this, Option.map_some, p1, p2]
    · have hget : (St.eff st (.n (.tup []) (.mk T 0 (.txt [])))).get = appE st.n (.n (.tup []) (.mk T 0 (.txt []))) st.get := by
        funext i
        exact eff_get st _ i
      have hnn : (St.eff st (.n (.tup []) (.mk T 0 (.txt [])))).n = st.n + 1 := by cases st; rfl
      rw [hget, hnn]
      exact s2
  · obtain ⟨rfl, lo', hi', hga, rfl⟩ := key hk
    cases st
    exact Nat.le_succ _
  · obtain ⟨rfl, _⟩ := key hk
    exact hf
end Go.Sx

/- A law's call whose arguments are said by names: numbers, a float, a text. No program. -/
namespace Go.Sx
open Go.RowKit
set_option linter.unusedVariables false
set_option linter.unusedSimpArgs false

noncomputable section
/-- The variables' blocks, and names between them and the blocks that come. -/
def envN (P : Program) (nm : Nat → Option Loc) : Env := fun id => if id < P.globals.size then some ⟨id, 0, 0⟩ else if id < roN then nm id else none
end

theorem envN_le (P : Program) (nm : Nat → Option Loc) : (env0 P).le (envN P nm) := fun id l h => by
  unfold env0 at h
  unfold envN
  split at h
  · rename_i h1; rw [if_pos h1]; exact h
  · cases h
theorem envN_glob (P : Program) (nm : Nat → Option Loc) : GlobOK P (envN P nm) := fun g hg => ⟨0, by simp [envN, hg]⟩
theorem envN_hi (P : Program) (nm : Nat → Option Loc) (hgl : P.globals.size ≤ roN) : ∀ id, roN ≤ id → envN P nm id = none := fun id h => by
  unfold envN
  rw [if_neg (by omega), if_neg (by omega)]
theorem envN_at (P : Program) (nm : Nat → Option Loc) {id : Nat} (h1 : P.globals.size ≤ id) (h2 : id < roN) : envN P nm id = nm id := by
  unfold envN
  rw [if_neg (by omega), if_pos h2]

/-- More names. -/
theorem Rep.names {σ σ' : Env} {h : Hp} {w : World} (hr : Rep σ h w) (hle : σ.le σ') : Rep σ' h w := by
  have old : ∀ id b l, h id = some b → σ' id = some l → σ id = some l := by
    intro id b l e hl
    obtain ⟨l0, o0, k1, _⟩ := hr.ok id b e
    have := hle _ _ k1
    rw [hl] at this
    rw [k1, this]
  exact ⟨fun id b e => (hr.ok id b e).mono hle, fun i j b c l m e1 e2 e3 e4 e5 => hr.inj i j b c l m e1 e2 (old i b l e1 e3) (old j c m e2 e4) e5⟩

/-- The text's block is none of the variables'. -/
theorem rep_stY {P : Program} {ro : List (Nat × Cont)} (hro : (ro.all fun p => Nat.blt p.1 roN && Nat.blt p.1 P.globals.size) = true) (hgl : P.globals.size ≤ idT) {E : Nat → Nat} {W : World} (hw : ∀ id c, (id, c) ∈ ro → BlkOK (env0 P) W id (.mk (E id) 0 c))
    {nm : Nat → Option Loc} {l : Loc} (hl : nm idT = some l) {T : Nat} {pre : List AV} {us : List Value} {cs : Array Value} {fr : Nat × Nat} (hb : W.heap[l.blk]? = some (.cells cs T fr)) (hpre : denL (envN P nm) pre = some us) (hp1 : pre.all AV.one = true) (hpl : us.length ≤ l.len) (ho : l.base + l.len ≤ cs.size)
    (hus : ∀ i u, us[i]? = some u → cs[l.base + i]? = some u) (hcs : ∀ i, i < l.len → ∃ b : Nat, b < 256 ∧ cs[l.base + i]? = some (.int .u8 b)) (hrm : l.len ≤ l.room ∧ l.room ≤ 9223372036854775807) (hne : ∀ id c, (id, c) ∈ ro → id ≠ l.blk) :
    Rep (envN P nm) (stX ro E T pre).get W := by
  obtain ⟨hrep, small⟩ := rep_st0 hro hw
  have hle : (env0 P).le (envN P nm) := envN_le P nm
  have hl2 : envN P nm idT = some l := by rw [envN_at P nm hgl (by decide)]; exact hl
  have txt : ∀ B, (stX ro E T pre).get idT = some B → B = .mk T 0 (.txt pre) := fun B h => by
    rw [stX_get, if_pos rfl] at h
    exact (Option.some.inj h).symm
  have oth : ∀ id B, (stX ro E T pre).get id = some B → id ≠ idT → (st0 ro E).get id = some B := fun id B h hi => by
    rwa [stX_get, if_neg hi] at h
  refine ⟨fun id B h => ?_, fun i j B C l' m e1 e2 e3 e4 e5 => ?_⟩
  · by_cases hi : id = idT
    · subst hi
      obtain rfl := txt B h
      exact ⟨l, _, hl2, hb, rfl, cs, fr, us, rfl, trivial, hpre, hp1, hpl, ho, hus, hcs, hrm⟩
    · exact (hrep.ok id B (oth id B h hi)).mono hle
  · have loc : ∀ id B l', (st0 ro E).get id = some B → id ≠ idT → envN P nm id = some l' → l'.blk = id ∧ id ≠ l.blk := by
      intro id B l' h hi h2
      have hs := (small id B h).2
      have : envN P nm id = some ⟨id, 0, 0⟩ := by unfold envN; rw [if_pos hs]
      obtain rfl := Option.some.inj (this.symm.trans h2)
      obtain ⟨c, hm, _⟩ := st0_in h
      exact ⟨rfl, hne id c hm⟩
    by_cases hi : i = idT <;> by_cases hj : j = idT
    · rw [hi, hj]
    · obtain ⟨k1, k2⟩ := loc j C m (oth j C e2 hj) hj e4
      subst hi
      obtain rfl := Option.some.inj (hl2.symm.trans e3)
      exact absurd (k1.symm.trans e5.symm) k2
    · obtain ⟨k1, k2⟩ := loc i B l' (oth i B e1 hi) hi e3
      subst hj
      obtain rfl := Option.some.inj (hl2.symm.trans e4)
      exact absurd (k1.symm.trans e5) k2
    · obtain ⟨k1, _⟩ := loc i B l' (oth i B e1 hi) hi e3
      obtain ⟨k2, _⟩ := loc j C m (oth j C e2 hj) hj e4
      rw [← k1, ← k2]
      exact e5

theorem stX_small {P : Program} {ro : List (Nat × Cont)} (hro : (ro.all fun p => Nat.blt p.1 roN && Nat.blt p.1 P.globals.size) = true) {E : Nat → Nat} {T : Nat} {pre : List AV} : ∀ id b, (stX ro E T pre).get id = some b → id < roN := fun id b h => by
  rw [stX_get] at h
  split at h
  · rename_i h1; subst h1; decide
  · obtain ⟨c, hm, _⟩ := st0_in h
    have := and3 (List.all_eq_true.1 hro (id, c) hm)
    exact blt_of this.1
theorem stX_n {ro : List (Nat × Cont)} {E : Nat → Nat} {T : Nat} {pre : List AV} : (stX ro E T pre).n = roN := rfl

/-! ### What the names say -/
theorem den_vint {σ : Env} {id : Nat} {l : Loc} (h : σ id = some l) {k : IntKind} {z lo hi : Int} {m r : Nat} (hz : l.int = z) (hw : k.wrap z = z) (h1 : lo ≤ z) (h2 : z ≤ hi) (h3 : m ≠ 0 → (IntKind.u64.wrap z).toNat % m = r) : den σ (.vint k id lo hi m r) = some (.int k z) := by
  subst hz
  have : denZ σ id lo hi m r = some l.int := by
    unfold denZ
    rw [h]
    simp only
    rw [if_pos ⟨h1, h2, h3⟩]
  simp only [den, this, Option.map_some, hw]
theorem den_vfo {σ : Env} {id id2 d k : Nat} {l m : Loc} (h : σ id = some l) (h2 : σ id2 = some m) (hc : fCls l.cap m.cap d = k) : den σ (.vfo id id2 d k) = some (.float .f64 l.cap) := by simp only [den, denF, h, h2, hc, if_true, Option.map_some]
theorem den_vflt {σ : Env} {id : Nat} {l : Loc} (h : σ id = some l) : den σ (.vflt id) = some (.float .f64 l.cap) := by simp only [den, h, Option.map_some]
theorem den_slcU {σ : Env} {id : Nat} {l : Loc} (h : σ id = some l) {ao : Option Addr} {c : Nat} (ha : l.at0 = ao) (hc : l.cap / 2 % 18446744073709551616 = c) (h0 : ao = none → c = 0) (h1 : c ≤ 9223372036854775807) : den σ (.slcU id) = some (.slice ao 0 c) := by
  subst ha hc
  have : denU σ id = some l := by
    unfold denU
    rw [h]
    simp only
    rw [if_pos ⟨h0, h1⟩]
  simp only [den, this, Option.map_some]
theorem den_slcT {σ : Env} {id lo hi : Nat} {l : Loc} (h : σ id = some l) (h1 : lo ≤ l.len) (h2 : l.len ≤ hi) : den σ (.slcT id lo hi) = some (.slice (some ⟨l.blk, l.base, none⟩) l.len l.room) := by
  have : denT σ id lo hi = some l := by
    unfold denT
    rw [h]
    simp only
    rw [if_pos ⟨h1, h2⟩]
  simp only [den, this, Option.map_some]
theorem den_tok {σ : Env} {id lo hi : Nat} {l : Loc} (h : σ id = some l) {k : IntKind} (h1 : lo ≤ l.len) (h2 : l.len ≤ hi) : den σ (.tok k id lo hi) = some (.int k (.ofNat l.len)) := by
  have : denT σ id lo hi = some l := by
    unfold denT
    rw [h]
    simp only
    rw [if_pos ⟨h1, h2⟩]
  simp only [den, this, Option.map_some]
theorem den_agg {σ : Env} {cs : List AV} {us : List Value} (h : denL σ cs = some us) : den σ (.agg cs) = some (.agg us.toArray) := by simp only [den, h]
theorem denL_cons' {σ : Env} {a : AV} {u : Value} {l : List AV} {us : List Value} (h1 : den σ a = some u) (h2 : denL σ l = some us) : denL σ (a :: l) = some (u :: us) := by simp only [denL, h1, h2]
theorem denL_nil' {σ : Env} : denL σ [] = some [] := rfl
/-- A laid table's object holds its numbers and nothing else. -/
theorem laid_tab_obj {P : Program} {W : World} {name : String} {k : IntKind} {zs : List Int} {laid : List (String × DataW Unit)} {g : Nat} {t e : TypeId} {n : Nat} (hm : laidMet P laid W) (hin : (name, Lib.tabData k zs) ∈ laid)
    (hg : P.globalNamed name = some g) (hty : (P.globals[g]?).map (·.type) = some t) (ht : P.underlying t = some (.array n e)) (he : P.underlying e = some (.int k)) (hce : P.cellsOf e = 1) (hct : P.cellsOf t = n) (hpos : 0 < zs.length) :
    ∃ c el fr, W.heap[g]? = some (.cells c el fr) ∧ ∀ (j : Nat) (u : Value), c[j]? = some u → ∃ z, u = .int k z := by
  obtain ⟨ps, hL, _, hcell⟩ := hm
  obtain ⟨g', t', cs, fuel, p, h1, h2, h3, h4, h5⟩ := laid_var hL hin
  obtain rfl := Option.some.inj (hg.symm.trans h1)
  obtain rfl := Option.some.inj (hty.symm.trans h2)
  have hcs := Lib.cells_of_tab ht he hce hct h4
  have hsz : cs.size = zs.length := by
    rw [← Array.length_toList, hcs]; simp
  have hin0 : MemPlace.cell g 0 ∈ ps := h5 _ (by
    unfold MemPlace.row
    exact List.mem_map.2 ⟨0, List.mem_range.2 (by omega), rfl⟩)
  obtain ⟨⟨c, el, hc⟩, _⟩ := hcell g 0 hin0
  have hcc : c = cs := by
    simp only [World.var?, hg, Option.bind_some, hc] at h3
    exact Option.some.inj h3
  subst hcc
  refine ⟨c, el, _, hc, fun j u hj => ?_⟩
  rw [← Array.getElem?_toList, hcs, List.getElem?_map] at hj
  obtain ⟨z, _, rfl⟩ := Option.map_eq_some_iff.1 hj
  exact ⟨z, rfl⟩
end Go.Sx
