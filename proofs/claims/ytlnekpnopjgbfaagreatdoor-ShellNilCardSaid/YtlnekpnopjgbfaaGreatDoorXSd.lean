/- A law whose whole body is worked out. No program. -/
import Derived.Test.YtlnekpnopjgbfaaGreatDoorXSc
import Derived.RangeFuncRecord
set_option linter.all false
namespace Go.Sx
open Go.RowKit
set_option linter.unusedVariables false

theorem rep_st0 {P : Program} {ro : List (Nat × Cont)} (hro : (ro.all fun p => Nat.blt p.1 roN && Nat.blt p.1 P.globals.size) = true) {E : Nat → Nat} {W : World} (hw : ∀ id c, (id, c) ∈ ro → BlkOK (env0 P) W id (.mk (E id) 0 c)) :
    Rep (env0 P) (st0 ro E).get W ∧ ∀ id b, (st0 ro E).get id = some b → id < roN ∧ id < P.globals.size := by
  have small : ∀ id b, (st0 ro E).get id = some b → id < roN ∧ id < P.globals.size := fun id b e => by
    obtain ⟨c, h, _⟩ := st0_in e
    have := and3 (List.all_eq_true.1 hro (id, c) h)
    exact ⟨blt_of this.1, blt_of this.2⟩
  refine ⟨⟨fun id b e => ?_, fun p q b c l m e1 e2 e3 e4 e5 => ?_⟩, small⟩
  · obtain ⟨c, h, rfl⟩ := st0_in e
    exact hw id c h
  · have h1 := (small p b e1).2
    have h2 := (small q c e2).2
    simp only [env0, h1, h2, if_true, Option.some.injEq] at e3 e4
    subst e3; subst e4
    exact e5

theorem law_whole {P : Program} {okT : Nat → Bool} (hk : OkT P okT) (hc : CallsOK P) (hm : P.follows .mixedOrders = true) {hook : Hk} {dhook : Dh} (hh : HkGood P hook) (hd : DhGood P dhook) {rounds k f N : Nat} {c : Code} {rs : List ResultVar}
    (hf : fnOf P f = some (N, c, rs)) {args : List AV} {us : List Value} (hargs : denL (env0 P) args = some us) {ro : List (Nat × Cont)} (hro : (ro.all fun p => Nat.blt p.1 roN && Nat.blt p.1 P.globals.size) = true) (hgl : Nat.ble P.globals.size roN = true)
    {E : Nat → Nat} {W : World} (hw : ∀ id c, (id, c) ∈ ro → BlkOK (env0 P) W id (.mk (E id) 0 c))
    (htrue : (xleave P dhook rs (xcode P okT (xcall P okT hook dhook rounds k) N rounds c (argsTr 0 args .lf) [] (st0 ro E))).isTrue = true) :
    Calls P f us.toArray W fun e W' => e = .returned (.bool true) ∧ Below W.heap.size W W' := by
  obtain ⟨hrep, small⟩ := rep_st0 hro hw
  exact law_of_runs hc hd hf (runs_code hk hc hm (call_good (okT := okT) hk hc hm hh hd rounds k) rounds c _ _ _) htrue hargs hrep (fun id b e => (small id b e).1) (Nat.le_of_ble_eq_true hgl)
end Go.Sx

/- A closed call's contract, in plain words. No program. -/
namespace Go.Sx
open Go.RowKit
set_option linter.unusedVariables false

theorem closed_calls {P : Program} {i : Inst} (hh : HkGood P i.closed) {E : Nat → Nat} (hv : i.closed i.f [] (st0 i.ro E) = some (.ret (.bool true) (st0 i.ro E))) (hro : (i.ro.all fun p => Nat.blt p.1 roN && Nat.blt p.1 P.globals.size) = true) (hgl : Nat.ble P.globals.size roN = true)
    {W : World} (hw : ∀ id c, (id, c) ∈ i.ro → BlkOK (env0 P) W id (.mk (E id) 0 c)) : Calls P i.f #[] W fun e W' => e = .returned (.bool true) ∧ Below W.heap.size W W' := by
  obtain ⟨hrep, small⟩ := rep_st0 hro hw
  have hg := Nat.le_of_ble_eq_true hgl
  refine Calls.mono (hh.ok i.f [] (st0 i.ro E) _ hv (by simp) (env0 P) W [] hrep (glob0 P) rfl fun id h1 h2 => ?_) ?_
  · have h1 : roN ≤ id := h1
    simp only [env0]
    rw [if_neg (by omega)]
  · rintro e w' ⟨σ', u, rfl, hu, hs⟩
    obtain rfl : Value.bool true = u := Option.some.inj hu
    refine ⟨rfl, ⟨hs.only.os, hs.only.tape, hs.only.output, hs.only.size, fun k hk => hs.only.block k hk ?_⟩⟩
    rintro ⟨id, b, l, h0, h1, h2, h3⟩
    have := (small id b h1).1
    omega

theorem blk_still {P : Program} {W W' : World} (h : Below W.heap.size W W') {id : Nat} {b : Blk} (k : BlkOK (env0 P) W id b) : BlkOK (env0 P) W' id b :=
  k.only (T := fun _ => False) ⟨h.os, h.tape, h.output, h.size, fun k hk _ => h.block k hk⟩ fun _ _ hf => hf
end Go.Sx

/- A closed call that makes a new block, and hands back a pointer to it. No program. -/
namespace Go.Sx
open Go.RowKit
set_option linter.unusedVariables false

noncomputable section
/-- The end of such a call: the i-th cell of the new block is as wanted. -/
def chkNew (i : Nat) (want : AV) (r : Ro) : Bool :=
  match r with
  | .ret (.ptr id 0) st => Nat.ble roN id && (match st.get id with
    | some (.mk _ _ (.cells cs)) => (match nthL cs i with
      | some v => AV.beq v want
      | none => false)
    | _ => false)
  | _ => false

theorem calls_new {P : Program} {okT : Nat → Bool} (hk : OkT P okT) (hc : CallsOK P) (hm : P.follows .mixedOrders = true) {hook : Hk} {dhook : Dh} (hh : HkGood P hook) (hd : DhGood P dhook) {rounds k f i : Nat} {want : AV} {args : List AV} {us : List Value} {u : Value}
    (hu : ∀ σ, den σ want = some u) (hargs : denL (env0 P) args = some us) {ro : List (Nat × Cont)} (hro : (ro.all fun p => Nat.blt p.1 roN && Nat.blt p.1 P.globals.size) = true) (hgl : Nat.ble P.globals.size roN = true) {E : Nat → Nat}
    (hrun : chkNew i want (xcall P okT hook dhook rounds k f args (st0 ro E)) = true) {W : World} (hw : ∀ id c, (id, c) ∈ ro → BlkOK (env0 P) W id (.mk (E id) 0 c)) :
    Calls P f us.toArray W fun e W' => ∃ b o cs T fr, e = .returned (.pointer (some ⟨b, o, none⟩)) ∧ Below W.heap.size W W' ∧ W.heap.size ≤ b ∧ W'.heap[b]? = some (.cells cs T fr) ∧ FrOK fr cs.size ∧ cs[o + i]? = some u := by
  obtain ⟨hrep, small⟩ := rep_st0 hro hw
  have hg := Nat.le_of_ble_eq_true hgl
  cases hx : xcall P okT hook dhook rounds k f args (st0 ro E) with
  | no => rw [hx] at hrun; cases hrun
  | pan v st => rw [hx] at hrun; cases hrun
  | ret v st1 =>
    rw [hx] at hrun
    unfold chkNew at hrun
    split at hrun
    · rename_i id st heq
      injection heq with e1 e2
      subst e1; subst e2
      obtain ⟨h1, h2⟩ := and3 hrun
      split at h2
      · rename_i el sl cs hget
        split at h2
        · rename_i v hv
          have ev := AV.beq_eq _ _ h2
          subst ev
          refine Calls.mono (calls_of_run (σ := env0 P) hk hc hm hh hd hx hrep (glob0 P) hargs (by simp) (fun id h1 h2 => ?_)) ?_
          · have h1 : roN ≤ id := h1
            simp only [env0]
            rw [if_neg (by omega)]
          · rintro e w' ⟨σ', x, rfl, hdx, hs⟩
            simp only [den, Option.map_eq_some_iff] at hdx
            obtain ⟨l, hl, rfl⟩ := hdx
            obtain ⟨l', o, k1, k2, k3⟩ := hs.rep.ok id _ hget
            obtain rfl : l = l' := by rw [hl] at k1; exact Option.some.inj k1
            obtain ⟨cv, fr, uv, q1, q2, q3, q4, q5, q6, q7⟩ := k3
            have hnot : ∀ k, ¬ InH (env0 P) (st0 ro E).get k := by
              rintro k ⟨id', b', l', p0, p1, p2, p3⟩
              have := (small id' b' p1).1
              omega
            refine ⟨l.blk, l.base + 0, cv, el, fr, rfl, ⟨hs.only.os, hs.only.tape, hs.only.output, hs.only.size, fun k hk => hs.only.block k hk (hnot k)⟩, ?_, by rw [k2, q1], q2.1, ?_⟩
            · rcases hs.footW id _ l (Nat.le_of_ble_eq_true h1) hget hl with h | h
              · exact h
              · exact absurd h (hnot _)
            · have hv' : cs[i]? = some v := by rw [← nthL_eq]; exact hv
              obtain ⟨u', hu1, hu2⟩ : ∃ u', uv[i]? = some u' ∧ den σ' v = some u' := denL_get q3 i v hv'
              have : u' = u := by rw [hu σ'] at hu2; exact (Option.some.inj hu2).symm
              subst this
              exact q6 i u' hu1
        · cases h2
      · cases h2
    · cases hrun
end
end Go.Sx

/- A range over a function: its rounds. No program. -/
namespace Go.Sx
open Go.RowKit
set_option linter.unusedVariables false
set_option linter.unusedSimpArgs false

/-! ### Blocks beside the heap -/
section
variable {σ σ' : Env} {h h' : Hp} {n n' : Nat} {w w' : World} {k : Nat}

theorem put_onlyB (w : World) (k : Nat) (o : Obj) : OnlyB w (w.putObj k o) (· = k) := put_only w k o

theorem putObj_same {o : Obj} (hk : w.heap[k]? = some o) : w.putObj k o = w := by
  have hlt := (Array.getElem?_eq_some_iff.1 hk).1
  have : w.heap.setIfInBounds k o = w.heap := by
    apply Array.ext
    · simp
    · intro i h1 h2
      rw [Array.getElem_setIfInBounds]
      split
      · rename_i hi
        subst hi
        exact ((Array.getElem?_eq_some_iff.1 hk).2).symm
      · rfl
  unfold World.putObj
  rw [this]

theorem putObj_twice (o p : Obj) : (w.putObj k o).putObj k p = w.putObj k p := by
  have : (w.heap.setIfInBounds k o).setIfInBounds k p = w.heap.setIfInBounds k p := by
    apply Array.ext
    · simp
    · intro i h1 h2
      by_cases hi : k = i
      · subst hi
        simp
      · simp [Array.getElem_setIfInBounds, hi]
  show { w with heap := (w.heap.setIfInBounds k o).setIfInBounds k p } = { w with heap := w.heap.setIfInBounds k p }
  rw [this]

theorem Rep.put (hr : Rep σ h w) (hn : ¬ InA σ h k) (o : Obj) : Rep σ h (w.putObj k o) :=
  ⟨fun id b e => (hr.ok id b e).only (put_onlyB w k o) fun l hl hk => hn ⟨id, b, l, e, hl, hk⟩, hr.inj⟩

theorem Stp.notA (s : Stp σ h n w σ' h' n' w') (hn : ¬ InA σ h k) (hk : k < w.heap.size) : ¬ InA σ' h' k := by
  rintro ⟨id, b, l, e1, e2, rfl⟩
  rcases s.foot id b l e1 e2 with h | h
  · omega
  · exact hn h

theorem Stp.keeps (s : Stp σ h n w σ' h' n' w') (hn : ¬ InA σ h k) (hk : k < w.heap.size) : w'.heap[k]? = w.heap[k]? := s.only.block k hk fun hh => hn hh.a

theorem Stp.put (s : Stp σ h n w σ' h' n' w') (hn : ¬ InA σ h k) (hk : k < w.heap.size) (o : Obj) : Stp σ h n (w.putObj k o) σ' h' n' (w'.putObj k o) := by
  refine ⟨s.nle, s.le, s.dom, s.rep.put (s.notA hn hk) o, ⟨s.only.os, s.only.tape, s.only.output, ?_, fun i hi hni => ?_⟩, fun id b l e hl => ?_, fun id b l hro e hl => ?_, s.ids⟩
  · simpa using s.only.size
  · have hi : i < w.heap.size := by simpa using hi
    by_cases hik : i = k
    · subst hik
      rw [World.putObj_heap_same (Nat.lt_of_lt_of_le hk s.only.size), World.putObj_heap_same hk]
    · rw [World.putObj_heap_other hik, World.putObj_heap_other hik]
      exact s.only.block i hi hni
  · simpa using s.foot id b l e hl
  · simpa using s.footW id b l hro e hl

theorem Stp.putNew (s : Stp σ h n w σ' h' n' w') (hk : w.heap.size ≤ k) (hn : ¬ InA σ' h' k) (o : Obj) : Stp σ h n w σ' h' n' (w'.putObj k o) := by
  refine ⟨s.nle, s.le, s.dom, s.rep.put hn o, ⟨s.only.os, s.only.tape, s.only.output, ?_, fun i hi hni => ?_⟩, s.foot, s.footW, s.ids⟩
  · simpa using s.only.size
  · rw [World.putObj_heap_other (by omega)]
    exact s.only.block i hi hni

/-- Two blocks are laid that have names, but are not said what they hold. -/
theorem stp_marks (hr : Rep σ h w) (h0 : σ n = none) (h1 : σ (n + 1) = none) (o p : Obj) :
    Stp σ h n w ((σ.put n ⟨w.heap.size, 0, 0⟩).put (n + 1) ⟨w.heap.size + 1, 0, 0⟩) h (n + 2) ((w.alloc o).alloc p) := by
  have h1' : (σ.put n ⟨w.heap.size, 0, 0⟩) (n + 1) = none := by rw [Env.put_other _ _ _ (by omega)]; exact h1
  have hle : σ.le ((σ.put n ⟨w.heap.size, 0, 0⟩).put (n + 1) ⟨w.heap.size + 1, 0, 0⟩) := (Env.le_put _ h0).trans (Env.le_put _ h1')
  have honly : OnlyB w ((w.alloc o).alloc p) (fun _ => False) := (alloc_only w o).trans (alloc_only _ p) (fun _ h => h.elim)
  have old : ∀ id b l, h id = some b → ((σ.put n ⟨w.heap.size, 0, 0⟩).put (n + 1) ⟨w.heap.size + 1, 0, 0⟩) id = some l → σ id = some l := by
    intro id b l e hl
    obtain ⟨l0, o0, k1, _⟩ := hr.ok id b e
    have := hle _ _ k1
    rw [hl] at this
    rw [k1, this]
  refine ⟨by omega, hle, fun id l e => ?_, ⟨fun id b e => ((hr.ok id b e).only honly (fun _ _ h => h)).mono hle, fun i j b c l m e1 e2 e3 e4 e5 => hr.inj i j b c l m e1 e2 (old i b l e1 e3) (old j c m e2 e4) e5⟩,
    honly.mono (fun _ _ h => h.elim), fun id b l e hl => Or.inr ⟨id, b, l, e, old id b l e hl, rfl⟩, fun id b l hro e hl => Or.inr ⟨id, b, l, hro, e, old id b l e hl, rfl⟩, fun id b e => Or.inl ⟨b, e⟩⟩
  by_cases e1 : id = n + 1
  · exact Or.inr ⟨by omega, by omega⟩
  · rw [Env.put_other _ _ _ e1] at e
    by_cases e2 : id = n
    · exact Or.inr ⟨by omega, by omega⟩
    · rw [Env.put_other _ _ _ e2] at e
      exact Or.inl e
end

/-! ### A round -/
def isDfr (o : Oper) : Bool :=
  match o.op with
  | .defer _ => true
  | _ => false

/-- No deferred call in it. -/
def ndB : Code → Bool
  | .region _ ops _ => ops.toList.all fun o => Bool.not (isDfr o)
  | .seq a b => ndB a && ndB b
  | .cond _ a b => ndB a && ndB b
  | .block _ b => ndB b
  | .loop b => ndB b
  | _ => true

theorem ndB_ok : ∀ (c : Code), ndB c = true → ndC c
  | .region _ ops _, h => fun o ho c hc => by
    have := List.all_eq_true.1 h o ho
    simp [isDfr, hc] at this
  | .seq a b, h => ⟨ndB_ok a (and3 h).1, ndB_ok b (and3 h).2⟩
  | .cond _ a b, h => ⟨ndB_ok a (and3 h).1, ndB_ok b (and3 h).2⟩
  | .block _ b, h => ndB_ok b h
  | .loop b, h => ndB_ok b h
  | .skip, _ => trivial
  | .rangeFunc .., _ => trivial
  | .exit _, _ => trivial
  | .scope _, _ => trivial
  | .label _, _ => trivial
  | .goto _, _ => trivial
  | .ret, _ => trivial
  | .refuse _, _ => trivial

noncomputable def putsA : List Nat → List AV → Tr AV → Tr AV
  | p :: ps, v :: vs, t => putsA ps vs (putP (some v) (path p) t)
  | _, _, t => t

/-- What a loop's record says: by the calls that are told: none: ready; else a jump: 0: ret; k + 1: exit k. -/
def stOf : Ds → LoopState × Option Code
  | [] => (.ready, none)
  | (0, _) :: _ => (.done, some .ret)
  | (k + 1, _) :: _ => (.done, some (.exit k))

def nilD : Ds → Bool
  | [] => true
  | _ => false

noncomputable section
/-- One round. -/
def xround (P : Program) (okT : Nat → Bool) (call : Nat → List AV → St → Ro) (N rounds : Nat) (ps : List Nat) (assign body : Code) (t0 : Tr AV) (vs : List AV) (st : St) : Option (Ds × St) :=
  match Nat.beq (lenL ps) (lenL vs) && ps.all fun p => Nat.blt p N with
  | true => match xcode P okT call N rounds assign (putsA ps vs t0) [] st with
    | .norm t1 [] st1 => match xcode P okT call N rounds body t1 [] st1 with
      | .norm _ _ st2 => some ([], st2)
      | .ret _ _ st2 => some ([(0, [])], st2)
      | .exit id _ _ st2 => some ([(id + 1, [])], st2)
      | _ => none
    | _ => none
  | false => none
end

section
variable {P : Program} {okT : Nat → Bool} {N rounds : Nat} {call : Nat → List AV → St → Ro} {σ : Env}

theorem puts_tmp : ∀ (ps : List Nat) (vs : List AV) (us : List Value) (t : Tr AV) (a : Act), TmpOK σ t N a → denL σ vs = some us → (∀ p ∈ ps, p < N) →
    TmpOK σ (putsA ps vs t) N { a with tmps := (ps.zip us).foldl (fun t x => t.setIfInBounds x.1 x.2) a.tmps }
  | [], vs, us, t, a, h, _, _ => by cases vs <;> exact ⟨h.val, h.size⟩
  | p :: ps, [], us, t, a, h, hv, _ => by
    obtain rfl := Option.some.inj hv
    exact ⟨h.val, h.size⟩
  | p :: ps, v :: vs, us, t, a, h, hv, hp => by
    obtain ⟨u, us', rfl, h1, h2⟩ := denL_cons hv
    have hd : dstP N (some p) = some (some (path p)) := by
      have := hp p (List.mem_cons_self ..)
      simp only [dstP]
      rw [show Nat.blt p N = true from by simpa using this]
      rfl
    have := puts_tmp ps vs us' _ _ (h.put hd h1) h2 (fun q hq => hp q (List.mem_cons_of_mem _ hq))
    exact ⟨this.val, this.size⟩

theorem xround_mono (hc : CallMono call) {ps : List Nat} {assign body : Code} {t0 : Tr AV} {vs : List AV} {st st2 : St} {d : Ds} (h : xround P okT call N rounds ps assign body t0 vs st = some (d, st2)) : st.n ≤ st2.n := by
  unfold xround at h
  split at h
  · have m1 := code_mono (P := P) (okT := okT) (N := N) hc rounds assign (putsA ps vs t0) [] st
    split at h
    · rename_i t1 st1 e1
      rw [e1] at m1
      have m1 : st.n ≤ st1.n := m1
      have m2 := code_mono (P := P) (okT := okT) (N := N) hc rounds body t1 [] st1
      split at h
      all_goals first
        | (cases h; done)
        | (rename_i e2; rw [e2] at m2; have m2 : st1.n ≤ _ := m2; simp only [Option.some.injEq, Prod.mk.injEq] at h; obtain ⟨_, rfl⟩ := h; exact Nat.le_trans m1 m2)
    · cases h
  · cases h

/-- The round does what its run says. -/
theorem round_ok (hk : OkT P okT) (hc : CallsOK P) (hm : P.follows .mixedOrders = true) (hgood : CallGood P call) {ps : Array Tmp} {assign body : Code} {t0 : Tr AV} {w : World} {l fn D : Nat} {tmps : Array Value} {rec : LoopState → Option Code → Loop}
    (hrec : rec = fun st pe => { state := st, pending := pe, fn, tmps, params := ps, assign, body, defers := D }) (hnd1 : ndC assign) (hnd2 : ndC body) {ds : List Deferred} (ht0 : TmpOK σ t0 N { tmps := tmps, defers := ds })
    {vs : List AV} {us : List Value} {st st2 : St} {d : Ds} (hvs : denL σ vs = some us) (hx : xround P okT call N rounds ps.toList assign body t0 vs st = some (d, st2)) (hfree : ∀ id, st.n ≤ id → id < st2.n → σ id = none) (hg : GlobOK P σ) (hr : Rep σ st.get w)
    (hn : ¬ InA σ st.get l) (hl : w.heap[l]? = some (.loop (rec .ready none))) :
    ∃ tm, (Instr.yield l us.toArray).run P w = .ok (.round l fn tm assign body) w ∧ RoundIn (RF none) 0 P l fn tm assign body w fun e w' => e = .returned (.bool (nilD d)) ∧
      ∃ σ', Stp σ st.get st.n (w.putObj l (.loop (rec .ready none))) σ' st2.get st2.n (w'.putObj l (.loop (rec .ready none))) ∧ ¬ InA σ' st2.get l ∧ w'.heap[l]? = some (.loop (rec (stOf d).1 (stOf d).2)) := by
  have hlt := (Array.getElem?_eq_some_iff.1 hl).1
  unfold xround at hx
  split at hx
  · rename_i hok
    obtain ⟨hlen, hall⟩ := and3 hok
    have hlen : ps.toList.length = vs.length := by rw [← lenL_eq, ← lenL_eq]; exact nbeq hlen
    have hlu := denL_length hvs
    split at hx
    · rename_i t1 st1 e1
      have m1 := code_mono (P := P) (okT := okT) (N := N) hgood.mono rounds assign (putsA ps.toList vs t0) [] st
      rw [e1] at m1
      have m1 : st.n ≤ st1.n := m1
      have m2 := code_mono (P := P) (okT := okT) (N := N) hgood.mono rounds body t1 [] st1
      have hsz : us.toArray.size = (rec .ready none).params.size := by
        rw [hrec]
        simp at hlen ⊢
        omega
      have hy := run_yield (P := P) (args := us.toArray) hl hsz
      have hfold : ((rec .ready none).params.zip us.toArray).foldl (fun tmps (x : Nat × Value) => tmps.setIfInBounds x.1 x.2) (rec .ready none).tmps = (ps.toList.zip us).foldl (fun t x => t.setIfInBounds x.1 x.2) tmps := by
        rw [hrec]
        simp only
        rw [← Array.foldl_toList, Array.toList_zip]
      have ht := puts_tmp ps.toList vs us t0 { tmps := tmps, defers := [] } ⟨ht0.val, ht0.size⟩ hvs (fun p hp => blt_of (List.all_eq_true.1 hall p hp))
      refine ⟨(ps.toList.zip us).foldl (fun t x => t.setIfInBounds x.1 x.2) tmps, by rw [hy, ← hfold, hrec], ?_⟩
      -- behind the body
      have fin : ∀ (jump : Option Code) (σ1 σ2 : Env) (w1 w2 : World), stOf d = (if jump.isNone then .ready else .done, jump) → nilD d = jump.isNone → Stp σ st.get st.n w σ1 st1.get st1.n w1 →
          Stp σ1 st1.get st1.n (w1.putObj l (.loop { rec .ready none with state := .busy })) σ2 st2.get st2.n w2 → ∃ v w3, (Instr.endRound l jump).run P w2 = .ok v w3 ∧ (Ending.returned v = .returned (.bool (nilD d)) ∧
            ∃ σ', Stp σ st.get st.n (w.putObj l (.loop (rec .ready none))) σ' st2.get st2.n (w3.putObj l (.loop (rec .ready none))) ∧ ¬ InA σ' st2.get l ∧ w3.heap[l]? = some (.loop (rec (stOf d).1 (stOf d).2))) := by
        intro jump σ1 σ2 w1 w2 hst hnil hs hs2
        have hlt1 : l < w1.heap.size := Nat.lt_of_lt_of_le hlt hs.only.size
        have hn1 := hs.notA hn hlt
        have hlt1' : l < (w1.putObj l (.loop { rec .ready none with state := .busy })).heap.size := by simpa using hlt1
        have hlt2 : l < w2.heap.size := Nat.lt_of_lt_of_le hlt1' hs2.only.size
        have hb2 : w2.heap[l]? = some (.loop { rec .ready none with state := .busy }) := (hs2.keeps hn1 hlt1').trans (World.putObj_heap_same hlt1)
        refine ⟨_, _, run_endRound jump hb2, by rw [hnil], σ2, ?_, hs2.notA hn1 hlt1', ?_⟩
        · rw [putObj_twice]
          have k2 := hs2.put hn1 hlt1' (.loop (rec .ready none))
          rw [putObj_twice] at k2
          exact (hs.put hn hlt _).trans k2
        · rw [World.putObj_heap_same hlt2, hst, hrec]
      have main : ∀ (r : Rs), xcode P okT call N rounds body t1 [] st1 = r → r ≠ .no → Free σ st.n r → st1.n ≤ st2.n →
          (∀ σ1 w1, Stp σ st.get st.n w σ1 st1.get st1.n w1 → ∀ e a w2, Behind [] σ1 st1.get st1.n (w1.putObj l (.loop { rec .ready none with state := .busy })) N r e a w2 →
            roundPost P l (fun e w' => e = .returned (.bool (nilD d)) ∧ ∃ σ', Stp σ st.get st.n (w.putObj l (.loop (rec .ready none))) σ' st2.get st2.n (w'.putObj l (.loop (rec .ready none))) ∧ ¬ InA σ' st2.get l ∧ w'.heap[l]? = some (.loop (rec (stOf d).1 (stOf d).2))) e a w2) →
          RoundIn (RF none) 0 P l fn ((ps.toList.zip us).foldl (fun t x => t.setIfInBounds x.1 x.2) tmps) assign body w fun e w' => e = .returned (.bool (nilD d)) ∧
            ∃ σ', Stp σ st.get st.n (w.putObj l (.loop (rec .ready none))) σ' st2.get st2.n (w'.putObj l (.loop (rec .ready none))) ∧ ¬ InA σ' st2.get l ∧ w'.heap[l]? = some (.loop (rec (stOf d).1 (stOf d).2)) := by
        intro r hrr hne hfree2 hle hpost
        refine roundIn_of_wpIn trivial ?_
        refine (wpl_xcode (bs := []) (ro := some l) hk hc hm hgood rounds assign (putsA ps.toList vs t0) [] st σ _ w _ (Or.inr hnd1) (by rw [e1]; simp) (by rw [e1]; exact fun id h1 h2 => hfree id h1 (Nat.lt_of_lt_of_le h2 hle)) hg hr ht .nil fun e a1 w1 hb => ?_).wp
        rw [e1] at hb
        obtain ⟨rfl, σ1, hs, ht1, hd1⟩ := hb
        have hl1 : w1.heap[l]? = some (.loop (rec .ready none)) := (hs.keeps hn hlt).trans hl
        refine ⟨_, run_beginRound hl1 (by rw [hrec]), ?_⟩
        have hn1 := hs.notA hn hlt
        exact (wpl_xcode (bs := []) (ro := some l) hk hc hm hgood rounds body t1 [] st1 σ1 a1 _ _ (Or.inr hnd2) (by rw [hrr]; exact hne) (by rw [hrr]; exact hfree2.step hs) (hg.mono hs.le) (hs.rep.put hn1 _) ht1 hd1 fun e a2 w2 hb => hpost σ1 w1 hs e a2 w2 (by rw [← hrr]; exact hb)).wp
      split at hx
      · rename_i t2 d2 st2' e2
        rw [e2] at m2
        obtain ⟨rfl, rfl⟩ : [] = d ∧ st2' = st2 := by simpa using hx
        refine main _ e2 (by simp) hfree m2 fun σ1 w1 hs e a w2 hb => ?_
        obtain ⟨rfl, σ2, hs2, _⟩ := hb
        exact fin none σ1 σ2 w1 w2 rfl rfl hs hs2
      · rename_i t2 d2 st2' e2
        rw [e2] at m2
        obtain ⟨rfl, rfl⟩ : [(0, [])] = d ∧ st2' = st2 := by simpa using hx
        refine main _ e2 (by simp) hfree m2 fun σ1 w1 hs e a w2 hb => ?_
        obtain ⟨rfl, σ2, hs2, _⟩ := hb
        exact fin (some .ret) σ1 σ2 w1 w2 rfl rfl hs hs2
      · rename_i id t2 d2 st2' e2
        rw [e2] at m2
        obtain ⟨rfl, rfl⟩ : [(id + 1, [])] = d ∧ st2' = st2 := by simpa using hx
        refine main _ e2 (by simp) hfree m2 fun σ1 w1 hs e a w2 hb => ?_
        obtain ⟨rfl, σ2, hs2, _⟩ := hb
        exact fin (some (.exit id)) σ1 σ2 w1 w2 rfl rfl hs hs2
      · cases hx
    · cases hx
  · cases hx
end
end Go.Sx

/- Code whose regions and ranges are run in ways of one's own. No program. -/
namespace Go.Sx
open Go.RowKit
set_option linter.unusedVariables false
set_option linter.unusedSimpArgs false

noncomputable section
section
variable (P : Program) (rg : Array Oper → Bool → Tr AV → Ds → St → Rs) (rf : Operand → Array Tmp → Code → Code → Tr AV → Ds → St → Rs)
def gstep (ih : Code → Tr AV → Ds → St → Rs) (c : Code) (t : Tr AV) (d : Ds) (st : St) : Rs :=
  match c with
  | .skip => .norm t d st
  | .label _ => .norm t d st
  | .region _ ops draw => rg ops draw t d st
  | .seq a b => xseq ih a b t d st
  | .cond c a b => xcond ih P c a b t d st
  | .block id b => xblock ih id b t d st
  | .loop b => xloop ih b t d st
  | .exit id => .exit id t d st
  | .ret => .ret t d st
  | .rangeFunc g ps a b => rf g ps a b t d st
  | _ => .no
def gcode (n : Nat) : Code → Tr AV → Ds → St → Rs :=
  Nat.rec (motive := fun _ => Code → Tr AV → Ds → St → Rs) (fun _ _ _ _ => .no) (fun _ ih c t d st => gstep P rg rf ih c t d st) n
end
end

/-- What stands behind such code. -/
def GB (I : Env → Tr AV → Ds → St → Act → World → Prop) (S : Env → St → World → Env → St → World → Prop) (σ : Env) (st : St) (w : World) : Rs → Exit → Act → World → Prop
  | .no, _, _, _ => True
  | .norm t d st', e, a, w' => e = .normal ∧ ∃ σ', S σ st w σ' st' w' ∧ I σ' t d st' a w'
  | .exit id t d st', e, a, w' => e = .exit id ∧ ∃ σ', S σ st w σ' st' w' ∧ I σ' t d st' a w'
  | .ret t d st', e, a, w' => e = .ret ∧ ∃ σ', S σ st w σ' st' w' ∧ I σ' t d st' a w'
  | .pan .., _, _, _ => False

structure GOK (P : Program) (rg : Array Oper → Bool → Tr AV → Ds → St → Rs) (rf : Operand → Array Tmp → Code → Code → Tr AV → Ds → St → Rs) (I : Env → Tr AV → Ds → St → Act → World → Prop) (S : Env → St → World → Env → St → World → Prop) : Prop where
  refl : ∀ {σ t d st a w}, I σ t d st a w → S σ st w σ st w
  trans : ∀ {σ0 st0 w0 σ1 st1 w1 σ2 st2 w2}, S σ0 st0 w0 σ1 st1 w1 → S σ1 st1 w1 σ2 st2 w2 → S σ0 st0 w0 σ2 st2 w2
  free : ∀ {σ0 st0 w0 σ1 st1 w1 r}, S σ0 st0 w0 σ1 st1 w1 → Free σ0 st0.n r → Free σ1 st1.n r
  ev : ∀ {σ t d st a w}, I σ t d st a w → EvOK P σ t a.eval
  rgMono : ∀ ops draw t d st, (rg ops draw t d st).ge st.n
  rfMono : ∀ g ps x y t d st, (rf g ps x y t d st).ge st.n
  region : ∀ id ops draw t d st σ a w (Q : Exit → Act → World → Prop), rg ops draw t d st ≠ .no → Free σ st.n (rg ops draw t d st) → I σ t d st a w →
    (∀ e a' w', GB I S σ st w (rg ops draw t d st) e a' w' → Q e a' w') → (Code.region id ops draw).wpIn (RF none) 0 P Q a w
  range : ∀ g ps x y t d st σ a w (Q : Exit → Act → World → Prop), rf g ps x y t d st ≠ .no → Free σ st.n (rf g ps x y t d st) → I σ t d st a w →
    (∀ e a' w', GB I S σ st w (rf g ps x y t d st) e a' w' → Q e a' w') → (Code.rangeFunc g ps x y).wpIn (RF none) 0 P Q a w

section
variable {P : Program} {rg : Array Oper → Bool → Tr AV → Ds → St → Rs} {rf : Operand → Array Tmp → Code → Code → Tr AV → Ds → St → Rs} {I : Env → Tr AV → Ds → St → Act → World → Prop} {S : Env → St → World → Env → St → World → Prop}

theorem gcode_succ {n c t d st} : gcode P rg rf (n + 1) c t d st = gstep P rg rf (gcode P rg rf n) c t d st := rfl

theorem gcode_mono (h1 : ∀ ops draw t d st, (rg ops draw t d st).ge st.n) (h2 : ∀ g ps x y t d st, (rf g ps x y t d st).ge st.n) : ∀ (n : Nat) (c : Code) (t : Tr AV) (d : Ds) (st : St), (gcode P rg rf n c t d st).ge st.n
  | 0, c, t, d, st => trivial
  | n + 1, c, t, d, st => by
    rw [gcode_succ]
    have ih := gcode_mono h1 h2 n
    unfold gstep
    split
    · exact Nat.le_refl _
    · exact Nat.le_refl _
    · exact h1 _ _ _ _ _
    · exact ge_seq ih _ _ _ _ _
    · rename_i x a b
      unfold xcond
      cases cOp P x with
      | none => trivial
      | some y =>
        show (xcondB _ (Sx.ev y t) a b t d st).ge st.n
        unfold xcondB
        split
        · rename_i v _
          cases v
          · exact ih _ _ _ _
          · exact ih _ _ _ _
        · trivial
    · rename_i id b
      unfold xblock
      have := ih b t d st
      cases hr : gcode P rg rf n b t d st with
      | no => trivial
      | norm t1 d1 st1 => rw [hr] at this; exact this
      | exit j t1 d1 st1 =>
        rw [hr] at this
        show Rs.ge st.n (Bool.rec (motive := fun _ => Rs) (.exit j t1 d1 st1) (.norm t1 d1 st1) (Nat.beq j id))
        cases Nat.beq j id <;> exact this
      | ret t1 d1 st1 => rw [hr] at this; exact this
      | pan v t1 d1 st1 => rw [hr] at this; exact this
    · rename_i b
      unfold xloop
      have := ih b t d st
      cases hr : gcode P rg rf n b t d st with
      | no => trivial
      | norm t1 d1 st1 => rw [hr] at this; exact Rs.ge.trans this (ih (.loop b) t1 d1 st1)
      | exit j t1 d1 st1 => rw [hr] at this; exact this
      | ret t1 d1 st1 => rw [hr] at this; exact this
      | pan v t1 d1 st1 => rw [hr] at this; exact this
    · exact Nat.le_refl _
    · exact Nat.le_refl _
    · exact h2 _ _ _ _ _ _ _
    · trivial

theorem GB.trans (H : GOK P rg rf I S) {σ σ1 : Env} {st st1 : St} {w w1 : World} (s : S σ st w σ1 st1 w1) : ∀ {r : Rs} {e : Exit} {a : Act} {w' : World}, GB I S σ1 st1 w1 r e a w' → GB I S σ st w r e a w'
  | .no, _, _, _, _ => trivial
  | .norm t d st', e, a, w', ⟨h1, σ', h2, h3⟩ => ⟨h1, σ', H.trans s h2, h3⟩
  | .exit id t d st', e, a, w', ⟨h1, σ', h2, h3⟩ => ⟨h1, σ', H.trans s h2, h3⟩
  | .ret t d st', e, a, w', ⟨h1, σ', h2, h3⟩ => ⟨h1, σ', H.trans s h2, h3⟩
  | .pan v t d st', e, a, w', h => h.elim

/-- The code does what its run says. -/
theorem wpl_gcode (H : GOK P rg rf I S) : ∀ (n : Nat) (c : Code) (t : Tr AV) (d : Ds) (st : St) (σ : Env) (a : Act) (w : World) (Qe : Exit → Act → World → Prop),
    gcode P rg rf n c t d st ≠ .no → Free σ st.n (gcode P rg rf n c t d st) → I σ t d st a w → (∀ e a' w', GB I S σ st w (gcode P rg rf n c t d st) e a' w' → Qe e a' w') → Wpl none P c Qe a w
  | 0, c, t, d, st, σ, a, w, Qe, hne, _, _, _ => absurd rfl hne
  | n + 1, c, t, d, st, σ, a, w, Qe, hne, hfree, hI, hQ => by
    have ih := wpl_gcode H n
    have mono := gcode_mono (P := P) H.rgMono H.rfMono n
    rw [gcode_succ] at hne hfree hQ
    -- a piece of code, and what comes behind it
    have two : ∀ (x : Code) (Q2 : Exit → Act → World → Prop), gcode P rg rf n x t d st ≠ .no → Free σ st.n (gcode P rg rf n x t d st) →
        (∀ e a' w', GB I S σ st w (gcode P rg rf n x t d st) e a' w' → Q2 e a' w') → x.wpIn (RF none) 0 P Q2 a w := fun x Q2 h1 h2 h3 => (ih x t d st σ a w Q2 h1 h2 hI h3).wp
    cases c <;> simp only [gstep] at hne hfree hQ
    case skip => exact wpIn_skip (hQ .normal a w ⟨rfl, σ, H.refl hI, hI⟩)
    case label l => exact wpIn_label (hQ .normal a w ⟨rfl, σ, H.refl hI, hI⟩)
    case exit id => exact wpIn_exit (hQ (.exit id) a w ⟨rfl, σ, H.refl hI, hI⟩)
    case ret => exact wpIn_ret (hQ .ret a w ⟨rfl, σ, H.refl hI, hI⟩)
    case region id ops draw => exact H.region id ops draw t d st σ a w Qe hne hfree hI hQ
    case rangeFunc g ps x y => exact H.range g ps x y t d st σ a w Qe hne hfree hI hQ
    case seq x y =>
      unfold xseq at hne hfree hQ
      refine wpIn_seq ?_
      cases hx : gcode P rg rf n x t d st with
      | no => rw [hx] at hne; exact absurd rfl hne
      | norm t1 d1 st1 =>
        rw [hx] at hne hfree hQ
        have hm1 := mono y t1 d1 st1
        refine two x _ (by rw [hx]; simp) (by rw [hx]; exact hfree.below hne hm1) fun e a' w' hb => ?_
        rw [hx] at hb
        obtain ⟨rfl, σ', hs, hI'⟩ := hb
        exact (ih y t1 d1 st1 σ' a' w' Qe hne (H.free hs hfree) hI' fun e a'' w'' hb => hQ e a'' w'' (GB.trans H hs hb)).wp
      | exit id t1 d1 st1 =>
        rw [hx] at hne hfree hQ
        refine two x _ (by rw [hx]; simp) (by rw [hx]; exact hfree) fun e a' w' hb => ?_
        rw [hx] at hb
        obtain rfl := hb.1
        exact hQ _ _ _ hb
      | ret t1 d1 st1 =>
        rw [hx] at hne hfree hQ
        refine two x _ (by rw [hx]; simp) (by rw [hx]; exact hfree) fun e a' w' hb => ?_
        rw [hx] at hb
        obtain rfl := hb.1
        exact hQ _ _ _ hb
      | pan v t1 d1 st1 =>
        rw [hx] at hne hfree hQ
        refine two x _ (by rw [hx]; simp) (by rw [hx]; exact hfree) fun e a' w' hb => ?_
        rw [hx] at hb
        exact hb.elim
    case cond x y z =>
      unfold xcond at hne hfree hQ
      cases hx : cOp P x with
      | none => rw [hx] at hne; exact absurd rfl hne
      | some o =>
        rw [hx] at hne hfree hQ
        unfold xcondB at hne hfree hQ
        have he := H.ev hI x o hx
        cases hv : Sx.ev o t with
        | bool b =>
          simp only [hv] at hne hfree hQ he
          have he : a.eval x = .bool b := (Option.some.inj he).symm
          refine wpIn_cond he ?_
          cases b with
          | true => exact two y Qe hne hfree hQ
          | false => exact two z Qe hne hfree hQ
        | _ => simp only [hv] at hne; exact absurd rfl hne
    case block id x =>
      unfold xblock at hne hfree hQ
      refine wpIn_block ?_
      cases hx : gcode P rg rf n x t d st with
      | no => rw [hx] at hne; exact absurd rfl hne
      | norm t1 d1 st1 =>
        rw [hx] at hne hfree hQ
        refine two x _ (by rw [hx]; simp) (by rw [hx]; exact hfree) fun e a' w' hb => ?_
        rw [hx] at hb
        obtain rfl := hb.1
        exact hQ _ _ _ hb
      | exit j t1 d1 st1 =>
        rw [hx] at hne hfree hQ
        simp only at hne hfree hQ
        cases hj : Nat.beq j id with
        | true =>
          rw [hj] at hne hfree hQ
          refine two x _ (by rw [hx]; simp) (by rw [hx]; exact hfree) fun e a' w' hb => ?_
          rw [hx] at hb
          obtain ⟨rfl, hb⟩ := hb
          show if j = id then _ else _
          rw [if_pos (nbeq hj)]
          exact hQ _ _ _ ⟨rfl, hb⟩
        | false =>
          rw [hj] at hne hfree hQ
          refine two x _ (by rw [hx]; simp) (by rw [hx]; exact hfree) fun e a' w' hb => ?_
          rw [hx] at hb
          obtain ⟨rfl, hb⟩ := hb
          show if j = id then _ else _
          rw [if_neg (fun h => by subst h; rw [Nat.beq_refl] at hj; cases hj)]
          exact hQ _ _ _ ⟨rfl, hb⟩
      | ret t1 d1 st1 =>
        rw [hx] at hne hfree hQ
        refine two x _ (by rw [hx]; simp) (by rw [hx]; exact hfree) fun e a' w' hb => ?_
        rw [hx] at hb
        obtain rfl := hb.1
        exact hQ _ _ _ hb
      | pan v t1 d1 st1 =>
        rw [hx] at hne hfree hQ
        refine two x _ (by rw [hx]; simp) (by rw [hx]; exact hfree) fun e a' w' hb => ?_
        rw [hx] at hb
        exact hb.elim
    case loop x =>
      unfold xloop at hne hfree hQ
      refine loop_in ?_
      cases hx : gcode P rg rf n x t d st with
      | no => rw [hx] at hne; exact absurd rfl hne
      | norm t1 d1 st1 =>
        rw [hx] at hne hfree hQ
        have hm1 := mono (.loop x) t1 d1 st1
        refine two x _ (by rw [hx]; simp) (by rw [hx]; exact hfree.below hne hm1) fun e a' w' hb => ?_
        rw [hx] at hb
        obtain ⟨rfl, σ', hs, hI'⟩ := hb
        exact ih (.loop x) t1 d1 st1 σ' a' w' Qe hne (H.free hs hfree) hI' fun e a'' w'' hb => hQ e a'' w'' (GB.trans H hs hb)
      | exit id t1 d1 st1 =>
        rw [hx] at hne hfree hQ
        refine two x _ (by rw [hx]; simp) (by rw [hx]; exact hfree) fun e a' w' hb => ?_
        rw [hx] at hb
        obtain rfl := hb.1
        exact hQ _ _ _ hb
      | ret t1 d1 st1 =>
        rw [hx] at hne hfree hQ
        refine two x _ (by rw [hx]; simp) (by rw [hx]; exact hfree) fun e a' w' hb => ?_
        rw [hx] at hb
        obtain rfl := hb.1
        exact hQ _ _ _ hb
      | pan v t1 d1 st1 =>
        rw [hx] at hne hfree hQ
        refine two x _ (by rw [hx]; simp) (by rw [hx]; exact hfree) fun e a' w' hb => ?_
        rw [hx] at hb
        exact hb.elim
    all_goals exact absurd rfl hne
end
end Go.Sx

/- The function that is ranged over. No program. -/
namespace Go.Sx
open Go.RowKit
set_option linter.unusedVariables false
set_option linter.unusedSimpArgs false

noncomputable section
/-- A call of the loop's yield: its arguments. -/
def isY (Y : Nat) (co : CO) (t : Tr AV) : Option (List AV) :=
  match co with
  | .cal f vs => match ev f t with
    | .yld id => bif Nat.beq id Y then some (evs vs t) else none
    | _ => none
  | _ => none

section
variable (call : Nat → List AV → St → Ro) (yh : List AV → St → Option (Ds × St)) (Y : Nat)
def xyl (k : Tr AV → Ds → St → Rs) (dst : Option (List Q)) (vs : List AV) (t : Tr AV) (d : Ds) (st : St) : Rs :=
  match d with
  | [] => match yh vs st with
    | some (d1, st1) => k (putD dst (.bool (nilD d1)) t) d1 st1
    | none => .no
  | _ => .no

def xone (k : Tr AV → Ds → St → Rs) (pe : PE) (t : Tr AV) (d : Ds) (st : St) : Rs :=
  match xregL call false [pe] [] t [] st with
  | .norm t1 [] st1 => k t1 d st1
  | _ => .no

def xopY (k : Tr AV → Ds → St → Rs) (pe : PE) (t : Tr AV) (d : Ds) (st : St) : Rs :=
  match pe with
  | .mk i dst g um co => match wantedA g t with
    | true => match isY Y co t with
      | some vs => xyl yh k dst vs t d st
      | none => xone call k (.mk i dst g um co) t d st
    | false => xone call k (.mk i dst g um co) t d st

def xregY (l : List PE) : Tr AV → Ds → St → Rs :=
  List.rec (motive := fun _ => Tr AV → Ds → St → Rs) (fun t d st => .norm t d st) (fun pe _ ih t d st => xopY call yh Y ih pe t d st) l

def xdrawn (r : Rs) (d : Ds) : Rs :=
  match r with
  | .norm t1 [] st1 => .norm t1 d st1
  | _ => .no

def xregionY (P : Program) (okT : Nat → Bool) (N : Nat) (ops : Array Oper) (draw : Bool) (t : Tr AV) (d : Ds) (st : St) : Rs :=
  match draw with
  | true => xdrawn (xregion P okT call N ops true t [] st) d
  | false => match plan P okT N ops false with
    | some l => xregY call yh Y l t d st
    | none => .no

/-- The function's call. -/
def xiter (P : Program) (okT : Nat → Bool) (rounds gf : Nat) (cap : List AV) (st : St) : Option (Ds × St) :=
  match fnOf P gf with
  | some (N, c, []) => match gcode P (xregionY call yh Y P okT N) (fun _ _ _ _ _ _ _ => .no) rounds c (argsTr 0 (.yld Y :: cap) .lf) [] st with
    | .norm _ d st1 => some (d, st1)
    | .ret _ d st1 => some (d, st1)
    | _ => none
  | _ => none
end
end

/-- What is asked of the rounds. -/
structure YhOK (P : Program) (yh : List AV → St → Option (Ds × St)) (σ0 : Env) (l fn : Nat) (rdy : Loop) (rec : LoopState → Option Code → Loop) : Prop where
  mono : ∀ {vs st d st2}, yh vs st = some (d, st2) → st.n ≤ st2.n
  ok : ∀ {σ w vs us st st2 d}, σ0.le σ → denL σ vs = some us → yh vs st = some (d, st2) → (∀ id, st.n ≤ id → id < st2.n → σ id = none) → GlobOK P σ → Rep σ st.get w → ¬ InA σ st.get l → w.heap[l]? = some (.loop rdy) →
    ∃ tm as bd, (Instr.yield l us.toArray).run P w = .ok (.round l fn tm as bd) w ∧ RoundIn (RF none) 0 P l fn tm as bd w fun e w' => e = .returned (.bool (nilD d)) ∧
      ∃ σ', Stp σ st.get st.n (w.putObj l (.loop rdy)) σ' st2.get st2.n (w'.putObj l (.loop rdy)) ∧ ¬ InA σ' st2.get l ∧ w'.heap[l]? = some (.loop (rec (stOf d).1 (stOf d).2))

section
variable {P : Program} {okT : Nat → Bool} {call : Nat → List AV → St → Ro} {yh : List AV → St → Option (Ds × St)} {Y N : Nat} {σ0 : Env} {l fn : Nat} {rdy : Loop} {rec : LoopState → Option Code → Loop}

/-- In the function that is ranged over. -/
structure IterI (P : Program) (σ0 : Env) (l Y N : Nat) (rec : LoopState → Option Code → Loop) (σ : Env) (t : Tr AV) (d : Ds) (st : St) (a : Act) (w : World) : Prop where
  glob : GlobOK P σ
  rep : Rep σ st.get w
  tmp : TmpOK σ t N a
  defs : a.defers = []
  le : σ0.le σ
  yld : ∃ b c, σ Y = some ⟨l, b, c⟩
  notA : ¬ InA σ st.get l
  at_ : w.heap[l]? = some (.loop (rec (stOf d).1 (stOf d).2))

def IterS (l : Nat) (rdy : Loop) (σ : Env) (st : St) (w : World) (σ' : Env) (st' : St) (w' : World) : Prop :=
  Stp σ st.get st.n (w.putObj l (.loop rdy)) σ' st'.get st'.n (w'.putObj l (.loop rdy))

theorem IterI.step {σ σ' : Env} {t t' : Tr AV} {d : Ds} {st st' : St} {a a' : Act} {w w' : World} (h : IterI P σ0 l Y N rec σ t d st a w) (s : Stp σ st.get st.n w σ' st'.get st'.n w') (ht : TmpOK σ' t' N a') (hd : a'.defers = []) :
    IterI P σ0 l Y N rec σ' t' d st' a' w' ∧ IterS l rdy σ st w σ' st' w' := by
  have hlt := (Array.getElem?_eq_some_iff.1 h.at_).1
  obtain ⟨b, c, hy⟩ := h.yld
  exact ⟨⟨h.glob.mono s.le, s.rep, ht, hd, h.le.trans s.le, ⟨b, c, s.le _ _ hy⟩, s.notA h.notA hlt, (s.keeps h.notA hlt).trans h.at_⟩, s.put h.notA hlt _⟩

theorem cal_op {o : Oper} {fo : OP} {vs : List OP} (hco : opC P okT o.op = some (.cal fo vs)) : ∃ c f, o.op = .call c ∧ c.callee = .value f ∧ cOp P f = some fo ∧ cOps P c.args.toList = some vs := by
  cases hop : o.op <;> rw [hop] at hco <;> simp only [opC] at hco
  case call c =>
    unfold cCall at hco
    split at hco
    · exfalso
      split at hco
      · rename_i b _ _ vs' _
        unfold builtinC at hco
        split at hco
        all_goals first
          | (cases hco; done)
          | (split at hco <;> first
            | (cases hco; done)
            | (simp only [appC, copyC, lenC, capC, clearC, u2, u1, a2] at hco
               repeat' (first | (cases hco; done) | (split at hco) | (simp only [cond_eq_ite, u1, a1, a2] at hco))))
      · cases hco
    · rename_i f' hcal
      split at hco
      · rename_i f'' vs'' hf' hvs'
        obtain ⟨rfl, rfl⟩ : f'' = fo ∧ vs'' = vs := by simpa using hco
        exact ⟨c, f', rfl, hcal, hf', hvs'⟩
      · cases hco
    · cases hco
  all_goals exfalso
  all_goals first
    | (cases hco; done)
    | (simp only [cMove, cPick, cAlloc, cBox, cBuild, cBuildS, cLoad, cStore, cNil, cBin, cUn, cConv, convF, cIface, cFunc, cMap, cMakeS, cSlice, sliceC, cFieldA, cS2A, cField, cIndexA, cIndex, cLookup, cUpd, cEntry, cEStore, cAssert, cExt, cDefer, cPanic, u1, u2, a1, a2, a3] at hco
       repeat' (first | (cases hco; done) | (split at hco) | (simp only [cond_eq_ite, u1, a1, a2] at hco)))

theorem wpOpIn_imp {F : Fence} {n : Nat} {ops : Array Oper} {Q Q' : Exit → Act → World → Prop} {i : Nat} {K K' : Act → World → Prop} {a : Act} {w : World} (hK : ∀ a w, K a w → K' a w) (hQ : ∀ e a w, e ≠ .normal → Q e a w → Q' e a w)
    (h : wpOpIn F n P ops Q i K a w) : wpOpIn F n P ops Q' i K' a w := by
  unfold wpOpIn at *
  split
  · exact hK _ _ (by simpa [*] using h)
  · rename_i o ho
    simp only [ho] at h
    split
    · rename_i hw
      simp only [hw, if_true] at h
      unfold Oper.wpIn at *
      refine ⟨h.1, ?_⟩
      have hh := h.2
      have out : LetsOut Q → LetsOut Q' := fun ⟨a, w, h⟩ => ⟨a, w, hQ _ _ _ (by simp) h⟩
      generalize (o.semAt F.round a.eval).run P w = r at *
      cases r with
      | ok x w' =>
        cases x <;> simp only [Oper.uponIn] at hh ⊢ <;>
          first
            | exact hK _ _ hh
            | exact ⟨hh.1, CallsIn.mono hh.2 (fun e w'' he => by cases e <;> first | exact hK _ _ he | exact hQ _ _ _ (by simp) he | exact out he)⟩
            | exact ⟨hh.1, RowsIn.mono hh.2 (fun _ _ he => hK _ _ he)⟩
            | exact ⟨hh.1, RoundIn.mono hh.2 (fun e w'' he => by cases e <;> first | exact hK _ _ he | exact hQ _ _ _ (by simp) he | exact out he)⟩
      | halt x w' => cases x <;> simp only [Oper.uponIn] at hh ⊢ <;> first | exact hQ _ _ _ (by simp) hh | exact hh
    · rename_i hw
      simp only [hw] at h
      exact ⟨h.1, hK _ _ h.2⟩

theorem isY_some {co : CO} {t : Tr AV} {vs : List AV} (h : isY Y co t = some vs) : ∃ f xs, co = .cal f xs ∧ ev f t = .yld Y ∧ vs = evs xs t := by
  unfold isY at h
  split at h
  · rename_i f xs
    split at h
    · rename_i id he
      cases hb : Nat.beq id Y with
      | false => rw [hb] at h; cases h
      | true =>
        rw [hb] at h
        obtain rfl := nbeq hb
        exact ⟨f, xs, rfl, he, (Option.some.inj h).symm⟩
    · cases h
  · cases h

/-- yield comes up. -/
theorem op_yield (hyh : YhOK P yh σ0 l fn rdy rec) (hrdy : rdy = rec .ready none) {σ : Env} {t : Tr AV} {st : St} {a : Act} {w : World} {ops : Array Oper} {i : Nat} {o : Oper} {dst : Option (List Q)} (hI : IterI P σ0 l Y N rec σ t [] st a w)
    (hi : ops[i]? = some o) (hw : Region.wanted o (yielded ops a.tmps) = true) {f : OP} {xs : List OP} (hco : opC P okT o.op = some (.cal f xs)) (hf : ev f t = .yld Y) (hd : dstP N o.dst = some dst)
    {d1 : Ds} {st1 : St} (hy : yh (evs xs t) st = some (d1, st1)) (hfree : ∀ id, st.n ≤ id → id < st1.n → σ id = none) {Qe : Exit → Act → World → Prop} {K : Act → World → Prop}
    (h : ∀ σ' a' w', IterS l rdy σ st w σ' st1 w' → IterI P σ0 l Y N rec σ' (putD dst (.bool (nilD d1)) t) d1 st1 a' w' → K a' w') : wpOpIn (RF none) 0 P ops Qe i K a w := by
  obtain ⟨c, f', hop, hcal, hcf, hcv⟩ := cal_op hco
  have he := hI.tmp.ev hI.glob
  have hdf := he _ _ hcf
  obtain ⟨b, cp, hyl⟩ := hI.yld
  rw [hf] at hdf
  simp only [den, hyl, Option.map_some, Option.some.injEq] at hdf
  have hda := cOps_den he hcv
  have hl : w.heap[l]? = some (.loop rdy) := by rw [hrdy]; exact hI.at_
  obtain ⟨tm, as, bd, hrun, hround⟩ := hyh.ok hI.le hda hy hfree hI.glob hI.rep hI.notA hl
  unfold wpOpIn
  simp only [hi, hw, if_true]
  refine ⟨fun _ _ => trivial, ?_⟩
  have hrun' : (execOp a.eval o).run P w = .ok (.round l fn tm as bd) w := by
    simp only [execOp, hop, resolve, hcal, Sem.run_bind, ← hdf, Deferred.ofValue, Sem.run_pure, Result.andThen_ok, invoke]
    rw [← hrun]
    congr 2
    apply Array.ext'
    simp
  rw [semAt_ran hrun' (by intro d h; cases h), hrun']
  show ((RF none).depth.isSome = true → 1 ≤ 0) ∧ RoundIn (RF none) (0 - 1) P l fn tm as bd w _
  refine ⟨fun h => absurd h (by simp [RF]), hround.mono ?_⟩
  rintro e w' ⟨rfl, σ', hs, hn, hat⟩
  refine h σ' _ w' hs ⟨hI.glob.mono hs.le, ?_, (hI.tmp.mono hs.le).put hd rfl, ?_, hI.le.trans hs.le, ⟨b, cp, hs.le _ _ hyl⟩, hn, hat⟩
  · have hr := hs.rep.put hn (.loop (rec (stOf d1).1 (stOf d1).2))
    rw [putObj_twice, putObj_same hat] at hr
    exact hr
  · rw [put_defers]; exact hI.defs

theorem xone_ok {k : Tr AV → Ds → St → Rs} {pe : PE} {t : Tr AV} {d : Ds} {st : St} (hne : xone call k pe t d st ≠ .no) : ∃ t1 st1, xregL call false [pe] [] t [] st = .norm t1 [] st1 ∧ xone call k pe t d st = k t1 d st1 := by
  unfold xone at hne ⊢
  split at hne
  · rename_i t1 st1 h
    exact ⟨t1, st1, h, rfl⟩
  · exact absurd rfl hne

theorem regY_mono (hc : CallMono call) (hy : ∀ {vs st d st2}, yh vs st = some (d, st2) → st.n ≤ st2.n) : ∀ (L : List PE) (t : Tr AV) (d : Ds) (st : St), (xregY call yh Y L t d st).ge st.n
  | [], t, d, st => Nat.le_refl _
  | .mk i dst g um co :: L, t, d, st => by
    have ih := regY_mono hc hy L
    show (xopY call yh Y (xregY call yh Y L) (.mk i dst g um co) t d st).ge st.n
    have one : (xone call (xregY call yh Y L) (.mk i dst g um co) t d st).ge st.n := by
      by_cases hne : xone call (xregY call yh Y L) (.mk i dst g um co) t d st = .no
      · rw [hne]; trivial
      · obtain ⟨t1, st1, h1, h2⟩ := xone_ok hne
        rw [h2]
        have := regL_mono hc (draw := false) [.mk i dst g um co] [] t [] st
        rw [h1] at this
        exact Rs.ge.trans this (ih _ _ _)
    unfold xopY
    simp only
    split
    · split
      · unfold xyl
        split
        · split
          · rename_i h
            exact Rs.ge.trans (hy h) (ih _ _ _)
          · trivial
        · trivial
      · exact one
    · exact one

/-- A region that draws no order, yield among its operations. -/
theorem wp_regY (hk : OkT P okT) (hc : CallsOK P) (hgood : CallGood P call) (hyh : YhOK P yh σ0 l fn rdy rec) (hrdy : rdy = rec .ready none) {ops : Array Oper} {Qe : Exit → Act → World → Prop} : ∀ (L : List PE) (t : Tr AV) (d : Ds) (st : St) (σ : Env) (a : Act) (w : World),
    (∀ pe ∈ L, PEok P okT N ops pe) → (∀ pe ∈ L, pe.um = 0) → xregY call yh Y L t d st ≠ .no → Free σ st.n (xregY call yh Y L t d st) → IterI P σ0 l Y N rec σ t d st a w →
    (∀ e a' w', GB (IterI P σ0 l Y N rec) (IterS l rdy) σ st w (xregY call yh Y L t d st) e a' w' → Qe e a' w') → wpOpsIn (RF none) 0 P ops Qe (L.map PE.i) a w
  | [], t, d, st, σ, a, w, _, _, _, _, hI, hQ => hQ .normal a w ⟨rfl, σ, Stp.refl (hI.rep.put hI.notA _), hI⟩
  | .mk i dst g um co :: L, t, d, st, σ, a, w, hpe, hum, hne, hfree, hI, hQ => by
    have ih := wp_regY hk hc hgood hyh hrdy (ops := ops) (Qe := Qe) L
    have hpe' : ∀ pe ∈ L, PEok P okT N ops pe := fun pe h => hpe pe (List.mem_cons_of_mem _ h)
    have hum' : ∀ pe ∈ L, pe.um = 0 := fun pe h => hum pe (List.mem_cons_of_mem _ h)
    obtain ⟨o, hi, hco, hd, hgd⟩ := hpe _ (List.mem_cons_self ..)
    have hwd := wanted_eq hI.tmp hgd
    have hmY := regY_mono (call := call) (yh := yh) (Y := Y) hgood.mono hyh.mono L
    -- an operation that is not yield
    have one : ∀ (hx : xregY call yh Y (.mk i dst g um co :: L) t d st = xone call (xregY call yh Y L) (.mk i dst g um co) t d st), wpOpsIn (RF none) 0 P ops Qe ((PE.mk i dst g um co :: L).map PE.i) a w := by
      intro hx
      rw [hx] at hne hfree hQ
      obtain ⟨t1, st1, h1, h2⟩ := xone_ok hne
      rw [h2] at hne hfree hQ
      have hm1 := hmY t1 d st1
      rw [List.map_cons, wpOpsIn_cons]
      have := wp_regL (bs := []) (ro := none) (Qe := fun e a' w' => e = .normal ∧ ∃ σ', Stp σ st.get st.n w σ' st1.get st1.n w' ∧ TmpOK σ' t1 N a' ∧ DefOK [] σ' [] a'.defers) hk hc hgood [.mk i dst g um co] [] t [] st σ a w (fun pe h => hpe pe (by rw [List.mem_singleton] at h; rw [h]; exact List.mem_cons_self ..)) (fun pe h => hum pe (by rw [List.mem_singleton] at h; rw [h]; exact List.mem_cons_self ..))
        (Or.inl rfl) (by rw [h1]; simp) (by rw [h1]; exact hfree.below hne hm1) hI.glob hI.rep hI.tmp (by rw [hI.defs]; exact .nil) (fun e a' w' hb => by rw [h1] at hb; exact hb)
      rw [List.map_cons, List.map_nil, wpOpsIn_cons] at this
      refine wpOpIn_imp ?_ ?_ this
      · rintro a' w' ⟨_, σ', hs, ht', hd'⟩
        have hdn : a'.defers = [] := by
          cases hq : a'.defers with
          | nil => rfl
          | cons => rw [hq] at hd'; cases hd'
        obtain ⟨hI', hS⟩ := hI.step (rdy := rdy) hs ht' hdn
        exact ih t1 d st1 σ' a' w' hpe' hum' hne (hfree.step hs) hI' fun e a'' w'' hb => hQ e a'' w'' (by
          revert hb
          generalize xregY call yh Y L t1 d st1 = r
          intro hb
          cases r with
          | no => trivial
          | norm t2 d2 st2 => obtain ⟨h1, σ2, h2, h3⟩ := hb; exact ⟨h1, σ2, Stp.trans hS h2, h3⟩
          | exit id t2 d2 st2 => obtain ⟨h1, σ2, h2, h3⟩ := hb; exact ⟨h1, σ2, Stp.trans hS h2, h3⟩
          | ret t2 d2 st2 => obtain ⟨h1, σ2, h2, h3⟩ := hb; exact ⟨h1, σ2, Stp.trans hS h2, h3⟩
          | pan v t2 d2 st2 => exact hb.elim)
      · rintro e a' w' hne' ⟨h, _⟩
        exact absurd h hne'
    cases hw : wantedA g t with
    | false => exact one (by show xopY call yh Y (xregY call yh Y L) (.mk i dst g um co) t d st = _; unfold xopY; simp only [hw])
    | true =>
      cases hy : isY Y co t with
      | none => exact one (by show xopY call yh Y (xregY call yh Y L) (.mk i dst g um co) t d st = _; unfold xopY; simp only [hw, hy])
      | some vs =>
        have hx : xregY call yh Y (.mk i dst g um co :: L) t d st = xyl yh (xregY call yh Y L) dst vs t d st := by
          show xopY call yh Y (xregY call yh Y L) (.mk i dst g um co) t d st = _
          unfold xopY
          simp only [hw, hy]
        rw [hx] at hne hfree hQ
        unfold xyl at hne hfree hQ
        cases d with
        | cons => exact absurd rfl hne
        | nil =>
          simp only at hne hfree hQ
          cases hr : yh vs st with
          | none => rw [hr] at hne; exact absurd rfl hne
          | some p =>
            obtain ⟨d1, st1⟩ := p
            rw [hr] at hne hfree hQ
            simp only at hne hfree hQ
            obtain ⟨f, xs, rfl, hf, rfl⟩ := isY_some hy
            have hm1 := hmY (putD dst (.bool (nilD d1)) t) d1 st1
            rw [List.map_cons, wpOpsIn_cons]
            rw [hw] at hwd
            refine op_yield hyh hrdy hI hi hwd.symm hco hf hd hr (hfree.below hne hm1) fun σ' a' w' hS hI' => ?_
            exact ih _ d1 st1 σ' a' w' hpe' hum' hne (Free.step hS hfree) hI' fun e a'' w'' hb => hQ e a'' w'' (by
              revert hb
              generalize xregY call yh Y L (putD dst (.bool (nilD d1)) t) d1 st1 = r
              intro hb
              cases r with
              | no => trivial
              | norm t2 d2 st2 => obtain ⟨h1, σ2, h2, h3⟩ := hb; exact ⟨h1, σ2, Stp.trans hS h2, h3⟩
              | exit id t2 d2 st2 => obtain ⟨h1, σ2, h2, h3⟩ := hb; exact ⟨h1, σ2, Stp.trans hS h2, h3⟩
              | ret t2 d2 st2 => obtain ⟨h1, σ2, h2, h3⟩ := hb; exact ⟨h1, σ2, Stp.trans hS h2, h3⟩
              | pan v t2 d2 st2 => exact hb.elim)
end
end Go.Sx

/- The activation that ranges over a function. No program. -/
namespace Go.Sx
open Go.RowKit
set_option linter.unusedVariables false
set_option linter.unusedSimpArgs false

section
variable {P : Program} {okT : Nat → Bool} {call : Nat → List AV → St → Ro} {yh : List AV → St → Option (Ds × St)} {Y N : Nat} {σ0 : Env} {l fn : Nat} {rdy : Loop} {rec : LoopState → Option Code → Loop}

/-- A region that hands on. -/
theorem wp_xregion (hk : OkT P okT) (hc : CallsOK P) (hm : P.follows .mixedOrders = true) (hgood : CallGood P call) {id : Nat} {ops : Array Oper} {draw : Bool} {t t1 : Tr AV} {st st1 : St} {σ : Env} {a : Act} {w : World} {Q : Exit → Act → World → Prop}
    (h : xregion P okT call N ops draw t [] st = .norm t1 [] st1) (hfree : ∀ id, st.n ≤ id → id < st1.n → σ id = none) (hg : GlobOK P σ) (hr : Rep σ st.get w) (ht : TmpOK σ t N a)
    (hQ : ∀ σ' a' w', Stp σ st.get st.n w σ' st1.get st1.n w' → TmpOK σ' t1 N a' → a'.defers = a.defers → Q .normal a' w') : (Code.region id ops draw).wpIn (RF none) 0 P Q a w := by
  have hx : xcode P okT call N 1 (.region id ops draw) t [] st = .norm t1 [] st1 := h
  refine (wpl_xcode (bs := a.defers) (ro := none) hk hc hm hgood 1 (.region id ops draw) t [] st σ a w Q (Or.inl rfl) (by rw [hx]; simp) (by rw [hx]; exact hfree) hg hr ht .nil fun e a' w' hb => ?_).wp
  rw [hx] at hb
  obtain ⟨rfl, σ', hs, ht', hd'⟩ := hb
  refine hQ σ' a' w' hs ht' ?_
  generalize a'.defers = q at hd'
  cases hd'
  rfl

theorem xregion_mono (hc : CallMono call) (ops : Array Oper) (draw : Bool) (t : Tr AV) (d : Ds) (st : St) : (xregion P okT call N ops draw t d st).ge st.n := by
  have := code_mono (P := P) (okT := okT) (N := N) hc 1 (.region 0 ops draw) t d st
  exact this

theorem xdrawn_ok {r : Rs} {d : Ds} (h : xdrawn r d ≠ .no) : ∃ t1 st1, r = .norm t1 [] st1 ∧ xdrawn r d = .norm t1 d st1 := by
  unfold xdrawn at h ⊢
  split at h
  · exact ⟨_, _, rfl, rfl⟩
  · exact absurd rfl h

theorem xdrawn_mono {r : Rs} {d : Ds} {n : Nat} (h : r.ge n) : (xdrawn r d).ge n := by
  by_cases hne : xdrawn r d = .no
  · rw [hne]; trivial
  · obtain ⟨t1, st1, rfl, h2⟩ := xdrawn_ok hne
    rw [h2]
    exact h

theorem iter_gok (hk : OkT P okT) (hc : CallsOK P) (hm : P.follows .mixedOrders = true) (hgood : CallGood P call) (hyh : YhOK P yh σ0 l fn rdy rec) (hrdy : rdy = rec .ready none) :
    GOK P (xregionY call yh Y P okT N) (fun _ _ _ _ _ _ _ => .no) (IterI P σ0 l Y N rec) (IterS l rdy) := by
  refine ⟨fun h => Stp.refl (h.rep.put h.notA _), fun a b => Stp.trans a b, fun s k => Free.step s k, fun h => h.tmp.ev h.glob, fun ops draw t d st => ?_, fun _ _ _ _ _ _ _ => trivial, fun id ops draw t d st σ a w Q hne hfree hI hQ => ?_, fun _ _ _ _ _ _ _ _ _ _ _ hne => absurd rfl hne⟩
  · unfold xregionY
    cases draw with
    | true => exact xdrawn_mono (xregion_mono hgood.mono _ _ _ _ _)
    | false =>
      cases plan P okT N ops false with
      | none => trivial
      | some L => exact regY_mono hgood.mono hyh.mono L t d st
  · unfold xregionY at hne hfree hQ
    cases draw with
    | true =>
      simp only at hne hfree hQ
      obtain ⟨t1, st1, h1, h2⟩ := xdrawn_ok hne
      rw [h2] at hfree hQ
      refine wp_xregion hk hc hm hgood h1 hfree hI.glob hI.rep hI.tmp fun σ' a' w' hs ht' hd' => ?_
      obtain ⟨k1, k2⟩ := hI.step (rdy := rdy) hs ht' (by rw [hd']; exact hI.defs)
      exact hQ _ _ _ ⟨rfl, σ', k2, k1⟩
    | false =>
      simp only at hne hfree hQ
      cases hp : plan P okT N ops false with
      | none => rw [hp] at hne; exact absurd rfl hne
      | some L =>
        rw [hp] at hne hfree hQ
        simp only at hne hfree hQ
        obtain ⟨p1, p2, p3⟩ := plan_false hp
        refine wpIn_region ?_
        rw [← p1]
        exact wp_regY hk hc hgood hyh hrdy L t d st σ a w p2 p3 hne hfree hI hQ

/-- THE FUNCTION THAT IS RANGED OVER. -/
theorem iter_ok (hk : OkT P okT) (hc : CallsOK P) (hm : P.follows .mixedOrders = true) (hgood : CallGood P call) (hyh : YhOK P yh σ0 l fn rdy rec) (hrdy : rdy = rec .ready none) {rounds gf : Nat} {cap : List AV} {us : List Value} {st st1 : St} {d : Ds} {σ : Env} {w : World} {b c : Nat}
    (hx : xiter call yh Y P okT rounds gf cap st = some (d, st1)) (hcap : denL σ cap = some us) (hfree : ∀ id, st.n ≤ id → id < st1.n → σ id = none) (hg : GlobOK P σ) (hr : Rep σ st.get w) (hY : σ Y = some ⟨l, b, c⟩) (hle : σ0.le σ)
    (hn : ¬ InA σ st.get l) (hl : w.heap[l]? = some (.loop rdy)) :
    Calls P gf (#[.func (.yield l) #[] #[]] ++ us.toArray) w fun e w' => (∃ v, e = .returned v) ∧ ∃ σ', IterS l rdy σ st w σ' st1 w' ∧ ¬ InA σ' st1.get l ∧ w'.heap[l]? = some (.loop (rec (stOf d).1 (stOf d).2)) := by
  unfold xiter at hx
  split at hx
  · rename_i M cd hf
    obtain ⟨f, h1, h2, h3, rfl, h5⟩ := fnOf_ok hf
    have hres : f.results = #[] := by
      apply Array.ext'
      exact h5
    have hargs : denL σ (.yld Y :: cap) = some (.func (.yield l) #[] #[] :: us) := by simp only [denL, den, hY, Option.map_some, hcap]
    have ht := args_tmp hargs f.ntmps
    have hI : IterI P σ0 l Y f.ntmps rec σ (argsTr 0 (.yld Y :: cap) .lf) [] st { tmps := (#[.func (.yield l) #[] #[]] ++ us.toArray) ++ Array.replicate (f.ntmps - (#[.func (.yield l) #[] #[]] ++ us.toArray : Array Value).size) undef, defers := [] } w := by
      have hue : (#[.func (.yield l) #[] #[]] ++ us.toArray : Array Value) = (.func (.yield l) #[] #[] :: us : List Value).toArray := by
        apply Array.ext'
        simp
      rw [hue]
      exact ⟨hg, hr, ht, rfl, hle, ⟨b, c, hY⟩, hn, by rw [hl, hrdy]; rfl⟩
    have G := iter_gok (Y := Y) (N := f.ntmps) hk hc hm hgood hyh hrdy
    refine (callsIn_rf (n := 0)).1 (callsIn_of_wp (F := RF none) h2 h3 trivial ?_ rfl)
    have run := fun h1 h2 h3 => wpl_gcode G rounds cd (argsTr 0 (.yld Y :: cap) .lf) [] st σ _ w (bodyPost P f fun e w' => (∃ v, e = .returned v) ∧ ∃ σ', IterS l rdy σ st w σ' st1 w' ∧ ¬ InA σ' st1.get l ∧ w'.heap[l]? = some (.loop (rec (stOf d).1 (stOf d).2))) h1 h2 hI h3
    have hnil : ∀ (a' : Act) (w' : World), (results f a'.tmps).run P w' = .ok (.tuple #[]) w' := fun a' w' => by simp [results, hres, go_sem]
    split at hx
    · rename_i t1 d1 st1' hr1
      obtain ⟨rfl, rfl⟩ : d1 = d ∧ st1' = st1 := by simpa using hx
      rw [hr1] at run
      refine (run (by simp) hfree fun e a' w' hb => ?_).wp
      obtain ⟨rfl, σ', hs, hI'⟩ := hb
      exact ⟨hI'.defs, _, hnil a' w', ⟨_, rfl⟩, σ', hs, hI'.notA, hI'.at_⟩
    · rename_i t1 d1 st1' hr1
      obtain ⟨rfl, rfl⟩ : d1 = d ∧ st1' = st1 := by simpa using hx
      rw [hr1] at run
      refine (run (by simp) hfree fun e a' w' hb => ?_).wp
      obtain ⟨rfl, σ', hs, hI'⟩ := hb
      exact ⟨hI'.defs, _, hnil a' w', ⟨_, rfl⟩, σ', hs, hI'.notA, hI'.at_⟩
    · cases hx
  · cases hx

theorem xiter_mono (hc : CallMono call) (hy : ∀ {vs st d st2}, yh vs st = some (d, st2) → st.n ≤ st2.n) {rounds gf : Nat} {cap : List AV} {st st1 : St} {d : Ds} (hx : xiter call yh Y P okT rounds gf cap st = some (d, st1)) : st.n ≤ st1.n := by
  unfold xiter at hx
  split at hx
  · rename_i M cd hf
    have := gcode_mono (P := P) (rg := xregionY call yh Y P okT M) (rf := fun _ _ _ _ _ _ _ => .no) (fun ops draw t d st => by
      unfold xregionY
      cases draw with
      | true => exact xdrawn_mono (xregion_mono hc _ _ _ _ _)
      | false =>
        cases plan P okT M ops false with
        | none => trivial
        | some L => exact regY_mono hc hy L t d st) (fun _ _ _ _ _ _ _ => trivial) rounds cd (argsTr 0 (.yld Y :: cap) .lf) [] st
    split at hx
    · rename_i hr1
      rw [hr1] at this
      simp only [Option.some.injEq, Prod.mk.injEq] at hx
      obtain ⟨_, rfl⟩ := hx
      exact this
    · rename_i hr1
      rw [hr1] at this
      simp only [Option.some.injEq, Prod.mk.injEq] at hx
      obtain ⟨_, rfl⟩ := hx
      exact this
    · cases hx
  · cases hx
end

noncomputable section
section
variable (P : Program) (okT : Nat → Bool) (call : Nat → List AV → St → Ro) (rounds N : Nat)

/-- The mark among the deferred calls. -/
def markD : Ds := [(0, [])]

def zend (t : Tr AV) (r : Option (Ds × St)) : Rs :=
  match r with
  | some ([], st1) => .norm t markD st1
  | some ((0, _) :: _, st1) => .ret t markD st1
  | some ((k + 1, _) :: _, st1) => .exit k t markD st1
  | none => .no

def zrange (g : Operand) (ps : Array Tmp) (assign body : Code) (t : Tr AV) (d : Ds) (st : St) : Rs :=
  match d with
  | [] => match cOp P g with
    | some x => match ev x t with
      | .fn (.func gf) [] cap => match ndB assign && ndB body with
        | true => zend t (xiter call (xround P okT call N rounds ps.toList assign body t) (st.n + 1) P okT rounds gf cap (.mk st.h (st.n + 2)))
        | false => .no
      | _ => .no
    | none => .no
  | _ => .no

def zregion (ops : Array Oper) (draw : Bool) (t : Tr AV) (d : Ds) (st : St) : Rs := xdrawn (xregion P okT call N ops draw t [] st) d

def zleave (rs : List ResultVar) (r : Rs) : Ro :=
  match r with
  | .norm t _ st1 => xres P rs t st1
  | .ret t _ st1 => xres P rs t st1
  | _ => .no

/-- A call of a function that ranges over a function. -/
def zbody (f : Nat) (args : List AV) (st : St) : Ro :=
  match fnOf P f with
  | some (N, c, rs) => zleave P rs (gcode P (zregion P okT call N) (zrange P okT call rounds N) rounds c (argsTr 0 args .lf) [] st)
  | none => .no

def zhook (fs : List Nat) : Hk := fun f args st =>
  match memN f fs with
  | true => match fnOf P f with
    | some _ => some (zbody P okT call rounds f args st)
    | none => none
  | false => none
end
end

section
variable {P : Program} {okT : Nat → Bool} {call : Nat → List AV → St → Ro} {rounds N : Nat}

def MarkOK (B : Nat) (σ : Env) (h : Hp) (w : World) (d : Ds) (defs : List Deferred) : Prop :=
  (d = [] ∧ defs = []) ∨ ∃ D, d = markD ∧ defs = [{ target := .collected D, args := #[] }] ∧ B ≤ D ∧ w.heap[D]? = some (.deferred (some [])) ∧ ¬ InA σ h D

structure OutI (P : Program) (B N : Nat) (σ : Env) (t : Tr AV) (d : Ds) (st : St) (a : Act) (w : World) : Prop where
  glob : GlobOK P σ
  rep : Rep σ st.get w
  tmp : TmpOK σ t N a
  big : B ≤ w.heap.size
  mark : MarkOK B σ st.get w d a.defers

def OutS (σ : Env) (st : St) (w : World) (σ' : Env) (st' : St) (w' : World) : Prop := Stp σ st.get st.n w σ' st'.get st'.n w'

theorem zend_mono {t : Tr AV} {n : Nat} {r : Option (Ds × St)} (h : ∀ d st, r = some (d, st) → n ≤ st.n) : (zend t r).ge n := by
  unfold zend
  split
  · exact h _ _ rfl
  · exact h _ _ rfl
  · exact h _ _ rfl
  · trivial

theorem zrange_mono (hc : CallMono call) (g : Operand) (ps : Array Tmp) (x y : Code) (t : Tr AV) (d : Ds) (st : St) : (zrange P okT call rounds N g ps x y t d st).ge st.n := by
  unfold zrange
  split
  · split
    · split
      · split
        · refine zend_mono fun d st1 h => ?_
          have : st.n + 2 ≤ st1.n := xiter_mono hc (fun h => xround_mono hc h) h
          omega
        · trivial
      · trivial
    · trivial
  · trivial

theorem out_gok (hk : OkT P okT) (hc : CallsOK P) (hm : P.follows .mixedOrders = true) (hgood : CallGood P call) (B : Nat) : GOK P (zregion P okT call N) (zrange P okT call rounds N) (OutI P B N) OutS := by
  refine ⟨fun h => Stp.refl h.rep, fun a b => Stp.trans a b, fun s k => Free.step s k, fun h => h.tmp.ev h.glob, fun ops draw t d st => xdrawn_mono (xregion_mono hgood.mono _ _ _ _ _), zrange_mono hgood.mono,
    fun id ops draw t d st σ a w Q hne hfree hI hQ => ?_, fun g ps x y t d st σ a w Q hne hfree hI hQ => ?_⟩
  · unfold zregion at hne hfree hQ
    obtain ⟨t1, st1, h1, h2⟩ := xdrawn_ok hne
    rw [h2] at hfree hQ
    refine wp_xregion hk hc hm hgood h1 hfree hI.glob hI.rep hI.tmp fun σ' a' w' hs ht' hd' => ?_
    refine hQ _ _ _ ⟨rfl, σ', hs, hI.glob.mono hs.le, hs.rep, ht', Nat.le_trans hI.big hs.only.size, ?_⟩
    rw [hd']
    rcases hI.mark with h | ⟨D, e1, e2, e3, e4, e5⟩
    · exact Or.inl h
    · have hlt := (Array.getElem?_eq_some_iff.1 e4).1
      exact Or.inr ⟨D, e1, e2, e3, (hs.keeps e5 hlt).trans e4, hs.notA e5 hlt⟩
  · unfold zrange at hne hfree hQ
    cases d with
    | cons => exact absurd rfl hne
    | nil =>
      simp only at hne hfree hQ
      cases hg : cOp P g with
      | none => rw [hg] at hne; exact absurd rfl hne
      | some o =>
        rw [hg] at hne hfree hQ
        simp only at hne hfree hQ
        split at hne
        · rename_i gf cap hev
          rw [hev] at hfree hQ
          simp only at hfree hQ
          split at hne
          · rename_i hnd
            rw [hnd] at hfree hQ
            simp only at hfree hQ
            obtain ⟨hnd1, hnd2⟩ := and3 hnd
            have hdef : a.defers = [] := by
              rcases hI.mark with h | ⟨D, e1, _⟩
              · exact h.2
              · cases e1
            cases hx : xiter call (xround P okT call N rounds ps.toList x y t) (st.n + 1) P okT rounds gf cap (.mk st.h (st.n + 2)) with
            | none => rw [hx] at hne; exact absurd rfl hne
            | some q =>
              obtain ⟨d1, st1⟩ := q
              rw [hx] at hne hfree hQ
              have hmo : st.n + 2 ≤ st1.n := xiter_mono hgood.mono (fun h => xround_mono hgood.mono h) hx
              have hfr : ∀ id, st.n ≤ id → id < st1.n → σ id = none := by
                intro id h1 h2
                match d1, hfree with
                | [], hfree => exact hfree id h1 h2
                | (0, _) :: _, hfree => exact hfree id h1 h2
                | (k + 1, _) :: _, hfree => exact hfree id h1 h2
              have hst : (St.mk st.h (st.n + 2)).get = st.get := by cases st; rfl
              -- the function that is ranged over
              have he := hI.tmp.ev hI.glob g o hg
              rw [hev] at he
              simp only [den, denL] at he
              split at he
              · rename_i fs us hfs hus
                obtain rfl := Option.some.inj hfs
                have he : Value.func (.func gf) #[] us.toArray = a.eval g := Option.some.inj he
                obtain ⟨fd, cd, hfd, hcd⟩ : ∃ fd cd, nthL P.funcs.toList gf = some fd ∧ fd.body = some cd := by
                  have hx' := hx
                  unfold xiter at hx'
                  split at hx'
                  · rename_i hf
                    obtain ⟨fd, k1, _, k3, _⟩ := fnOf_ok hf
                    exact ⟨fd, _, k1, k3⟩
                  · cases hx'
                refine wpIn_rangeFunc ?_
                intro fn _
                obtain ⟨rec, hrec⟩ : ∃ rec : LoopState → Option Code → Loop, rec = fun st pe => { state := st, pending := pe, fn, tmps := a.tmps, params := ps, assign := x, body := y, defers := w.heap.size } := ⟨_, rfl⟩
                obtain ⟨W1, hW1⟩ : ∃ W1, (w.alloc (.deferred (some []))).alloc (.loop (rec .ready none)) = W1 := ⟨_, rfl⟩
                have s0 := stp_marks hI.rep (hfr st.n (Nat.le_refl _) (by omega)) (hfr (st.n + 1) (by omega) (by omega)) (.deferred (some [])) (.loop (rec .ready none))
                rw [hW1] at s0
                have hL1 : W1.heap[w.heap.size + 1]? = some (.loop (rec .ready none)) := by
                  rw [← hW1]; have := World.alloc_heap_new (w.alloc (.deferred (some []))) (.loop (rec .ready none)); rwa [World.size_alloc] at this
                have hK1 : W1.heap[w.heap.size]? = some (.deferred (some [])) := by
                  rw [← hW1]; exact (Below.heap_alloc _ _ _ (by simp)).trans (World.alloc_heap_new w _)
                obtain ⟨σ1, hσ1⟩ : ∃ σ1, (σ.put st.n ⟨w.heap.size, 0, 0⟩).put (st.n + 1) ⟨w.heap.size + 1, 0, 0⟩ = σ1 := ⟨_, rfl⟩
                rw [hσ1] at s0
                have hY : σ1 (st.n + 1) = some ⟨w.heap.size + 1, 0, 0⟩ := by rw [← hσ1]; exact Env.put_same ..
                have hnew : ∀ k, w.heap.size ≤ k → ¬ InA σ1 st.get k := by
                  rintro k hk ⟨id, b, l', e1, e2, e3⟩
                  obtain ⟨l0, o0, k1, k2, _⟩ := hI.rep.ok id b e1
                  have h1 := s0.le _ _ k1
                  rw [e2] at h1
                  obtain rfl := Option.some.inj h1
                  have := (Array.getElem?_eq_some_iff.1 k2).1
                  omega
                have hyh : YhOK P (xround P okT call N rounds ps.toList x y t) σ1 (w.heap.size + 1) fn (rec .ready none) rec := by
                  refine ⟨fun h => xround_mono hgood.mono h, fun {σ2 w2 vs us2 sta stb d2} hle hvs hyx hfree2 hg2 hr2 hn2 hl2 => ?_⟩
                  obtain ⟨tm, k1, k2⟩ := round_ok hk hc hm hgood hrec (ndB_ok _ hnd1) (ndB_ok _ hnd2) (t0 := t) (ds := a.defers) (hI.tmp.mono (s0.le.trans hle)) hvs hyx hfree2 hg2 hr2 hn2 hl2
                  exact ⟨tm, x, y, k1, k2⟩
                refine ⟨w.heap.size + 1, [{ target := .collected w.heap.size, args := #[] }], W1, { target := .fn (.func gf) us.toArray, args := #[.func (.yield (w.heap.size + 1)) #[] #[]] }, W1, gf,
                  #[.func (.yield (w.heap.size + 1)) #[] #[]] ++ us.toArray, W1, ?_, ?_, fun _ _ => trivial, ?_, fun h => absurd h (by simp [RF]), ?_⟩
                · rw [← hW1, hrec]; exact run_enterLoop_outer _ _ _ _ _
                · simp only [resolve, ← he]
                  simp [go_sem]
                · simp [invoke, go_sem, hc gf fd cd hfd hcd]
                · refine callsIn_rf.2 ?_
                  have hbase := iter_ok hk hc hm hgood hyh rfl (σ := σ1) (w := W1) hx (denL_mono s0.le _ _ hus) (fun id h1 h2 => ?_) (hI.glob.mono s0.le) (by rw [hst]; exact s0.rep) hY (Env.le.refl _) (by rw [hst]; exact hnew _ (by omega)) hL1
                  · refine hbase.mono ?_
                    rintro e w3 ⟨⟨v, rfl⟩, σ', hS, hn', hat⟩
                    unfold IterS at hS
                    rw [hst, putObj_same hL1] at hS
                    have hall := s0.trans hS
                    have hfin := hall.putNew (k := w.heap.size + 1) (by omega) hn' (.loop { rec (stOf d1).1 (stOf d1).2 with state := .exhausted })
                    rw [putObj_twice] at hfin
                    have hDlt : w.heap.size < W1.heap.size := (Array.getElem?_eq_some_iff.1 hK1).1
                    have hmark : MarkOK B σ' st1.get (w3.putObj (w.heap.size + 1) (.loop { rec (stOf d1).1 (stOf d1).2 with state := .exhausted })) markD ([{ target := .collected w.heap.size, args := #[] }] ++ a.defers) := by
                      refine Or.inr ⟨w.heap.size, rfl, by rw [hdef]; rfl, hI.big, ?_, hS.notA (hnew _ (Nat.le_refl _)) hDlt⟩
                      rw [World.putObj_heap_other (by omega)]
                      have := hS.keeps (hnew _ (Nat.le_refl _)) hDlt
                      rw [World.putObj_heap_other (by omega)] at this
                      exact this.trans hK1
                    have hO : OutI P B N σ' t markD st1 { a with defers := [{ target := .collected w.heap.size, args := #[] }] ++ a.defers } (w3.putObj (w.heap.size + 1) (.loop { rec (stOf d1).1 (stOf d1).2 with state := .exhausted })) :=
                      ⟨hI.glob.mono hfin.le, hfin.rep, ⟨(hI.tmp.mono hfin.le).val, hI.tmp.size⟩, Nat.le_trans hI.big hfin.only.size, hmark⟩
                    have hbusy : (rec (stOf d1).1 (stOf d1).2).state ≠ .busy := by
                      match d1 with
                      | [] => rw [hrec]; simp [stOf]
                      | (0, _) :: _ => rw [hrec]; simp [stOf]
                      | (k + 1, _) :: _ => rw [hrec]; simp [stOf]
                    have hend : (Instr.endLoop (w.heap.size + 1)).run P w3 = .ok (stOf d1).2 (w3.putObj (w.heap.size + 1) (.loop { rec (stOf d1).1 (stOf d1).2 with state := .exhausted })) := by
                      have := run_endLoop (P := P) hat hbusy
                      rw [hrec] at this ⊢
                      exact this
                    refine ⟨_, _, hend, ?_⟩
                    match d1, hQ, hfin, hO with
                    | [], hQ, hfin, hO => exact hQ _ _ _ ⟨rfl, σ', hfin, hO⟩
                    | (0, _) :: _, hQ, hfin, hO => exact wpIn_ret (hQ _ _ _ ⟨rfl, σ', hfin, hO⟩)
                    | (k + 1, _) :: _, hQ, hfin, hO => exact wpIn_exit (hQ _ _ _ ⟨rfl, σ', hfin, hO⟩)
                  · rw [← hσ1]
                    have h1 : st.n + 2 ≤ id := h1
                    rw [Env.put_other _ _ _ (by omega), Env.put_other _ _ _ (by omega)]
                    exact hfr id (by omega) h2
              · cases he
          · exact absurd rfl hne
        · exact absurd rfl hne

theorem zleave_mono {rs : List ResultVar} {n : Nat} {r : Rs} (h : r.ge n) : (zleave P rs r).ge n := by
  unfold zleave
  split
  · unfold xres
    split
    · exact h
    · trivial
  · unfold xres
    split
    · exact h
    · trivial
  · trivial

theorem zbody_mono (hc : CallMono call) (f : Nat) (args : List AV) (st : St) : (zbody P okT call rounds f args st).ge st.n := by
  unfold zbody
  split
  · exact zleave_mono (gcode_mono (fun ops draw t d st => xdrawn_mono (xregion_mono hc _ _ _ _ _)) (zrange_mono hc) _ _ _ _ _)
  · trivial

/-- THE CALL OF A FUNCTION THAT RANGES OVER A FUNCTION. -/
theorem zbody_ok (hk : OkT P okT) (hc : CallsOK P) (hm : P.follows .mixedOrders = true) (hgood : CallGood P call) {f : Nat} {args : List AV} {st : St} {σ : Env} {w : World} {us : List Value}
    (hr : Rep σ st.get w) (hg : GlobOK P σ) (hargs : denL σ args = some us) (hne : zbody P okT call rounds f args st ≠ .no) (hfree : FreeC σ st.n (zbody P okT call rounds f args st)) :
    Calls P f us.toArray w (BehindC σ st.get st.n w (zbody P okT call rounds f args st)) := by
  unfold zbody at hne hfree ⊢
  cases hf : fnOf P f with
  | none => rw [hf] at hne; exact absurd rfl hne
  | some q =>
    obtain ⟨n, c, rs⟩ := q
    rw [hf] at hne hfree
    simp only at hne hfree ⊢
    obtain ⟨fn, h1, h2, h3, rfl, rfl⟩ := fnOf_ok hf
    have ht := args_tmp hargs fn.ntmps
    have hI : OutI P w.heap.size fn.ntmps σ (argsTr 0 args .lf) [] st { tmps := us.toArray ++ Array.replicate (fn.ntmps - us.toArray.size) undef, defers := [] } w := ⟨hg, hr, ht, Nat.le_refl _, Or.inl ⟨rfl, rfl⟩⟩
    refine (callsIn_rf (n := 0)).1 (callsIn_of_wp_marks (F := RF none) h2 h3 trivial ?_ rfl)
    have run := fun h1 h2 h3 => wpl_gcode (out_gok (rounds := rounds) (N := fn.ntmps) hk hc hm hgood w.heap.size) rounds c (argsTr 0 args .lf) [] st σ _ w (bodyPostM (RF none) 0 P fn (BehindC σ st.get st.n w (zleave P fn.results.toList (gcode P (zregion P okT call fn.ntmps) (zrange P okT call rounds fn.ntmps) rounds c (argsTr 0 args .lf) [] st)))) h1 h2 hI h3
    -- the way out
    have out : ∀ (t : Tr AV) (d : Ds) (st1 : St), xres P fn.results.toList t st1 ≠ .no → (∀ σ' a' w', Stp σ st.get st.n w σ' st1.get st1.n w' → OutI P w.heap.size fn.ntmps σ' t d st1 a' w' →
        LeavesInM (RF none) 0 P fn a'.tmps (BehindC σ st.get st.n w (xres P fn.results.toList t st1)) a'.defers .returning w') := by
      intro t d st1 hx σ' a' w' hs hI'
      have last : ∀ w'', Stp σ st.get st.n w σ' st1.get st1.n w'' → LeavesInM (RF none) 0 P fn a'.tmps (BehindC σ st.get st.n w (xres P fn.results.toList t st1)) [] .returning w'' := by
        intro w'' hs''
        unfold xres at hx ⊢
        split
        · rename_i vs hvs
          obtain ⟨x, k1, k2⟩ := results_ok hI'.tmp hs''.rep hvs
          exact ⟨x, k2, σ', x, rfl, k1, hs''⟩
        · rename_i hvs
          rw [hvs] at hx
          exact absurd rfl hx
      rcases hI'.mark with ⟨_, e⟩ | ⟨D, _, e, e3, e4, e5⟩
      · rw [e]; exact last w' hs
      · rw [e]
        exact ⟨by simp, Or.inl ⟨D, _, rfl, run_takeDeferred e4, last _ (hs.putNew e3 e5 _)⟩⟩
    cases hx : gcode P (zregion P okT call fn.ntmps) (zrange P okT call rounds fn.ntmps) rounds c (argsTr 0 args .lf) [] st with
    | no => rw [hx] at hne; exact absurd rfl hne
    | exit id t d st1 => rw [hx] at hne; exact absurd rfl hne
    | pan v t d st1 => rw [hx] at hne; exact absurd rfl hne
    | norm t d st1 =>
      rw [hx] at hne hfree run
      simp only [zleave] at hne hfree run ⊢
      have hf1 : ∀ id, st.n ≤ id → id < st1.n → σ id = none := by
        unfold xres at hne hfree
        split at hfree
        · exact hfree
        · rename_i h; rw [h] at hne; exact absurd rfl hne
      refine (run (by simp) hf1 fun e a' w' hb => ?_).wp
      obtain ⟨rfl, σ', hs, hI'⟩ := hb
      exact out t d st1 hne σ' a' w' hs hI'
    | ret t d st1 =>
      rw [hx] at hne hfree run
      simp only [zleave] at hne hfree run ⊢
      have hf1 : ∀ id, st.n ≤ id → id < st1.n → σ id = none := by
        unfold xres at hne hfree
        split at hfree
        · exact hfree
        · rename_i h; rw [h] at hne; exact absurd rfl hne
      refine (run (by simp) hf1 fun e a' w' hb => ?_).wp
      obtain ⟨rfl, σ', hs, hI'⟩ := hb
      exact out t d st1 hne σ' a' w' hs hI'

theorem zhook_good (hk : OkT P okT) (hc : CallsOK P) (hm : P.follows .mixedOrders = true) (hgood : CallGood P call) (fs : List Nat) : HkGood P (zhook P okT call rounds fs) := by
  have key : ∀ {f args st r}, zhook P okT call rounds fs f args st = some r → r = zbody P okT call rounds f args st ∧ ∃ q, fnOf P f = some q := by
    intro f args st r h
    unfold zhook at h
    split at h
    · split at h
      · rename_i q hq
        exact ⟨(Option.some.inj h).symm, q, hq⟩
      · cases h
    · cases h
  refine ⟨fun f args st r h hne σ w us hr hg hu hfree => ?_, fun f args st r h => ?_, fun f args st r h => ?_⟩
  · obtain ⟨rfl, _⟩ := key h
    exact zbody_ok hk hc hm hgood hr hg hu hne hfree
  · obtain ⟨rfl, _⟩ := key h
    exact zbody_mono hgood.mono _ _ _
  · obtain ⟨_, ⟨n, c, rs⟩, hq⟩ := key h
    obtain ⟨fn, h1, _, h3, _⟩ := fnOf_ok hq
    exact ⟨fn, c, h1, h3⟩

/-- One hook, or else another one. -/
def hor (h1 h2 : Hk) : Hk := fun f args st =>
  match h1 f args st with
  | some r => some r
  | none => h2 f args st

theorem HkGood.or {h1 h2 : Hk} (a : HkGood P h1) (b : HkGood P h2) : HkGood P (hor h1 h2) := by
  have key : ∀ {f args st r}, hor h1 h2 f args st = some r → h1 f args st = some r ∨ h2 f args st = some r := by
    intro f args st r h
    unfold hor at h
    split at h
    · rename_i h'
      obtain rfl := Option.some.inj h
      exact Or.inl h'
    · exact Or.inr h
  refine ⟨fun f args st r h => ?_, fun f args st r h => ?_, fun f args st r h => ?_⟩
  · rcases key h with h | h
    · exact a.ok f args st r h
    · exact b.ok f args st r h
  · rcases key h with h | h
    · exact a.mono f args st r h
    · exact b.mono f args st r h
  · rcases key h with h | h
    · exact a.has f args st r h
    · exact b.has f args st r h
end
end Go.Sx

/- A function that inserts one element at the front of a row of one, as a hook: its contract comes from a walk. No program. -/
namespace Go.Sx
open Go.RowKit
set_option linter.unusedVariables false
set_option linter.unusedSimpArgs false

noncomputable section
def insOK (T size id v off eo ov el sl : Nat) (cs ds : List AV) : Bool :=
  Nat.beq el T && (Nat.beq sl size && (Nat.ble roN id && (Bool.not (Nat.beq id v) && (Nat.beq off (Nat.mul eo size) && (Nat.ble (Nat.add off size) (lenL cs) && (Nat.ble (Nat.add ov size) (lenL ds) && (cs.all AV.one && ds.all AV.one)))))))

def insR (T size : Nat) (args : List AV) (st : St) : Option Ro :=
  match args with
  | [.slc id off 1 (.op eo), .int .i64 (.ofNat 0), .slc v ov 1 cv] =>
    match st.get id, st.get v with
    | some (.mk el sl (.cells cs)), some (.mk el2 sl2 (.cells ds)) =>
      match insOK T size id v off eo ov el sl cs ds with
      | true => some (.ret (.slc st.n 0 2 (.op 0)) (st.eff (.k (.tup []) id (.mk T size (.cells ((ds.drop ov).take size ++ (cs.drop off).take size))))))
      | false => none
    | _, _ => none
  | _ => none

def insHook (f T size : Nat) : Hk := fun g args st =>
  match Nat.beq g f with
  | true => insR T size args st
  | false => none
end

/-- There is room. -/
def InsShift (P : Program) (f T size : Nat) : Prop :=
  ∀ (g o c vb ov cv : Nat) (cs ds : Array Value) (Tv : TypeId) (frv : Nat × Nat) (xs vs : List Value) (w : World),
    w.heap[g]? = some (.cells cs T (0, 0)) → cs.size = o + c * size → 2 ≤ c → c ≤ 9223372036854775807 → xs.length = size → (∀ j u, xs[j]? = some u → cs[o + j]? = some u) →
    w.heap[vb]? = some (.cells ds Tv frv) → vs.length = size → (∀ j u, vs[j]? = some u → ds[ov + j]? = some u) → vb ≠ g → (∀ u ∈ xs, u.oneCell' = true) → (∀ u ∈ vs, u.oneCell' = true) →
    Calls P f #[.slice (some ⟨g, o, none⟩) 1 c, .int .i64 0, .slice (some ⟨vb, ov, none⟩) 1 cv] w fun e w' => e = .returned (.slice (some ⟨g, o, none⟩) 2 c) ∧ w' = (w.drew.setCells g (o + size) xs).setCells g o vs

/-- There is none. -/
def InsGrow (P : Program) (f T size : Nat) : Prop :=
  ∀ (g o vb ov cv : Nat) (cs ds : Array Value) (Tv : TypeId) (frv : Nat × Nat) (xs vs : List Value) (w : World),
    w.heap[g]? = some (.cells cs T (0, 0)) → xs.length = size → (∀ j u, xs[j]? = some u → cs[o + j]? = some u) →
    w.heap[vb]? = some (.cells ds Tv frv) → vs.length = size → (∀ j u, vs[j]? = some u → ds[ov + j]? = some u) → (∀ u ∈ xs, u.oneCell' = true) → (∀ u ∈ vs, u.oneCell' = true) →
    Calls P f #[.slice (some ⟨g, o, none⟩) 1 1, .int .i64 0, .slice (some ⟨vb, ov, none⟩) 1 cv] w fun e w' => ∃ G zs, 2 ≤ G ∧ G ≤ 9223372036854775807 ∧ zs.size = G * size ∧
      e = .returned (.slice (some ⟨w.heap.size, 0, none⟩) 2 G) ∧ w' = ((w.drew.alloc (.cells zs T)).setCells w.heap.size 0 vs).drew.setCells w.heap.size size xs

section
variable {P : Program} {f T size : Nat}

theorem insR_ok {args : List AV} {st : St} {r : Ro} (h : insR T size args st = some r) : ∃ id off eo v ov cv cs el2 sl2 ds, args = [.slc id off 1 (.op eo), .int .i64 0, .slc v ov 1 cv] ∧ st.get id = some (.mk T size (.cells cs)) ∧ st.get v = some (.mk el2 sl2 (.cells ds)) ∧
    roN ≤ id ∧ id ≠ v ∧ off = eo * size ∧ off + size ≤ cs.length ∧ ov + size ≤ ds.length ∧ cs.all AV.one = true ∧ ds.all AV.one = true ∧
    r = .ret (.slc st.n 0 2 (.op 0)) (st.eff (.k (.tup []) id (.mk T size (.cells ((ds.drop ov).take size ++ (cs.drop off).take size))))) := by
  unfold insR at h
  split at h
  · rename_i id off eo v ov cv
    split at h
    · rename_i el sl cs el2 sl2 ds h1 h2
      split at h
      · rename_i hok
        unfold insOK at hok
        obtain ⟨k1, hok⟩ := and3 hok
        obtain ⟨k2, hok⟩ := and3 hok
        obtain ⟨k3, hok⟩ := and3 hok
        obtain ⟨k4, hok⟩ := and3 hok
        obtain ⟨k5, hok⟩ := and3 hok
        obtain ⟨k6, hok⟩ := and3 hok
        obtain ⟨k7, hok⟩ := and3 hok
        obtain ⟨k8, k9⟩ := and3 hok
        obtain rfl := nbeq k1
        obtain rfl := nbeq k2
        have k4 : id ≠ v := by
          rintro rfl
          rw [Nat.beq_refl] at k4
          cases k4
        have k6 := Nat.le_of_ble_eq_true k6
        have k7 := Nat.le_of_ble_eq_true k7
        rw [lenL_eq] at k6 k7
        exact ⟨id, off, eo, v, ov, cv, cs, el2, sl2, ds, rfl, h1, h2, Nat.le_of_ble_eq_true k3, k4, nbeq k5, k6, k7, k8, k9, (Option.some.inj h).symm⟩
      · cases h
    · cases h
  · cases h

theorem insHook_good (h1 : 1 < size) (hf : ∃ fn c, nthL P.funcs.toList f = some fn ∧ fn.body = some c) (hsh : InsShift P f T size) (hgr : InsGrow P f T size) : HkGood P (insHook f T size) := by
  have key : ∀ {g args st r}, insHook f T size g args st = some r → g = f ∧ insR T size args st = some r := by
    intro g args st r h
    unfold insHook at h
    split at h
    · rename_i hb
      exact ⟨nbeq hb, h⟩
    · cases h
  refine ⟨fun g args st r h hne σ w us hr hg hu hfree => ?_, fun g args st r h => ?_, fun g args st r h => ?_⟩
  · obtain ⟨rfl, h'⟩ := key h
    obtain ⟨id, off, eo, v, ov, cv, cs, el2, sl2, ds, rfl, hid, hv, hro, hne', rfl, hcs, hds, ho1, ho2, rfl⟩ := insR_ok h'
    -- where the rows lie
    obtain ⟨l, o, e1, e2, e3⟩ := hr.ok id _ hid
    obtain ⟨Cs, fr, uc, rfl, ⟨_, c1⟩, c2, c3, c4, c5, c6⟩ := e3
    obtain ⟨lv, o', f1, f2, f3⟩ := hr.ok v _ hv
    obtain ⟨Ds, frv, ud, rfl, _, d2, d3, d4, d5, d6⟩ := f3
    obtain rfl := c1 h1
    obtain ⟨c6, c7⟩ := c6 (by omega)
    have huc := denL_length c2
    have hud := denL_length d2
    have huc : uc.length = cs.length := huc
    have hud : ud.length = ds.length := hud
    simp only [denL, den, e1, f1, Option.map_some, Option.some.injEq, capDen] at hu
    subst hu
    have hxs := denL_take size (denL_drop (eo * size) c2)
    have hvs := denL_take size (denL_drop ov d2)
    obtain ⟨xs, hxe⟩ : ∃ xs, xs = (uc.drop (eo * size)).take size := ⟨_, rfl⟩
    obtain ⟨vs, hve⟩ : ∃ vs, vs = (ud.drop ov).take size := ⟨_, rfl⟩
    rw [← hxe] at hxs
    rw [← hve] at hvs
    have hxl : xs.length = size := by rw [hxe]; simp; omega
    have hvl : vs.length = size := by rw [hve]; simp; omega
    have hxat : ∀ j u, xs[j]? = some u → Cs[l.base + eo * size + j]? = some u := by
      intro j u hj
      rw [hxe, List.getElem?_take] at hj
      split at hj
      · rw [List.getElem?_drop] at hj
        rw [Nat.add_assoc]
        exact c5 _ _ hj
      · cases hj
    have hvat : ∀ j u, vs[j]? = some u → Ds[lv.base + ov + j]? = some u := by
      intro j u hj
      rw [hve, List.getElem?_take] at hj
      split at hj
      · rw [List.getElem?_drop] at hj
        rw [Nat.add_assoc]
        exact d5 _ _ hj
      · cases hj
    have hone : ∀ {L : List AV} {n m : Nat}, L.all AV.one = true → ((L.drop n).take m).all AV.one = true := by
      intro L n m hL
      rw [List.all_eq_true] at hL ⊢
      exact fun x hx => hL x (List.mem_of_mem_drop (List.mem_of_mem_take hx))
    have hx1 := denL_one hxs (hone ho1)
    have hv1 := denL_one hvs (hone ho2)
    have hblk : lv.blk ≠ l.blk := fun heq => hne' (hr.inj id v _ _ l lv hid hv e1 f1 heq.symm)
    have hnn : σ st.n = none := by
      refine hfree st.n (Nat.le_refl _) ?_
      rw [eff_n]
      exact Nat.lt_succ_self _
    have hids : st.n < Eff.top st.n (.k (.tup []) id (.mk T size (.cells ((ds.drop ov).take size ++ (cs.drop (eo * size)).take size)))) → σ st.n = none := fun _ => hnn
    have hcap : eo + 1 ≤ l.cap := by
      have : (eo + 1) * size ≤ l.cap * size := by rw [Nat.add_mul]; omega
      exact Nat.le_of_mul_le_mul_right this (by omega)
    have hroom : Cs.size = (l.base + eo * size) + (l.cap - eo) * size := by
      rw [c6, Nat.sub_mul]
      have : eo * size ≤ l.cap * size := Nat.mul_le_mul_right _ (by omega)
      omega
    -- the new row's block
    have new : ∀ (σ' : Env) (w' : World) (b base cap : Nat) (Zs : Array Value), σ' = σ.put st.n ⟨b, base, cap⟩ → w'.heap[b]? = some (.cells Zs T (0, 0)) → Zs.size = base + cap * size → cap ≤ 9223372036854775807 → 2 ≤ cap →
        (∀ j u, (vs ++ xs)[j]? = some u → Zs[base + j]? = some u) → BlkOK σ' w' st.n (.mk T size (.cells ((ds.drop ov).take size ++ (cs.drop (eo * size)).take size))) := by
      intro σ' w' b base cap Zs hσ hheap hsz hc hc2 hat
      subst hσ
      have hl : (vs ++ xs).length = 2 * size := by simp [hxl, hvl]; omega
      refine ⟨_, _, Env.put_same _ _ _, hheap, Zs, (0, 0), vs ++ xs, rfl, ⟨Or.inl rfl, fun _ => rfl⟩, denL_mono (Env.le_put _ hnn) _ _ (denL_append hvs hxs), ?_, ?_, hat, fun _ => ⟨hsz, hc⟩⟩
      · show ((ds.drop ov).take size ++ (cs.drop (eo * size)).take size).all AV.one = true
        rw [List.all_append, hone ho1, hone ho2]
        rfl
      · show base + (vs ++ xs).length ≤ Zs.size
        rw [hl, hsz]
        have : 2 * size ≤ cap * size := Nat.mul_le_mul_right _ hc2
        omega
    have fin : ∀ (σ' : Env) (w' : World) (b base cap : Nat), σ' = σ.put st.n ⟨b, base, cap⟩ → EffOK σ st.n w σ' w' (.k (.tup []) id (.mk T size (.cells ((ds.drop ov).take size ++ (cs.drop (eo * size)).take size)))) →
        BehindC σ st.get st.n w (.ret (.slc st.n 0 2 (.op 0)) (st.eff (.k (.tup []) id (.mk T size (.cells ((ds.drop ov).take size ++ (cs.drop (eo * size)).take size)))))) (.returned (.slice (some ⟨b, base, none⟩) 2 cap)) w' := by
      intro σ' w' b base cap hσ he
      have hs := he.stp hr hids (by show Nat.ble 256 id = true; exact Nat.ble_eq_true_of_le hro) (fun i hi => by
        simp only [Eff.ids, List.mem_cons, List.not_mem_nil, or_false] at hi
        rcases hi with rfl | rfl
        · exact Or.inr ⟨_, hid⟩
        · exact Or.inl ⟨rfl, Nat.lt_succ_self _⟩)
      refine ⟨σ', _, rfl, ?_, ?_⟩
      · subst hσ
        simp [den, Env.put_same, capDen]
      · have hget : (st.eff (.k (.tup []) id (.mk T size (.cells ((ds.drop ov).take size ++ (cs.drop (eo * size)).take size))))).get = appE st.n (.k (.tup []) id (.mk T size (.cells ((ds.drop ov).take size ++ (cs.drop (eo * size)).take size)))) st.get := funext fun i => eff_get st _ i
        rw [hget, eff_n]
        exact hs
    rcases Nat.lt_or_ge (l.cap - eo) 2 with hlt | hge
    · have h1c : l.cap - eo = 1 := by omega
      rw [h1c]
      refine (hgr l.blk (l.base + eo * size) lv.blk (lv.base + ov) (capDen lv cv) Cs Ds el2 frv xs vs w e2 hxl hxat f2 hvl hvat hx1 hv1).mono ?_
      rintro e w' ⟨G, zs, g1, g2, g3, rfl, rfl⟩
      have ha : (w.drew.alloc (.cells zs T)).heap[w.heap.size]? = some (.cells zs T (0, 0)) := alloc_new w.drew _
      have hb := setCells_heap vs (o := 0) ha
      have hc : (((w.drew.alloc (.cells zs T)).setCells w.heap.size 0 vs).drew).heap[w.heap.size]? = some (.cells (setR zs 0 vs) T (0, 0)) := hb
      have hd := setCells_heap xs (o := size) hc
      have honly : OnlyB w ((((w.drew.alloc (.cells zs T)).setCells w.heap.size 0 vs).drew).setCells w.heap.size size xs) (· = l.blk) := by
        have a1 : OnlyB w (w.drew.alloc (.cells zs T)) (fun _ => False) := (OnlyB.drew w _).trans (alloc_only w.drew _) (fun _ h => h.elim)
        have a2 := a1.trans (setCells_only vs (w.drew.alloc (.cells zs T)) w.heap.size 0) (fun i h => Or.inr (by omega))
        have a3 := a2.trans (OnlyB.drew ((w.drew.alloc (.cells zs T)).setCells w.heap.size 0 vs) (fun _ => False)) (fun i h => h.elim)
        have a4 := a3.trans (setCells_only xs _ w.heap.size size) (fun i h => Or.inr (by omega))
        exact a4.mono (fun _ _ h => h.elim)
      refine fin (σ.put st.n ⟨w.heap.size, 0, G⟩) _ _ _ _ rfl ⟨l, ⟨w.heap.size, 0, G⟩, e1, rfl, Or.inl (Nat.le_refl _), honly, new _ _ w.heap.size 0 G _ rfl hd ?_ g2 g1 ?_⟩
      · rw [setR_size, setR_size, g3]; omega
      · intro j u hj
        have h2 : 2 * size ≤ G * size := Nat.mul_le_mul_right _ g1
        rw [List.getElem?_append] at hj
        split at hj
        · rename_i hlt2
          rw [setR_out xs size _ _ (Or.inl (by omega))]
          exact setR_in vs 0 zs j u (by rw [hvl, g3]; omega) hj
        · rename_i hge2
          have := setR_in xs size (setR zs 0 vs) (j - vs.length) u (by rw [hxl, setR_size, g3]; omega) hj
          rw [show size + (j - vs.length) = 0 + j by omega] at this
          exact this
    · refine (hsh l.blk (l.base + eo * size) (l.cap - eo) lv.blk (lv.base + ov) (capDen lv cv) Cs Ds el2 frv xs vs w e2 hroom hge (by omega) hxl hxat f2 hvl hvat hblk hx1 hv1).mono ?_
      rintro e w' ⟨rfl, rfl⟩
      have ha : w.drew.heap[l.blk]? = some (.cells Cs T (0, 0)) := e2
      have hb := setCells_heap xs (o := l.base + eo * size + size) ha
      have hc := setCells_heap vs (o := l.base + eo * size) hb
      have honly : OnlyB w ((w.drew.setCells l.blk (l.base + eo * size + size) xs).setCells l.blk (l.base + eo * size) vs) (· = l.blk) :=
        ((OnlyB.drew w (· = l.blk)).trans (setCells_only xs w.drew _ _) (fun i h => Or.inl h)).trans (setCells_only vs _ _ _) (fun i h => Or.inl h)
      have h2 : 2 * size ≤ (l.cap - eo) * size := Nat.mul_le_mul_right _ hge
      refine fin (σ.put st.n ⟨l.blk, l.base + eo * size, l.cap - eo⟩) _ _ _ _ rfl ⟨l, ⟨l.blk, l.base + eo * size, l.cap - eo⟩, e1, rfl, Or.inr rfl, honly, new _ _ l.blk (l.base + eo * size) (l.cap - eo) _ rfl hc ?_ (by omega) hge ?_⟩
      · rw [setR_size, setR_size, hroom]
      · intro j u hj
        rw [List.getElem?_append] at hj
        split at hj
        · exact setR_in vs _ _ j u (by rw [hvl, setR_size, hroom]; omega) hj
        · rename_i hge2
          rw [setR_out vs _ _ _ (Or.inr (by omega))]
          have := setR_in xs (l.base + eo * size + size) Cs (j - vs.length) u (by rw [hxl, hroom]; omega) hj
          rw [show l.base + eo * size + size + (j - vs.length) = l.base + eo * size + j by omega] at this
          exact this
  · obtain ⟨rfl, h'⟩ := key h
    obtain ⟨id, off, eo, v, ov, cv, cs, el2, sl2, ds, rfl, hid, hv, hro, hne', rfl, hcs, hds, ho1, ho2, rfl⟩ := insR_ok h'
    show st.n ≤ (st.eff _).n
    rw [eff_n]
    exact top_ge _ _
  · obtain ⟨rfl, h'⟩ := key h
    exact hf
end
end Go.Sx

/- Calls that only reckon, as hooks; a law whose arguments lie in a block that is read. No program. -/
namespace Go.Sx
open Go.RowKit
set_option linter.unusedVariables false

noncomputable section
/-- A call that only reckons. -/
def pureHook (f : Nat) (g : List AV → Option AV) : Hk := fun h args st =>
  match Nat.beq h f with
  | true => match g args with
    | some v => some (.ret v st)
    | none => none
  | false => none
end

theorem pureHook_good {P : Program} {f : Nat} {g : List AV → Option AV} (hf : ∃ fn c, nthL P.funcs.toList f = some fn ∧ fn.body = some c)
    (h : ∀ args v σ us, g args = some v → denL σ args = some us → ∃ u, den σ v = some u ∧ ∀ w, Calls P f us.toArray w fun e w' => e = .returned u ∧ w' = w) : HkGood P (pureHook f g) := by
  have key : ∀ {k args st r}, pureHook f g k args st = some r → k = f ∧ ∃ v, g args = some v ∧ r = .ret v st := by
    intro k args st r h
    unfold pureHook at h
    split at h
    · rename_i hb
      split at h
      · rename_i v hv
        exact ⟨nbeq hb, v, hv, (Option.some.inj h).symm⟩
      · cases h
    · cases h
  refine ⟨fun k args st r hk hne σ w us hr hg hu hfree => ?_, fun k args st r hk => ?_, fun k args st r hk => ?_⟩
  · obtain ⟨rfl, v, hv, rfl⟩ := key hk
    obtain ⟨u, h1, h2⟩ := h args v σ us hv hu
    refine (h2 w).mono ?_
    rintro e w' ⟨rfl, rfl⟩
    exact ⟨σ, u, rfl, h1, Stp.refl hr⟩
  · obtain ⟨rfl, v, hv, rfl⟩ := key hk
    exact Nat.le_refl _
  · obtain ⟨rfl, _⟩ := key hk
    exact hf

/-- A law's call, from a heap that is read alone. -/
theorem law_env {P : Program} {okT : Nat → Bool} (hk : OkT P okT) (hc : CallsOK P) (hm : P.follows .mixedOrders = true) {hook : Hk} {dhook : Dh} (hh : HkGood P hook) (hd : DhGood P dhook) {rounds k f N : Nat} {c : Code} {rs : List ResultVar}
    (hf : fnOf P f = some (N, c, rs)) {args : List AV} {us : List Value} {σ : Env} (hargs : denL σ args = some us) {st : St} (hn : roN ≤ st.n) (hσ : ∀ id, roN ≤ id → σ id = none) (hg : GlobOK P σ) {W : World} (hrep : Rep σ st.get W) (hro : ∀ id b, st.get id = some b → id < roN)
    (htrue : (xleave P dhook rs (xcode P okT (xcall P okT hook dhook rounds k) N rounds c (argsTr 0 args .lf) [] st)).isTrue = true) :
    Calls P f us.toArray W fun e W' => e = .returned (.bool true) ∧ Below W.heap.size W W' := by
  have hrr : ∃ st', xleave P dhook rs (xcode P okT (xcall P okT hook dhook rounds k) N rounds c (argsTr 0 args .lf) [] st) = .ret (.bool true) st' := by
    cases hx : xleave P dhook rs (xcode P okT (xcall P okT hook dhook rounds k) N rounds c (argsTr 0 args .lf) [] st) with
    | no => rw [hx] at htrue; cases htrue
    | pan => rw [hx] at htrue; cases htrue
    | ret v st' =>
      rw [hx] at htrue
      cases v <;> try (cases htrue; done)
      rename_i b
      obtain rfl : b = true := htrue
      exact ⟨st', rfl⟩
  obtain ⟨st', hx⟩ := hrr
  have := body_of_runs hc hd hf (runs_code hk hc hm (call_good (okT := okT) hk hc hm hh hd rounds k) rounds c _ _ _) hrep hg hargs (by rw [hx]; simp) (by
    rw [hx]
    intro id h1 h2
    exact hσ id (Nat.le_trans hn h1))
  refine Calls.mono this ?_
  rintro e w' hb
  rw [hx] at hb
  obtain ⟨σ', u, rfl, hu, hs⟩ := hb
  obtain rfl : Value.bool true = u := Option.some.inj hu
  refine ⟨rfl, ⟨hs.only.os, hs.only.tape, hs.only.output, hs.only.size, fun k hk => hs.only.block k hk ?_⟩⟩
  rintro ⟨id, b, l, h0, h1, h2, h3⟩
  have := hro id b h1
  omega

/-! ### A text that came in -/
/-- The name of its block. -/
def idT : Nat := 200

noncomputable section
/-- So many bytes. -/
def bytesF (f : Nat → Int) : Nat → List AV
  | 0 => []
  | n + 1 => .int .u8 (f 0) :: bytesF (fun i => f (i + 1)) n

/-- The heap ahead of a law: the variables that are read, and the text. -/
def stT (ro : List (Nat × Cont)) (E : Nat → Nat) (T : Nat) (xs : List AV) : St :=
  match st0 ro E with
  | .mk h n => .mk (putP (some (.mk T 0 (.cells xs))) (path idT) h) n

def envT (P : Program) (l : Loc) : Env := fun id => if id = idT then some l else env0 P id
end

theorem bytesF_den (σ : Env) : ∀ (n : Nat) (f : Nat → Int), ∃ us, denL σ (bytesF f n) = some us ∧ us.length = n ∧ (∀ i, i < n → us[i]? = some (.int .u8 (f i))) ∧ (bytesF f n).all AV.one = true
  | 0, f => ⟨[], rfl, rfl, fun i h => absurd h (by omega), rfl⟩
  | n + 1, f => by
    obtain ⟨us, h1, h2, h3, h4⟩ := bytesF_den σ n (fun i => f (i + 1))
    refine ⟨.int .u8 (f 0) :: us, by simp only [bytesF, denL, den, h1], by simp [h2], fun i hi => ?_, ?_⟩
    · cases i with
      | zero => rfl
      | succ i => simpa using h3 i (by omega)
    · simp only [bytesF, List.all_cons, h4, Bool.and_true]
      rfl

theorem stT_get {ro : List (Nat × Cont)} {E : Nat → Nat} {T : Nat} {xs : List AV} (id : Nat) : (stT ro E T xs).get id = if id = idT then some (.mk T 0 (.cells xs)) else (st0 ro E).get id := by
  unfold stT
  cases h : st0 ro E with
  | mk hh n =>
    show getP (path id) (putP _ (path idT) hh) = _
    rw [get_put]
    rfl

/-- The text's block is none of the variables'. -/
theorem rep_stT {P : Program} {ro : List (Nat × Cont)} (hro : (ro.all fun p => Nat.blt p.1 roN && Nat.blt p.1 P.globals.size) = true) (hgl : P.globals.size ≤ idT) {E : Nat → Nat} {W : World} (hw : ∀ id c, (id, c) ∈ ro → BlkOK (env0 P) W id (.mk (E id) 0 c))
    {n : Nat} {f : Nat → Int} {b o T : Nat} {cs : Array Value} {fr : Nat × Nat} (hb : W.heap[b]? = some (.cells cs T fr)) (hfr : FrOK fr cs.size) (ho : o + n ≤ cs.size) (hcs : ∀ i, i < n → cs[o + i]? = some (.int .u8 (f i))) (hne : ∀ id c, (id, c) ∈ ro → id ≠ b) :
    Rep (envT P ⟨b, o, 0⟩) (stT ro E T (bytesF f n)).get W := by
  obtain ⟨hrep, small⟩ := rep_st0 hro hw
  obtain ⟨us, h1, h2, h3, h4⟩ := bytesF_den (envT P ⟨b, o, 0⟩) n f
  have hle : (env0 P).le (envT P ⟨b, o, 0⟩) := by
    intro id l h
    unfold envT
    have : id ≠ idT := by
      rintro rfl
      unfold env0 at h
      rw [if_neg (by omega)] at h
      cases h
    rw [if_neg this]
    exact h
  have txt : ∀ B, (stT ro E T (bytesF f n)).get idT = some B → B = .mk T 0 (.cells (bytesF f n)) := fun B h => by
    rw [stT_get, if_pos rfl] at h
    exact (Option.some.inj h).symm
  have oth : ∀ id B, (stT ro E T (bytesF f n)).get id = some B → id ≠ idT → (st0 ro E).get id = some B := fun id B h hi => by
    rwa [stT_get, if_neg hi] at h
  refine ⟨fun id B h => ?_, fun i j B C l m e1 e2 e3 e4 e5 => ?_⟩
  · by_cases hi : id = idT
    · subst hi
      obtain rfl := txt B h
      refine ⟨⟨b, o, 0⟩, _, by simp [envT], hb, cs, fr, us, rfl, ⟨hfr, fun h => absurd h (by omega)⟩, h1, h4, by rw [h2]; exact ho, fun i u hu => ?_, fun h => absurd rfl h⟩
      have hi : i < n := by
        have := (List.getElem?_eq_some_iff.1 hu).1
        omega
      rw [h3 i hi] at hu
      obtain rfl := Option.some.inj hu
      exact hcs i hi
    · exact (hrep.ok id B (oth id B h hi)).mono hle
  · have loc : ∀ id B l, (st0 ro E).get id = some B → id ≠ idT → envT P ⟨b, o, 0⟩ id = some l → l.blk = id ∧ id ≠ b := by
      intro id B l h hi hl
      have hs := (small id B h).2
      unfold envT at hl
      rw [if_neg hi] at hl
      simp only [env0, hs, if_true, Option.some.injEq] at hl
      subst hl
      obtain ⟨c, hm, _⟩ := st0_in h
      exact ⟨rfl, hne id c hm⟩
    by_cases hi : i = idT <;> by_cases hj : j = idT
    · rw [hi, hj]
    · obtain ⟨k1, k2⟩ := loc j C m (oth j C e2 hj) hj e4
      subst hi
      simp only [envT, if_true, Option.some.injEq] at e3
      subst e3
      exact absurd (k1.symm.trans e5.symm) k2
    · obtain ⟨k1, k2⟩ := loc i B l (oth i B e1 hi) hi e3
      subst hj
      simp only [envT, if_true, Option.some.injEq] at e4
      subst e4
      exact absurd (k1.symm.trans e5) k2
    · obtain ⟨k1, _⟩ := loc i B l (oth i B e1 hi) hi e3
      obtain ⟨k2, _⟩ := loc j C m (oth j C e2 hj) hj e4
      rw [← k1, ← k2]
      exact e5
end Go.Sx

/- A function that inserts one element into a row, as a hook: its contract comes from a walk. No program. -/
namespace Go.Sx
open Go.RowKit
set_option linter.unusedVariables false
set_option linter.unusedSimpArgs false

noncomputable section
def insNOK (T size n id v off eo ov el sl len l2 : Nat) (cs ds : List AV) : Bool :=
  Nat.beq el T && (Nat.beq sl size && (Nat.ble roN id && (Bool.not (Nat.beq id v) && (Nat.beq off (Nat.mul eo size) && (Nat.ble (Nat.add off (Nat.mul n size)) (lenL cs) && (Nat.ble (Nat.add ov size) (lenL ds) && (cs.all AV.one && (ds.all AV.one && (Nat.beq len n && Nat.beq l2 1)))))))))

def insNC (size n i off ov : Nat) (cs ds : List AV) : List AV := ((cs.drop off).take (i * size) ++ (ds.drop ov).take size) ++ (cs.drop (off + i * size)).take ((n - i) * size)

def insNR (T size n i : Nat) (args : List AV) (st : St) : Option Ro :=
  match args with
  | [.slc id off len (.op eo), .int .i64 (.ofNat k), .slc v ov l2 cv] =>
    match st.get id, st.get v with
    | some (.mk el sl (.cells cs)), some (.mk el2 sl2 (.cells ds)) =>
      match Nat.beq k i && insNOK T size n id v off eo ov el sl len l2 cs ds with
      | true => some (.ret (.slc st.n 0 (n + 1) (.op 0)) (st.eff (.k (.tup []) id (.mk T size (.cells (insNC size n i off ov cs ds))))))
      | false => none
    | _, _ => none
  | _ => none

def insNHook (f T size n i : Nat) : Hk := fun g args st =>
  match Nat.beq g f with
  | true => insNR T size n i args st
  | false => none
end

/-- There is room. -/
def InsNShift (P : Program) (f T size n i : Nat) : Prop :=
  ∀ (g o c vb ov cv : Nat) (cs ds : Array Value) (Tv : TypeId) (frv : Nat × Nat) (xs vs : List Value) (w : World),
    w.heap[g]? = some (.cells cs T (0, 0)) → cs.size = o + c * size → n + 1 ≤ c → c ≤ 9223372036854775807 → xs.length = (n - i) * size → (∀ j u, xs[j]? = some u → cs[o + i * size + j]? = some u) →
    w.heap[vb]? = some (.cells ds Tv frv) → vs.length = size → (∀ j u, vs[j]? = some u → ds[ov + j]? = some u) → vb ≠ g → (∀ u ∈ xs, u.oneCell' = true) → (∀ u ∈ vs, u.oneCell' = true) →
    Calls P f #[.slice (some ⟨g, o, none⟩) n c, .int .i64 i, .slice (some ⟨vb, ov, none⟩) 1 cv] w fun e w' => e = .returned (.slice (some ⟨g, o, none⟩) (n + 1) c) ∧ w' = (w.drew.setCells g (o + (i + 1) * size) xs).setCells g (o + i * size) vs

/-- There is none. -/
def InsNGrow (P : Program) (f T size n i : Nat) : Prop :=
  ∀ (g o vb ov cv : Nat) (cs ds : Array Value) (Tv : TypeId) (frv : Nat × Nat) (ps xs vs : List Value) (w : World),
    w.heap[g]? = some (.cells cs T (0, 0)) → ps.length = i * size → (∀ j u, ps[j]? = some u → cs[o + j]? = some u) → xs.length = (n - i) * size → (∀ j u, xs[j]? = some u → cs[o + i * size + j]? = some u) →
    w.heap[vb]? = some (.cells ds Tv frv) → vs.length = size → (∀ j u, vs[j]? = some u → ds[ov + j]? = some u) → (∀ u ∈ ps, u.oneCell' = true) → (∀ u ∈ xs, u.oneCell' = true) → (∀ u ∈ vs, u.oneCell' = true) →
    Calls P f #[.slice (some ⟨g, o, none⟩) n n, .int .i64 i, .slice (some ⟨vb, ov, none⟩) 1 cv] w fun e w' => ∃ (G : Nat) (zs : Array Value), n + 1 ≤ G ∧ G ≤ 9223372036854775807 ∧ zs.size = G * size ∧ (∀ (j : Nat) (u : Value), ps[j]? = some u → zs[j]? = some u) ∧
      e = .returned (.slice (some ⟨w.heap.size, 0, none⟩) (n + 1) G) ∧ w' = ((w.drew.alloc (.cells zs T)).setCells w.heap.size (i * size) vs).drew.setCells w.heap.size ((i + 1) * size) xs

section
variable {P : Program} {f T size n i : Nat}

theorem insNR_ok {args : List AV} {st : St} {r : Ro} (h : insNR T size n i args st = some r) : ∃ id off eo v ov cv cs el2 sl2 ds, args = [.slc id off n (.op eo), .int .i64 i, .slc v ov 1 cv] ∧ st.get id = some (.mk T size (.cells cs)) ∧ st.get v = some (.mk el2 sl2 (.cells ds)) ∧
    roN ≤ id ∧ id ≠ v ∧ off = eo * size ∧ off + n * size ≤ cs.length ∧ ov + size ≤ ds.length ∧ cs.all AV.one = true ∧ ds.all AV.one = true ∧
    r = .ret (.slc st.n 0 (n + 1) (.op 0)) (st.eff (.k (.tup []) id (.mk T size (.cells (insNC size n i off ov cs ds))))) := by
  unfold insNR at h
  split at h
  · rename_i id off len eo k v ov l2 cv
    split at h
    · rename_i el sl cs el2 sl2 ds h1 h2
      split at h
      · rename_i hok
        unfold insNOK at hok
        obtain ⟨k0, hok⟩ := and3 hok
        obtain ⟨k1, hok⟩ := and3 hok
        obtain ⟨k2, hok⟩ := and3 hok
        obtain ⟨k3, hok⟩ := and3 hok
        obtain ⟨k4, hok⟩ := and3 hok
        obtain ⟨k5, hok⟩ := and3 hok
        obtain ⟨k6, hok⟩ := and3 hok
        obtain ⟨k7, hok⟩ := and3 hok
        obtain ⟨k8, hok⟩ := and3 hok
        obtain ⟨k9, hok⟩ := and3 hok
        obtain ⟨k10, k11⟩ := and3 hok
        obtain rfl := nbeq k0
        obtain rfl := nbeq k1
        obtain rfl := nbeq k2
        obtain rfl := nbeq k10
        obtain rfl := nbeq k11
        have k4 : id ≠ v := by
          rintro rfl
          rw [Nat.beq_refl] at k4
          cases k4
        have k6 := Nat.le_of_ble_eq_true k6
        have k7 := Nat.le_of_ble_eq_true k7
        rw [lenL_eq] at k6 k7
        exact ⟨id, off, eo, v, ov, cv, cs, el2, sl2, ds, rfl, h1, h2, Nat.le_of_ble_eq_true k3, k4, nbeq k5, k6, k7, k8, k9, (Option.some.inj h).symm⟩
      · cases h
    · cases h
  · cases h

theorem insNHook_good (h1 : 1 < size) (hi : i < n) (hf : ∃ fn c, nthL P.funcs.toList f = some fn ∧ fn.body = some c) (hsh : InsNShift P f T size n i) (hgr : InsNGrow P f T size n i) : HkGood P (insNHook f T size n i) := by
  have key : ∀ {g args st r}, insNHook f T size n i g args st = some r → g = f ∧ insNR T size n i args st = some r := by
    intro g args st r h
    unfold insNHook at h
    split at h
    · rename_i hb
      exact ⟨nbeq hb, h⟩
    · cases h
  have hin : i * size + (n - i) * size = n * size := by
    rw [← Nat.add_mul]
    congr 1
    omega
  have hsz1 : (i + 1) * size = i * size + size := by rw [Nat.add_mul]; omega
  have hn1 : (n + 1) * size = n * size + size := by rw [Nat.add_mul]; omega
  refine ⟨fun g args st r h hne σ w us hr hg hu hfree => ?_, fun g args st r h => ?_, fun g args st r h => ?_⟩
  · obtain ⟨rfl, h'⟩ := key h
    obtain ⟨id, off, eo, v, ov, cv, cs, el2, sl2, ds, rfl, hid, hv, hro, hne', rfl, hcs, hds, ho1, ho2, rfl⟩ := insNR_ok h'
    -- where the rows lie
    obtain ⟨l, o, e1, e2, e3⟩ := hr.ok id _ hid
    obtain ⟨Cs, fr, uc, rfl, ⟨_, c1⟩, c2, c3, c4, c5, c6⟩ := e3
    obtain ⟨lv, o', f1, f2, f3⟩ := hr.ok v _ hv
    obtain ⟨Ds, frv, ud, rfl, _, d2, d3, d4, d5, d6⟩ := f3
    obtain rfl := c1 h1
    obtain ⟨c6, c7⟩ := c6 (by omega)
    have huc : uc.length = cs.length := denL_length c2
    have hud : ud.length = ds.length := denL_length d2
    simp only [denL, den, e1, f1, Option.map_some, Option.some.injEq, capDen] at hu
    subst hu
    have hps := denL_take (i * size) (denL_drop (eo * size) c2)
    have hxs := denL_take ((n - i) * size) (denL_drop (eo * size + i * size) c2)
    have hvs := denL_take size (denL_drop ov d2)
    obtain ⟨ps, hpe⟩ : ∃ ps, ps = (uc.drop (eo * size)).take (i * size) := ⟨_, rfl⟩
    obtain ⟨xs, hxe⟩ : ∃ xs, xs = (uc.drop (eo * size + i * size)).take ((n - i) * size) := ⟨_, rfl⟩
    obtain ⟨vs, hve⟩ : ∃ vs, vs = (ud.drop ov).take size := ⟨_, rfl⟩
    rw [← hpe] at hps
    rw [← hxe] at hxs
    rw [← hve] at hvs
    have hpl : ps.length = i * size := by rw [hpe]; simp; omega
    have hxl : xs.length = (n - i) * size := by rw [hxe]; simp; omega
    have hvl : vs.length = size := by rw [hve]; simp; omega
    have sub : ∀ {L : List Value} {a m : Nat} {C : Array Value} {b : Nat}, (∀ j u, L[j]? = some u → C[b + j]? = some u) → ∀ j u, ((L.drop a).take m)[j]? = some u → C[b + a + j]? = some u := by
      intro L a m C b hL j u hj
      rw [List.getElem?_take] at hj
      split at hj
      · rw [List.getElem?_drop] at hj
        rw [Nat.add_assoc]
        exact hL _ _ hj
      · cases hj
    have hpat : ∀ j u, ps[j]? = some u → Cs[l.base + eo * size + j]? = some u := by rw [hpe]; exact sub c5
    have hxat : ∀ j u, xs[j]? = some u → Cs[l.base + eo * size + i * size + j]? = some u := by
      rw [hxe]
      intro j u hj
      have := sub c5 j u hj
      rwa [← Nat.add_assoc] at this
    have hvat : ∀ j u, vs[j]? = some u → Ds[lv.base + ov + j]? = some u := by rw [hve]; exact sub d5
    have hone : ∀ {L : List AV} {n m : Nat}, L.all AV.one = true → ((L.drop n).take m).all AV.one = true := by
      intro L n m hL
      rw [List.all_eq_true] at hL ⊢
      exact fun x hx => hL x (List.mem_of_mem_drop (List.mem_of_mem_take hx))
    have hp1 := denL_one hps (hone ho1)
    have hx1 := denL_one hxs (hone ho1)
    have hv1 := denL_one hvs (hone ho2)
    have hblk : lv.blk ≠ l.blk := fun heq => hne' (hr.inj id v _ _ l lv hid hv e1 f1 heq.symm)
    have hnn : σ st.n = none := by
      refine hfree st.n (Nat.le_refl _) ?_
      rw [eff_n]
      exact Nat.lt_succ_self _
    have hids : st.n < Eff.top st.n (.k (.tup []) id (.mk T size (.cells (insNC size n i (eo * size) ov cs ds)))) → σ st.n = none := fun _ => hnn
    have hcap : eo + n ≤ l.cap := by
      have : (eo + n) * size ≤ l.cap * size := by rw [Nat.add_mul]; omega
      exact Nat.le_of_mul_le_mul_right this (by omega)
    have hroom : Cs.size = (l.base + eo * size) + (l.cap - eo) * size := by
      rw [c6, Nat.sub_mul]
      have : eo * size ≤ l.cap * size := Nat.mul_le_mul_right _ (by omega)
      omega
    -- the new row's block
    have new : ∀ (σ' : Env) (w' : World) (b base cap : Nat) (Zs : Array Value), σ' = σ.put st.n ⟨b, base, cap⟩ → w'.heap[b]? = some (.cells Zs T (0, 0)) → Zs.size = base + cap * size → cap ≤ 9223372036854775807 → n + 1 ≤ cap →
        (∀ j u, ((ps ++ vs) ++ xs)[j]? = some u → Zs[base + j]? = some u) → BlkOK σ' w' st.n (.mk T size (.cells (insNC size n i (eo * size) ov cs ds))) := by
      intro σ' w' b base cap Zs hσ hheap hsz hc hc2 hat
      subst hσ
      have hl : ((ps ++ vs) ++ xs).length = (n + 1) * size := by simp [hpl, hxl, hvl]; omega
      refine ⟨_, _, Env.put_same _ _ _, hheap, Zs, (0, 0), (ps ++ vs) ++ xs, rfl, ⟨Or.inl rfl, fun _ => rfl⟩, denL_mono (Env.le_put _ hnn) _ _ (denL_append (denL_append hps hvs) hxs), ?_, ?_, hat, fun _ => ⟨hsz, hc⟩⟩
      · show (insNC size n i (eo * size) ov cs ds).all AV.one = true
        unfold insNC
        rw [List.all_append, List.all_append, hone ho1, hone ho2, hone ho1]
        rfl
      · show base + ((ps ++ vs) ++ xs).length ≤ Zs.size
        rw [hl, hsz]
        have : (n + 1) * size ≤ cap * size := Nat.mul_le_mul_right _ hc2
        omega
    have fin : ∀ (σ' : Env) (w' : World) (b base cap : Nat), σ' = σ.put st.n ⟨b, base, cap⟩ → EffOK σ st.n w σ' w' (.k (.tup []) id (.mk T size (.cells (insNC size n i (eo * size) ov cs ds)))) →
        BehindC σ st.get st.n w (.ret (.slc st.n 0 (n + 1) (.op 0)) (st.eff (.k (.tup []) id (.mk T size (.cells (insNC size n i (eo * size) ov cs ds)))))) (.returned (.slice (some ⟨b, base, none⟩) (n + 1) cap)) w' := by
      intro σ' w' b base cap hσ he
      have hs := he.stp hr hids (by show Nat.ble 256 id = true; exact Nat.ble_eq_true_of_le hro) (fun k hk => by
        simp only [Eff.ids, List.mem_cons, List.not_mem_nil, or_false] at hk
        rcases hk with rfl | rfl
        · exact Or.inr ⟨_, hid⟩
        · exact Or.inl ⟨rfl, Nat.lt_succ_self _⟩)
      refine ⟨σ', _, rfl, ?_, ?_⟩
      · subst hσ
        simp [den, Env.put_same, capDen]
      · have hget : (st.eff (.k (.tup []) id (.mk T size (.cells (insNC size n i (eo * size) ov cs ds))))).get = appE st.n (.k (.tup []) id (.mk T size (.cells (insNC size n i (eo * size) ov cs ds)))) st.get := funext fun k => eff_get st _ k
        rw [hget, eff_n]
        exact hs
    rcases Nat.lt_or_ge (l.cap - eo) (n + 1) with hlt | hge
    · have h1c : l.cap - eo = n := by omega
      rw [h1c]
      refine (hgr l.blk (l.base + eo * size) lv.blk (lv.base + ov) (capDen lv cv) Cs Ds el2 frv ps xs vs w e2 hpl hpat hxl hxat f2 hvl hvat hp1 hx1 hv1).mono ?_
      rintro e w' ⟨G, zs, g1, g2, g3, g4, rfl, rfl⟩
      have ha : (w.drew.alloc (.cells zs T)).heap[w.heap.size]? = some (.cells zs T (0, 0)) := alloc_new w.drew _
      have hb := setCells_heap vs (o := i * size) ha
      have hc : (((w.drew.alloc (.cells zs T)).setCells w.heap.size (i * size) vs).drew).heap[w.heap.size]? = some (.cells (setR zs (i * size) vs) T (0, 0)) := hb
      have hd := setCells_heap xs (o := (i + 1) * size) hc
      have honly : OnlyB w ((((w.drew.alloc (.cells zs T)).setCells w.heap.size (i * size) vs).drew).setCells w.heap.size ((i + 1) * size) xs) (· = l.blk) := by
        have a1 : OnlyB w (w.drew.alloc (.cells zs T)) (fun _ => False) := (OnlyB.drew w _).trans (alloc_only w.drew _) (fun _ h => h.elim)
        have a2 := a1.trans (setCells_only vs (w.drew.alloc (.cells zs T)) w.heap.size (i * size)) (fun i h => Or.inr (by omega))
        have a3 := a2.trans (OnlyB.drew ((w.drew.alloc (.cells zs T)).setCells w.heap.size (i * size) vs) (fun _ => False)) (fun i h => h.elim)
        have a4 := a3.trans (setCells_only xs _ w.heap.size ((i + 1) * size)) (fun i h => Or.inr (by omega))
        exact a4.mono (fun _ _ h => h.elim)
      have hG : (n + 1) * size ≤ G * size := Nat.mul_le_mul_right _ g1
      refine fin (σ.put st.n ⟨w.heap.size, 0, G⟩) _ _ _ _ rfl ⟨l, ⟨w.heap.size, 0, G⟩, e1, rfl, Or.inl (Nat.le_refl _), honly, new _ _ w.heap.size 0 G _ rfl hd ?_ g2 g1 ?_⟩
      · rw [setR_size, setR_size, g3]; omega
      · intro j u hj
        rw [Nat.zero_add]
        rw [List.getElem?_append] at hj
        split at hj
        · rename_i hlt2
          simp only [List.length_append, hpl, hvl] at hlt2
          rw [setR_out xs ((i + 1) * size) _ _ (Or.inl (by omega))]
          rw [List.getElem?_append] at hj
          split at hj
          · rename_i hlt3
            rw [hpl] at hlt3
            rw [setR_out vs (i * size) _ _ (Or.inl hlt3)]
            exact g4 j u hj
          · rename_i hge3
            rw [hpl] at hge3 hj
            have := setR_in vs (i * size) zs (j - i * size) u (by rw [hvl, g3]; omega) hj
            rwa [show i * size + (j - i * size) = j by omega] at this
        · rename_i hge2
          simp only [List.length_append, hpl, hvl] at hge2 hj
          have := setR_in xs ((i + 1) * size) (setR zs (i * size) vs) (j - (i * size + size)) u (by rw [hxl, setR_size, g3]; omega) hj
          rwa [show (i + 1) * size + (j - (i * size + size)) = j by omega] at this
    · refine (hsh l.blk (l.base + eo * size) (l.cap - eo) lv.blk (lv.base + ov) (capDen lv cv) Cs Ds el2 frv xs vs w e2 hroom hge (by omega) hxl hxat f2 hvl hvat hblk hx1 hv1).mono ?_
      rintro e w' ⟨rfl, rfl⟩
      have ha : w.drew.heap[l.blk]? = some (.cells Cs T (0, 0)) := e2
      have hb := setCells_heap xs (o := l.base + eo * size + (i + 1) * size) ha
      have hc := setCells_heap vs (o := l.base + eo * size + i * size) hb
      have honly : OnlyB w ((w.drew.setCells l.blk (l.base + eo * size + (i + 1) * size) xs).setCells l.blk (l.base + eo * size + i * size) vs) (· = l.blk) :=
        ((OnlyB.drew w (· = l.blk)).trans (setCells_only xs w.drew _ _) (fun i h => Or.inl h)).trans (setCells_only vs _ _ _) (fun i h => Or.inl h)
      have hG : (n + 1) * size ≤ (l.cap - eo) * size := Nat.mul_le_mul_right _ hge
      refine fin (σ.put st.n ⟨l.blk, l.base + eo * size, l.cap - eo⟩) _ _ _ _ rfl ⟨l, ⟨l.blk, l.base + eo * size, l.cap - eo⟩, e1, rfl, Or.inr rfl, honly, new _ _ l.blk (l.base + eo * size) (l.cap - eo) _ rfl hc ?_ (by omega) hge ?_⟩
      · rw [setR_size, setR_size, hroom]
      · intro j u hj
        rw [List.getElem?_append] at hj
        split at hj
        · rename_i hlt2
          simp only [List.length_append, hpl, hvl] at hlt2
          rw [List.getElem?_append] at hj
          split at hj
          · rename_i hlt3
            rw [hpl] at hlt3
            rw [setR_out vs _ _ _ (Or.inl (by omega)), setR_out xs _ _ _ (Or.inl (by omega))]
            exact hpat j u hj
          · rename_i hge3
            rw [hpl] at hge3 hj
            have := setR_in vs (l.base + eo * size + i * size) (setR Cs (l.base + eo * size + (i + 1) * size) xs) (j - i * size) u (by rw [hvl, setR_size, hroom]; omega) hj
            rwa [show l.base + eo * size + i * size + (j - i * size) = l.base + eo * size + j by omega] at this
        · rename_i hge2
          simp only [List.length_append, hpl, hvl] at hge2 hj
          rw [setR_out vs _ _ _ (Or.inr (by omega))]
          have := setR_in xs (l.base + eo * size + (i + 1) * size) Cs (j - (i * size + size)) u (by rw [hxl, hroom]; omega) hj
          rwa [show l.base + eo * size + (i + 1) * size + (j - (i * size + size)) = l.base + eo * size + j by omega] at this
  · obtain ⟨rfl, h'⟩ := key h
    obtain ⟨id, off, eo, v, ov, cv, cs, el2, sl2, ds, rfl, hid, hv, hro, hne', rfl, hcs, hds, ho1, ho2, rfl⟩ := insNR_ok h'
    show st.n ≤ (st.eff _).n
    rw [eff_n]
    exact top_ge _ _
  · obtain ⟨rfl, h'⟩ := key h
    exact hf
end
end Go.Sx
