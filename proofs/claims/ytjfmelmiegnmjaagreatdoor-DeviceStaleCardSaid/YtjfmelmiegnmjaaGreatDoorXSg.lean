/- A call that reads two rows of bytes that are known and lays a new one: from its run. No program. -/
import Derived.Test.YtjfmelmiegnmjaaGreatDoorXSf
set_option linter.all false
namespace Go.Sx
open Go.RowKit
set_option linter.unusedVariables false
set_option linter.unusedSimpArgs false

noncomputable section
/-- Two rows that came in, 200 and 201. -/
def st2 (T U : Nat) (xs ys : List AV) : St := .mk (putP (some (.mk U 0 (.cells ys))) (path 201) (putP (some (.mk T 0 (.cells xs))) (path 200) .lf)) roN
def env2 (P : Program) (l m : Loc) : Env := fun id => if id = 200 then some l else if id = 201 then some m else env0 P id
end
theorem st2_get {T U : Nat} {xs ys : List AV} (id : Nat) : (st2 T U xs ys).get id = if id = 201 then some (.mk U 0 (.cells ys)) else if id = 200 then some (.mk T 0 (.cells xs)) else none := by
  unfold st2
  show getP (path id) (putP _ (path 201) (putP _ (path 200) .lf)) = _
  rw [get_put, get_put, getP_lf]

theorem rep_st2 {P : Program} {W : World} {l m : Loc} {T U : Nat} {xs ys : List AV} {us vs : List Value} {cs ds : Array Value} {fr gr : Nat × Nat}
    (hb : W.heap[l.blk]? = some (.cells cs T fr)) (hfr : FrOK fr cs.size) (hd : denL (env2 P l m) xs = some us) (h1 : xs.all AV.one = true) (ho : l.base + us.length ≤ cs.size) (hus : ∀ i u, us[i]? = some u → cs[l.base + i]? = some u)
    (kb : W.heap[m.blk]? = some (.cells ds U gr)) (kfr : FrOK gr ds.size) (kd : denL (env2 P l m) ys = some vs) (k1 : ys.all AV.one = true) (ko : m.base + vs.length ≤ ds.size) (kus : ∀ i u, vs[i]? = some u → ds[m.base + i]? = some u)
    (hne : l.blk ≠ m.blk) : Rep (env2 P l m) (st2 T U xs ys).get W := by
  have e1 : env2 P l m 200 = some l := by simp [env2]
  have e2 : env2 P l m 201 = some m := by simp [env2]
  have two : ∀ id B, (st2 T U xs ys).get id = some B → (id = 200 ∧ B = .mk T 0 (.cells xs)) ∨ (id = 201 ∧ B = .mk U 0 (.cells ys)) := fun id B h => by
    rw [st2_get] at h
    split at h
    · rename_i hi
      exact Or.inr ⟨hi, (Option.some.inj h).symm⟩
    · split at h
      · rename_i hi
        exact Or.inl ⟨hi, (Option.some.inj h).symm⟩
      · cases h
  refine ⟨fun id B h => ?_, fun i j B C l' m' q1 q2 q3 q4 q5 => ?_⟩
  · rcases two id B h with ⟨rfl, rfl⟩ | ⟨rfl, rfl⟩
    · exact ⟨l, _, e1, hb, cs, fr, us, rfl, ⟨hfr, fun h => absurd h (by omega)⟩, hd, h1, ho, hus, fun h => absurd rfl h⟩
    · exact ⟨m, _, e2, kb, ds, gr, vs, rfl, ⟨kfr, fun h => absurd h (by omega)⟩, kd, k1, ko, kus, fun h => absurd rfl h⟩
  · rcases two i B q1 with ⟨rfl, rfl⟩ | ⟨rfl, rfl⟩ <;> rcases two j C q2 with ⟨rfl, rfl⟩ | ⟨rfl, rfl⟩
    · rfl
    · rw [e1] at q3; rw [e2] at q4
      obtain rfl := Option.some.inj q3
      obtain rfl := Option.some.inj q4
      exact absurd q5 hne
    · rw [e2] at q3; rw [e1] at q4
      obtain rfl := Option.some.inj q3
      obtain rfl := Option.some.inj q4
      exact absurd q5.symm hne
    · rfl

def byAV (l : List Nat) : List AV := l.map fun b => .int .u8 (.ofNat b)
theorem byAV_den {σ : Env} : ∀ (l : List Nat), denL σ (byAV l) = some (l.map fun (x : Nat) => Value.int .u8 x) ∧ (byAV l).all AV.one = true
  | [] => ⟨rfl, rfl⟩
  | x :: l => by
    obtain ⟨h1, h2⟩ := byAV_den (σ := σ) l
    refine ⟨?_, ?_⟩
    · show denL σ (.int .u8 (.ofNat x) :: byAV l) = _
      simp only [denL, den, h1, List.map_cons]
      rfl
    · show ((AV.int .u8 (.ofNat x) :: byAV l).all AV.one) = true
      simp only [List.all_cons, h2, Bool.and_true]
      rfl

/-- A call's end: a new row, packed or not; its bytes. -/
noncomputable def rowRes2 (T : Nat) : Ro → Option (List Nat)
  | .ret (.slc id 0 len (.lit c)) st => bif Nat.ble roN id && Nat.beq len c then (match st.get id with
    | some (.mk el 0 d) => bif Nat.beq el T && (Nat.beq (lenL d.toL) len && Bool.not d.isMap) then natsB d.toL else none
    | _ => none) else none
  | _ => none

/-- A call that reads two rows apart and lays a new one. -/
theorem two_calls {P : Program} {okT : Nat → Bool} (hk : OkT P okT) (hc : CallsOK P) (hm : P.follows .mixedOrders = true) {hook : Hk} {dhook : Dh} (hh : HkGood P hook) (hd : DhGood P dhook) {rounds k f : Nat} {c1 c2 T U V : Nat} {l m : Loc} {xs ys bs : List Nat} {W : World}
    (hgl : Nat.ble P.globals.size 200 = true) (hx : RowAt W l.blk l.base T xs) (hy : RowAt W m.blk m.base U ys) (hne : l.blk ≠ m.blk)
    (hrun : rowRes2 V (xcall P okT hook dhook rounds k f [.slc 200 0 xs.length (.lit c1), .slc 201 0 ys.length (.lit c2)] (st2 T U (byAV xs) (byAV ys))) = some bs) :
    Calls P f #[.slice (some ⟨l.blk, l.base, none⟩) xs.length c1, .slice (some ⟨m.blk, m.base, none⟩) ys.length c2] W (RowNew W V bs) := by
  obtain ⟨cs, fr, a1, a2, a3, a4⟩ := hx.at_
  obtain ⟨ds, gr, b1, b2, b3, b4⟩ := hy.at_
  have hgl := Nat.le_of_ble_eq_true hgl
  have hrep : Rep (env2 P l m) (st2 T U (byAV xs) (byAV ys)).get W := rep_st2 a1 a2 (byAV_den (σ := env2 P l m) xs).1 (byAV_den (σ := env2 P l m) xs).2 (by simpa using a3) (fun i u hu => by
      rw [List.getElem?_map] at hu
      obtain ⟨x, hx, rfl⟩ := Option.map_eq_some_iff.1 hu
      exact a4 i x hx) b1 b2 (byAV_den (σ := env2 P l m) ys).1 (byAV_den (σ := env2 P l m) ys).2 (by simpa using b3) (fun i u hu => by
      rw [List.getElem?_map] at hu
      obtain ⟨x, hx, rfl⟩ := Option.map_eq_some_iff.1 hu
      exact b4 i x hx) hne
  have hargs : denL (env2 P l m) [.slc 200 0 xs.length (.lit c1), .slc 201 0 ys.length (.lit c2)] = some [.slice (some ⟨l.blk, l.base, none⟩) xs.length c1, .slice (some ⟨m.blk, m.base, none⟩) ys.length c2] := by
    simp only [denL, den, env2, if_true, Option.map_some]
    rfl
  have hglob : GlobOK P (env2 P l m) := fun g hg => ⟨0, by
    unfold env2 env0
    rw [if_neg (by omega), if_neg (by omega), if_pos hg]⟩
  have small : ∀ id B, (st2 T U (byAV xs) (byAV ys)).get id = some B → id < roN := fun id B h => by
    rw [st2_get] at h
    split at h
    · rename_i hi; subst hi; decide
    · split at h
      · rename_i hi; subst hi; decide
      · cases h
  have hfree : ∀ id, roN ≤ id → env2 P l m id = none := fun id h => by
    have h : 256 ≤ id := h
    unfold env2 env0
    rw [if_neg (by omega), if_neg (by omega), if_neg (by omega)]
  cases hx : xcall P okT hook dhook rounds k f [.slc 200 0 xs.length (.lit c1), .slc 201 0 ys.length (.lit c2)] (st2 T U (byAV xs) (byAV ys)) with
  | no => rw [hx] at hrun; cases hrun
  | pan v st => rw [hx] at hrun; cases hrun
  | ret v st1 =>
    rw [hx] at hrun
    unfold rowRes2 at hrun
    split at hrun
    · rename_i id len c st heq
      injection heq with e1 e2
      subst e1; subst e2
      cases hb : (Nat.ble roN id && Nat.beq len c) with
      | false => rw [hb] at hrun; cases hrun
      | true =>
        rw [hb] at hrun
        obtain ⟨h1, h2⟩ := and3 hb
        obtain rfl := nbeq h2
        simp only [cond_true] at hrun
        split at hrun
        · rename_i el dd hget
          cases hb2 : (Nat.beq el V && (Nat.beq (lenL dd.toL) len && Bool.not dd.isMap)) with
          | false => rw [hb2] at hrun; cases hrun
          | true =>
            rw [hb2] at hrun
            obtain ⟨h3, h4⟩ := and3 hb2
            obtain rfl := nbeq h3
            obtain ⟨h4, hmap⟩ := and3 h4
            have hmap : dd.isMap = false := by simpa using hmap
            have h4 := nbeq h4
            rw [lenL_eq2] at h4
            simp only [cond_true] at hrun
            refine Calls.mono (calls_of_run (σ := env2 P l m) hk hc hm hh hd hx hrep hglob hargs (by simp) (fun id h1 h2 => hfree id h1)) ?_
            rintro e w' ⟨σ', x, rfl, hdx, hs⟩
            simp only [den, Option.map_eq_some_iff] at hdx
            obtain ⟨l2, hl, rfl⟩ := hdx
            obtain ⟨l', cs', fr', us', k1, k2, k3, k4, k5, k6, k7, _⟩ := (hs.rep.ok id _ hget).row hmap
            obtain rfl : l2 = l' := Option.some.inj (hl.symm.trans k1)
            have hnot : ∀ k, ¬ InH (env2 P l m) (st2 T U (byAV xs) (byAV ys)).get k := by
              rintro k ⟨id', b', l', p0, p1, p2, p3⟩
              have := small id' b' p1
              omega
            have hl2 := denL_length k4
            have hn := natsB_den hrun k4
            have hbl : bs.length = len := by
              rw [← h4]
              have : us'.length = bs.length := by rw [hn]; simp
              have h5 : us'.length = dd.toL.length := hl2
              omega
            refine ⟨⟨l2.blk, l2.base + 0, cs', fr', by rw [hbl]; rfl, ?_, k2, k3.1, ?_, fun i x hx => ?_⟩, hs.only.os, hs.only.tape, hs.only.output, hs.only.size, fun k hk _ => hs.only.block k hk (hnot k)⟩
            · rcases hs.footW id _ l2 (Nat.le_of_ble_eq_true h1) hget hl with h | h
              · exact h
              · exact absurd h (hnot _)
            · have h6 : l2.base + us'.length ≤ cs'.size := k6
              have : us'.length = bs.length := by rw [hn]; simp
              omega
            · exact k7 i _ (by rw [hn, List.getElem?_map, hx]; rfl)
        · cases hrun
    · cases hrun
end Go.Sx

/- A region's operations one by one, their slots said by a tree; code ahead of a piece that is gone through by hand. No program. -/
namespace Go.Sx
open Go.RowKit
set_option linter.unusedVariables false
set_option linter.unusedSimpArgs false

section
variable {P : Program} {N : Nat} {ops : Array Oper} {Qe : Exit → Act → World → Prop} {σ : Env} {t : Tr AV} {a : Act} {w : World} {o : Oper} {rest : List Oper}

theorem TmpOK.at (h : TmpOK σ t N a) {k : Nat} {v : AV} {u : Value} (hk : getP (path k) t = some v) (hv : den σ v = some u) : a.tmps.getD k undef = u := by
  have := h.val k
  rw [hk] at this
  exact (Option.some.inj (hv.symm.trans this)).symm

/-- Such an operation yields a value. -/
theorem list_val (ht : TmpOK σ t N a) (hw : Region.wanted o (yielded ops a.tmps) = true) {p : Option (List Q)} (hd : dstP N o.dst = some p) {v : AV} {u : Value} (hv : den σ v = some u) {w' : World} (hx : (execOp a.eval o).run P w = .ok (.value u) w')
    (h : ∀ a', TmpOK σ (putD p v t) N a' → a'.defers = a.defers → wpList P ops Qe rest a' w') : wpList P ops Qe (o :: rest) a w :=
  wpList_step fun K hK => by
    rw [if_pos hw]
    unfold Oper.wp
    rw [hx]
    exact hK _ _ (h _ (ht.put hd hv) put_defers)
theorem list_skip (ht : TmpOK σ t N a) (hw : Region.wanted o (yielded ops a.tmps) = false) {p : Option (List Q)} (hd : dstP N o.dst = some p)
    (h : ∀ a', TmpOK σ (putD p (.tup []) t) N a' → a'.defers = a.defers → wpList P ops Qe rest a' w) : wpList P ops Qe (o :: rest) a w :=
  wpList_step fun K hK => by
    rw [if_neg (by rw [hw]; simp)]
    exact hK _ _ (h _ (ht.put hd rfl) put_defers)
theorem wanted_no {tmps : Array Value} (hg : o.guard = none) : Region.wanted o (yielded ops tmps) = true := by simp [Region.wanted, hg]
theorem wanted_by (ht : TmpOK σ t N a) {j : Nat} {b c : Bool} (hg : o.guard = some (j, b)) {oj : Oper} {k : Nat} (hj : ops[j]? = some oj) (hd : oj.dst = some k) (hk : getP (path k) t = some (.bool c)) : Region.wanted o (yielded ops a.tmps) = (c == b) := by
  have h := ht.at hk (u := .bool c) rfl
  unfold Region.wanted yielded
  rw [hg]
  simp only [hj, Option.bind_some, hd]
  have h2 : a.tmps[k]? = some (.bool c) := by
    rw [Array.getD_eq_getD_getElem?] at h
    cases hq : a.tmps[k]? with
    | none => rw [hq] at h; cases h
    | some x => rw [hq] at h; exact congrArg some h
  rw [h2]
  cases b <;> cases c <;> rfl

/-- A name more, said by what comes. -/
theorem Stp.name {h : Hp} {n : Nat} {w' : World} (hr : Rep σ h w) (hn : σ n = none) (ho : OnlyB w w' (fun _ => False)) (l : Loc) : Stp σ h n w (σ.put n l) h (n + 1) w' := by
  have hle : σ.le (σ.put n l) := fun id m e => by
    have : id ≠ n := by rintro rfl; rw [hn] at e; cases e
    unfold Env.put
    rw [if_neg this]
    exact e
  have back : ∀ id b m, h id = some b → (σ.put n l) id = some m → σ id = some m := fun id b m e hm => by
    obtain ⟨l', o', q1, _⟩ := hr.ok id b e
    rw [hle _ _ q1] at hm
    obtain rfl := Option.some.inj hm
    exact q1
  refine ⟨Nat.le_succ _, hle, fun id m e => ?_, ⟨fun id b e => ((hr.ok id b e).only ho (fun _ _ h => h)).mono hle, fun i j B C l1 l2 e1 e2 e3 e4 e5 => hr.inj i j B C l1 l2 e1 e2 (back _ _ _ e1 e3) (back _ _ _ e2 e4) e5⟩, ho.mono (fun k _ h => h.elim),
    fun id b m e hm => Or.inr ⟨id, b, m, e, back _ _ _ e hm, rfl⟩, fun id b m hro e hm => Or.inr ⟨id, b, m, hro, e, back _ _ _ e hm, rfl⟩, fun id b e => Or.inl ⟨b, e⟩⟩
  unfold Env.put at e
  split at e
  · rename_i hi
    exact Or.inr ⟨by omega, by omega⟩
  · exact Or.inl e
end

/-! Code ahead of a piece. -/
/-- w is a, and behind it the rest, l. -/
inductive Ahead : Code → Code → Code → Prop
  | one (p l : Code) : Ahead p l (.seq p l)
  | more (a p l w : Code) : Ahead p l w → Ahead (.seq a p) l (.seq a w)

theorem ahead_runs {P : Program} {okT : Nat → Bool} {N : Nat} (hk : OkT P okT) (hc : CallsOK P) (hm : P.follows .mixedOrders = true) {call : Nat → List AV → St → Ro} (hgood : CallGood P call) {p l w : Code} (h : Ahead p l w) :
    ∀ (n : Nat) (t : Tr AV) (d : Ds) (st : St) (r : Rs), (xcode P okT call N n p t d st).isNorm = true → RunsAs P N l (xcode P okT call N n p t d st).t (xcode P okT call N n p t d st).d (xcode P okT call N n p t d st).s r → RunsAs P N w t d st r := by
  induction h with
  | one p l =>
    intro n t d st r h1 h2
    exact (runs_code hk hc hm hgood n p t d st).seq h1 h2
  | more a p l w _ ih =>
    intro n t d st r h1 h2
    cases n with
    | zero => cases h1
    | succ n =>
      have e : xcode P okT call N (n + 1) (.seq a p) t d st = xseq (xcode P okT call N n) a p t d st := rfl
      unfold xseq at e
      cases hx : xcode P okT call N n a t d st with
      | norm t1 d1 st1 =>
        rw [hx] at e
        simp only at e
        rw [e] at h1 h2
        have ra := runs_code (N := N) hk hc hm hgood n a t d st
        rw [hx] at ra
        exact ra.seq rfl (ih n t1 d1 st1 r h1 h2)
      | _ => rw [hx] at e; rw [e] at h1; cases h1
/-- A law's call, by the run of its code joined by hand. -/
theorem law_runs {P : Program} (hc : CallsOK P) {dhook : Dh} (hd : DhGood P dhook) {f N : Nat} {c : Code} {rs : List ResultVar}
    (hf : fnOf P f = some (N, c, rs)) {args : List AV} {us : List Value} {σ : Env} (hargs : denL σ args = some us) {st : St} (hn : roN ≤ st.n) (hσ : ∀ id, roN ≤ id → σ id = none) (hg : GlobOK P σ) {W : World} (hrep : Rep σ st.get W) (hro : ∀ id b, st.get id = some b → id < roN)
    {r : Rs} (hruns : RunsAs P N c (argsTr 0 args .lf) [] st r) (htrue : (xleave P dhook rs r).isTrue = true) :
    Calls P f us.toArray W fun e W' => e = .returned (.bool true) ∧ Below W.heap.size W W' := by
  have hrr : ∃ st', xleave P dhook rs r = .ret (.bool true) st' := by
    cases hx : xleave P dhook rs r with
    | no => rw [hx] at htrue; cases htrue
    | pan => rw [hx] at htrue; cases htrue
    | ret v st' =>
      rw [hx] at htrue
      cases v <;> try (cases htrue; done)
      rename_i b
      obtain rfl : b = true := htrue
      exact ⟨st', rfl⟩
  obtain ⟨st', hx⟩ := hrr
  have := body_of_runs hc hd hf hruns hrep hg hargs (by rw [hx]; simp) (by
    rw [hx]
    intro id h1 h2
    exact hσ id (Nat.le_trans hn h1))
  refine Calls.mono this ?_
  rintro e w' hb
  rw [hx] at hb
  obtain ⟨σ', u, rfl, hu, hs⟩ := hb
  obtain rfl : Value.bool true = u := Option.some.inj hu
  refine ⟨rfl, ⟨hs.only.os, hs.only.tape, hs.only.output, hs.only.size, fun k hk => hs.only.block k hk ?_⟩⟩
  rintro ⟨id, b, l, h0, h1, h2, h3⟩
  have := hro id b h1
  omega
end Go.Sx
