/- A closed call that makes a new block, and hands back a pointer to it. No program. -/
import Derived.Test.YtdkcmjifkhcfcaaGreatDoorXSc
set_option linter.all false
namespace Go.Sx
open Go.RowKit
set_option linter.unusedVariables false

noncomputable section
/-- The end of such a call: the i-th cell of the new block is as wanted. -/
def chkNew (i : Nat) (want : AV) (r : Ro) : Bool :=
  match r with
  | .ret (.ptr id 0) st => Nat.ble roN id && (match st.get id with
    | some (.mk _ _ (.cells cs)) => (match nthL cs i with
      | some v => AV.beq v want
      | none => false)
    | _ => false)
  | _ => false

theorem calls_new {P : Program} {okT : Nat → Bool} (hk : OkT P okT) (hc : CallsOK P) (hm : P.follows .mixedOrders = true) {hook : Hk} {dhook : Dh} (hh : HkGood P hook) (hd : DhGood P dhook) {rounds k f i : Nat} {want : AV} {args : List AV} {us : List Value} {u : Value}
    (hu : ∀ σ, den σ want = some u) (hargs : denL (env0 P) args = some us) {ro : List (Nat × Cont)} (hro : (ro.all fun p => Nat.blt p.1 roN && Nat.blt p.1 P.globals.size) = true) (hgl : Nat.ble P.globals.size roN = true) {E : Nat → Nat}
    (hrun : chkNew i want (xcall P okT hook dhook rounds k f args (st0 ro E)) = true) {W : World} (hw : ∀ id c, (id, c) ∈ ro → BlkOK (env0 P) W id (.mk (E id) 0 c)) :
    Calls P f us.toArray W fun e W' => ∃ b o cs T fr, e = .returned (.pointer (some ⟨b, o, none⟩)) ∧ Below W.heap.size W W' ∧ W.heap.size ≤ b ∧ W'.heap[b]? = some (.cells cs T fr) ∧ FrOK fr cs.size ∧ cs[o + i]? = some u := by
  obtain ⟨hrep, small⟩ := rep_st0 hro hw
  have hg := Nat.le_of_ble_eq_true hgl
  cases hx : xcall P okT hook dhook rounds k f args (st0 ro E) with
  | no => rw [hx] at hrun; cases hrun
  | pan v st => rw [hx] at hrun; cases hrun
  | ret v st1 =>
    rw [hx] at hrun
    unfold chkNew at hrun
    split at hrun
    · rename_i id st heq
      injection heq with e1 e2
      subst e1; subst e2
      obtain ⟨h1, h2⟩ := and3 hrun
      split at h2
      · rename_i el sl cs hget
        split at h2
        · rename_i v hv
          have ev := AV.beq_eq _ _ h2
          subst ev
          refine Calls.mono (calls_of_run (σ := env0 P) hk hc hm hh hd hx hrep (glob0 P) hargs (by simp) (fun id h1 h2 => ?_)) ?_
          · have h1 : roN ≤ id := h1
            simp only [env0]
            rw [if_neg (by omega)]
          · rintro e w' ⟨σ', x, rfl, hdx, hs⟩
            simp only [den, Option.map_eq_some_iff] at hdx
            obtain ⟨l, hl, rfl⟩ := hdx
            obtain ⟨l', o, k1, k2, k3⟩ := hs.rep.ok id _ hget
            obtain rfl : l = l' := by rw [hl] at k1; exact Option.some.inj k1
            obtain ⟨cv, fr, uv, q1, q2, q3, q4, q5, q6, q7⟩ := k3
            have hnot : ∀ k, ¬ InH (env0 P) (st0 ro E).get k := by
              rintro k ⟨id', b', l', p0, p1, p2, p3⟩
              have := (small id' b' p1).1
              omega
            refine ⟨l.blk, l.base + 0, cv, el, fr, rfl, ⟨hs.only.os, hs.only.tape, hs.only.output, hs.only.size, fun k hk => hs.only.block k hk (hnot k)⟩, ?_, by rw [k2, q1], q2, ?_⟩
            · rcases hs.footW id _ l (Nat.le_of_ble_eq_true h1) hget hl with h | h
              · exact h
              · exact absurd h (hnot _)
            · have hv' : cs[i]? = some v := by rw [← nthL_eq]; exact hv
              obtain ⟨u', hu1, hu2⟩ : ∃ u', uv[i]? = some u' ∧ den σ' v = some u' := denL_get q3 i v hv'
              have : u' = u := by rw [hu σ'] at hu2; exact (Option.some.inj hu2).symm
              subst this
              exact q6 i u' hu1
        · cases h2
      · cases h2
    · cases hrun
end
end Go.Sx
