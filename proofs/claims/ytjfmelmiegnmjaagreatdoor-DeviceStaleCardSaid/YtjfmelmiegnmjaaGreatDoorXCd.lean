/- X25519 of numbers that are known: a table of runs, as a hook. -/
import Derived.Test.YtjfmelmiegnmjaaGreatDoorXCc
import Derived.Test.YtjfmelmiegnmjaaGreatDoorXSg
set_option linter.all false
open Go Go.Sx Go.Proofs Go.RowKit
set_option linter.all false
namespace Go.Proofs.YtjfmelmiegnmjaaGreatDoor
set_option maxRecDepth 1000000

def eqLs : List Nat → List Nat → Bool
  | [], [] => true
  | a :: l, b :: m => match Nat.beq a b with
    | true => eqLs l m
    | false => false
  | _, _ => false
theorem eqLs_eq : ∀ {l m : List Nat}, eqLs l m = true → l = m
  | [], [], _ => rfl
  | a :: l, b :: m, h => by
    unfold eqLs at h
    split at h
    · rename_i hb
      rw [nbeq hb, eqLs_eq h]
    · cases h
/-- A run: the secret, the point, what comes of them. -/
structure ME where
  s : List Nat
  p : List Nat
  o : List Nat
def ME.ok (e : ME) : Prop := e.s.length = 32 ∧ e.p.length = 32 ∧ ∀ (c1 c2 T U : Nat), rowRes2 5 (xcall Tryz.prog okT hCN dhC 1000 60 239 [.slc 200 0 32 (.lit c1), .slc 201 0 32 (.lit c2)] (st2 T U (byAV e.s) (byAV e.p))) = some e.o
noncomputable def look : List ME → List Nat → List Nat → Option (List Nat)
  | [], _, _ => none
  | e :: l, s, p => match eqLs s e.s && eqLs p e.p with
    | true => some e.o
    | false => look l s p
theorem look_ok {s p o : List Nat} : ∀ {l : List ME}, look l s p = some o → ∃ e ∈ l, e.s = s ∧ e.p = p ∧ e.o = o
  | [], h => by cases h
  | e :: l, h => by
    unfold look at h
    split at h
    · rename_i hb
      obtain ⟨h1, h2⟩ := and3 hb
      exact ⟨e, List.mem_cons_self .., (eqLs_eq h1).symm, (eqLs_eq h2).symm, Option.some.inj h⟩
    · obtain ⟨e', h1, h2⟩ := look_ok h
      exact ⟨e', List.mem_cons_of_mem _ h1, h2⟩
noncomputable def gLook (tbl : List ME) (args : List AV) (st : St) : Option (List Nat) := match args with
  | [.slc i o 32 _, .slc j p 32 _] => match Nat.beq i j with
    | true => none
    | false => match rowOf st i o 32, rowOf st j p 32 with
      | some s, some q => look tbl s q
      | _, _ => none
  | _ => none
theorem xmul_fn : fnOf Tryz.prog 239 = some (ntOf Tryz.prog 239, bodyOf Tryz.prog 239, resultsOf Tryz.prog 239) := by kernel_rfl
theorem look_good {tbl : List ME} (h : ∀ e ∈ tbl, e.ok) : HkGood Tryz.prog (nsHook 239 5 (gLook tbl)) := by
  obtain ⟨fn, h1, _, h3, _⟩ := fnOf_ok xmul_fn
  refine nsHook_good ⟨fn, _, h1, h3⟩ fun args st bs σ us w hg hr hd => ?_
  unfold gLook at hg
  split at hg
  · rename_i i o c j p c'
    split at hg
    · cases hg
    · rename_i hij
      split at hg
      · rename_i s q hs hq
        obtain ⟨e, he, rfl, rfl, rfl⟩ := look_ok hg
        obtain ⟨k1, k2, k3⟩ := h e he
        obtain ⟨l, T, m1, m2, m3, m4⟩ := rowOf_at hr hs
        obtain ⟨m, U, n1, n2, n3, n4⟩ := rowOf_at hr hq
        have hne : l.blk ≠ m.blk := fun e' => by
          unfold rowOf at hs hq
          split at hs
          · rename_i e1 s1 c1 g1
            split at hq
            · rename_i e2 s2 c2 g2
              have := hr.inj i j _ _ _ _ g1 g2 m1 n1 e'
              subst this
              simp at hij
            · cases hq
          · cases hs
        obtain ⟨u, l1, rfl, hx, hd⟩ := denL_cons hd
        obtain ⟨u', l2, rfl, hy, hd⟩ := denL_cons hd
        obtain rfl := denL_nil hd
        simp only [den, m1, n1, Option.map_some, Option.some.injEq] at hx hy
        subst hx
        subst hy
        have := two_calls okt callsOK mixed hCN_good dhC_good (l := ⟨l.blk, l.base + o, 0⟩) (m := ⟨m.blk, m.base + p, 0⟩) (c1 := capDen l c) (c2 := capDen m c') (T := T) (U := U) (xs := e.s) (ys := e.p) (by kernel_rfl) m4 n4 hne (by rw [k1, k2]; exact k3 _ _ _ _)
        rw [k1, k2] at this
        exact this
      · cases hg
  · cases hg
end Go.Proofs.YtjfmelmiegnmjaaGreatDoor
