/- The reference's Ahead, Rise (layer 17). Printed by gen_rf2.py. -/
import Derived.Test.YteljkfihmbddaaaRf1
import Derived.Deep.Cut
import Derived.Deep.CutBlock
import Derived.Deep.CutRange
set_option linter.unusedSimpArgs false
set_option linter.unusedVariables false
namespace Go.Proofs.Yteljkfihmbddaaa
open Go.RowKit Go.Pw
set_option linter.unusedVariables false

set_option maxRecDepth 100000 in
set_option maxHeartbeats 1600000 in
theorem ahead_l (u1 d1 u2 d2 : Int) (b : Bool) (hb : decide (u1 < u2 ∨ u1 = u2 ∧ d1 < d2) = b) (w : World) : Calls Try.prog 53 #[.agg #[.int .i64 u1, .int .i64 d1], .agg #[.int .i64 u2, .int .i64 d2]] w fun e w' => e = .returned (.bool b) ∧ Only w w' [] := by
  by_cases h1 : u1 < u2
  · have d1 : decide (u1 < u2) = true := by simpa using h1
    have d0 : b = true := by rw [← hb]; simp [h1]
    subst d0
    clear hb
    go_enter Try.func53, Try.ntmps53
    go_wp2_with fail
    go_ret
    exact ⟨rfl, (Only.alloc _ _ _).trans (Only.alloc _ _ _)⟩
  · have dd : decide (u1 < u2) = false := by simpa using h1
    by_cases h2 : u1 = u2
    · subst h2
      have db : b = decide (d1 < d2) := by rw [← hb]; simp
      rw [db]
      clear hb db
      go_enter Try.func53, Try.ntmps53
      go_wp2_with fail
      go_ret
      exact ⟨rfl, (Only.alloc _ _ _).trans (Only.alloc _ _ _)⟩
    · have d0 : b = false := by rw [← hb]; simp [h1, h2]
      subst d0
      have d2 : (u1 == u2) = false := by simpa using h2
      clear hb
      go_enter Try.func53, Try.ntmps53
      go_wp2_with fail
      go_ret
      exact ⟨rfl, (Only.alloc _ _ _).trans (Only.alloc _ _ _)⟩

def ahW (p q : Int × Int) : Bool := decide (p.1 < q.1 ∨ p.1 = q.1 ∧ p.2 < q.2)
def plW (l : List (Int × Int)) (p : Int × Int) : Nat := l.findIdx fun q => !ahW q p
def insW (l : List (Int × Int)) (p : Int × Int) : List (Int × Int) := l.take (plW l p) ++ p :: l.drop (plW l p)
def riseL (ws : List (Int × Int)) : List (Int × Int) := ws.foldl insW []
theorem plW_le (l : List (Int × Int)) (p : Int × Int) : plW l p ≤ l.length := List.findIdx_le_length
theorem insW_len (l : List (Int × Int)) (p : Int × Int) : (insW l p).length = l.length + 1 := by
  have := plW_le l p
  simp only [insW, List.length_append, List.length_take, List.length_cons, List.length_drop]
  omega
theorem plW_lt {l : List (Int × Int)} {p : Int × Int} {j : Nat} (h : j < plW l p) (hj : j < l.length) : ahW l[j] p = true := by
  have := List.not_of_lt_findIdx h
  simpa using this
theorem plW_at {l : List (Int × Int)} {p : Int × Int} (h : plW l p < l.length) : ahW l[plW l p] p = false := by
  have := List.findIdx_getElem (w := h)
  show ahW (l[List.findIdx (fun q => !ahW q p) l]'h) p = false
  simpa using this
theorem riseL_snoc (l : List (Int × Int)) (p : Int × Int) : riseL (l ++ [p]) = insW (riseL l) p := by simp [riseL]
theorem fold_len : ∀ (l acc : List (Int × Int)), (l.foldl insW acc).length = acc.length + l.length
  | [], acc => rfl
  | p :: l, acc => by rw [List.foldl_cons, fold_len l, insW_len, List.length_cons]; omega
theorem riseL_len (l : List (Int × Int)) : (riseL l).length = l.length := by rw [riseL, fold_len]; simp
theorem src_tailW {w : World} {g n c i : Nat} {e : TypeId} {xs : List Value} {size : Nat} (h : w.ownsRow 0 e size (.slice (some ⟨g, 0, none⟩) n c) n xs) (hi : i ≤ n) : Pw.Src w (.slice (some ⟨g, i * size, none⟩) (n - i) (c - i)) size (n - i) (xs.drop (i * size)) := by
  have hc := row_cap h
  obtain ⟨ao, c', he, k1, k2, k3, k4, k5⟩ := own_src h
  simp only [Value.slice.injEq] at he
  obtain ⟨rfl, _, rfl⟩ := he
  refine ⟨_, _, rfl, by omega, by omega, by rw [List.length_drop, k3, ← Nat.sub_mul], by simp, fun b hb j u hj => ?_⟩
  obtain rfl : b = ⟨g, i * size, none⟩ := by simpa using hb.symm
  have := k5 _ rfl (i * size + j) u (by rw [List.getElem?_drop] at hj; exact hj)
  rw [Addr.add_lit] at this ⊢
  rw [← this]
  congr 2
  omega
theorem src_zero (w : World) (size g o : Nat) : Pw.Src w (.slice (some ⟨g, o, none⟩) 0 0) size 0 [] := ⟨_, _, rfl, Nat.le_refl _, Nat.zero_le _, by simp, by simp, by simp⟩
theorem src_none (w : World) (size : Nat) : Pw.Src w (.slice none 0 0) size 0 [] := ⟨none, 0, rfl, Nat.le_refl _, Nat.zero_le _, by simp, fun _ => ⟨rfl, rfl⟩, by simp⟩

set_option maxRecDepth 100000 in
set_option maxHeartbeats 3200000 in
theorem rise_any (va : Value) (ws : List (Int × Int)) (w : World) (ha : Pw.Src w va 2 ws.length (fl wc ws)) (hl : ws.length ≤ 1000) : Calls Try.prog 45 #[va] w (Whos (riseL ws) w) := by
  obtain ⟨i0, hi, hz0, hz1, hz2⟩ := info_parts who_info
  obtain ⟨ap, ac, rfl, _⟩ := id ha
  have HA := fun (hp : 0 < ws.length) => src_rec wc_len (by decide) ha hp
  clear ha
  have s0 : Pw.Sep w w (row 30 2 (.slice none 0 0) 0 [] :: []) := (Sep.nil w).rown _ _
  go_enter Try.func45, Try.ntmps45
  go_wp2_with fail
  go_loopw [3, 4] (fun x y wr => ∃ (k : Nat) (ao : Option Addr) (c : Nat), x = .slice ao (riseL (ws.take k)).length c ∧ y = .int .i64 k ∧ k ≤ ws.length ∧ Pw.Sep w wr (row 30 2 (.slice ao (riseL (ws.take k)).length c) (riseL (ws.take k)).length (fl wc (riseL (ws.take k))) :: [])) (fun _ y _ => ws.length - (intOf y).toNat)
  case atStart => exact ⟨0, none, 0, rfl, rfl, Nat.zero_le _, s0⟩
  case round =>
    clear s0
    obtain ⟨k, ao, c, rfl, rfl, hk, sq⟩ := hrel
    by_cases hkl : k < ws.length
    · have d1 : decide ((k : Int) < ws.length) = true := by simpa using hkl
      obtain ⟨ga, oa, rfl, RA⟩ := HA (by omega)
      have HR : Hid (∀ w', Only w w' [] → w'.cell? ⟨ga, oa + k * 2, none⟩ = some (.int .i64 ws[k].1) ∧ w'.cell? ⟨ga, oa + k * 2 + 1, none⟩ = some (.int .i64 ws[k].2)) := fun w' o => ⟨RA w' o k hkl 0 _ rfl, RA w' o k hkl 1 _ rfl⟩
      have htk : Hid (riseL (ws.take (k + 1)) = insW (riseL (ws.take k)) ws[k]) := by
        show _ = _
        rw [List.take_succ_eq_append_getElem hkl, riseL_snoc]
      have hql : (riseL (ws.take k)).length ≤ 1000 := by rw [riseL_len, List.length_take]; omega
      clear RA HA
      generalize hp0 : ws[k] = p at *
      generalize hq0 : riseL (ws.take k) = q at *
      clear hp0 hq0
      have oQ := sq.only
      have hrow := (show World.ownsRow _ 0 30 2 (.slice ao q.length c) q.length (fl wc q) from sq.head)
      have HQ : Hid (∀ j (hj : j < q.length), ∃ g, ao = some ⟨g, 0, none⟩ ∧ ∀ w', Only wr w' [] → w'.cell? ⟨g, j * 2, none⟩ = some (.int .i64 q[j].1) ∧ w'.cell? ⟨g, j * 2 + 1, none⟩ = some (.int .i64 q[j].2)) := fun j hj => by
        obtain ⟨g, rfl, _⟩ := own_some hrow (by omega)
        refine ⟨g, rfl, fun w' o => ?_⟩
        have hr := own_only hrow o (fun _ _ => by simp)
        exact ⟨rec_cell wc_len hr hj 0 rfl, rec_cell wc_len hr hj 1 rfl⟩
      have hpl := plW_le q p
      go_wp2_with fail
      go_loopw [5] (fun x wj => ∃ j : Nat, x = .int .i64 j ∧ j ≤ plW q p ∧ Only wr wj []) (fun x _ => q.length - (intOf x).toNat)
      case atStart => exact ⟨0, rfl, Nat.zero_le _, Only.refl _ _⟩
      case round =>
        obtain ⟨j, rfl, hj, oJ⟩ := hrel
        have oD := oJ.trans (Only.drew wr [])
        go_upto_region 6 with fail
        go_cut [27] from 13 to 26 (fun u27 wx => u27 = .bool (decide (j < plW q p)) ∧ Only wr wx [])
        case first =>
          by_cases hjl : j < q.length
          · have d2 : decide ((j : Int) < q.length) = true := by simpa using hjl
            obtain ⟨g, rfl, HC⟩ := HQ.out j hjl
            replace HC := Lib.hid HC
            by_cases hlt : j < plW q p
            · have hah := Lib.hid (plW_lt hlt hjl)
              have dlt := Lib.hid (decide_eq_true hlt)
              clear hlt HQ hrow sq
              refine wp_region_held_drew (S := fun w' => Only wr.drew w' []) (by kernel_rfl) (Only.refl _ _) (fun hHeld => ?_)
              refine' wpAnyH_take (i := 0) (v := _) (op_at rfl) (by kernel_rfl) (by kernel_rfl) (by kernel_rfl) (fun _ _ _ h => h) (Or.inl ⟨by rfl, ?hy1⟩) (by assumption) ?rest1
              case hy1 =>
                intro w' hS
                go_simp
                try with_reducible rfl
              try simp only [Act.put, List.setIfInBounds_toArray, List.set_cons_zero, List.set_cons_succ]
              refine' wpAnyH_take (i := 1) (v := _) (op_at rfl) (by kernel_rfl) (by kernel_rfl) (by kernel_rfl) (fun _ _ _ h => h) (Or.inl ⟨by rfl, ?hy2⟩) (by assumption) ?rest2
              case hy2 =>
                intro w' hS
                go_simp
                try with_reducible rfl
              try simp only [Act.put, List.setIfInBounds_toArray, List.set_cons_zero, List.set_cons_succ]
              refine' wpAnyH_take (i := 2) (v := _) (op_at rfl) (by kernel_rfl) (by kernel_rfl) (by kernel_rfl) (fun _ _ _ h => h) (Or.inl ⟨by rfl, ?hy3⟩) (by assumption) ?rest3
              case hy3 =>
                intro w' hS
                go_simp
                try with_reducible rfl
              try simp only [Act.put, List.setIfInBounds_toArray, List.set_cons_zero, List.set_cons_succ]
              refine' wpAnyH_take (i := 3) (v := _) (op_at rfl) (by kernel_rfl) (by kernel_rfl) (by kernel_rfl) (fun _ _ _ h => h) (Or.inl ⟨by rfl, ?hy4⟩) (by assumption) ?rest4
              case hy4 =>
                intro w' hS
                go_simp
                try with_reducible rfl
              try simp only [Act.put, List.setIfInBounds_toArray, List.set_cons_zero, List.set_cons_succ]
              refine' wpAnyH_take (i := 4) (v := _) (op_at rfl) (by kernel_rfl) (by kernel_rfl) (by kernel_rfl) (fun _ _ _ h => h) (Or.inl ⟨by rfl, ?hy5⟩) (by assumption) ?rest5
              case hy5 =>
                intro w' hS
                go_simp
                try with_reducible rfl
              try simp only [Act.put, List.setIfInBounds_toArray, List.set_cons_zero, List.set_cons_succ]
              refine' wpAnyH_take (i := 5) (v := _) (op_at rfl) (by kernel_rfl) (by kernel_rfl) (by kernel_rfl) (fun _ _ _ h => h) (Or.inl ⟨by rfl, ?hy6⟩) (by assumption) ?rest6
              case hy6 =>
                intro w' hS
                go_simp
                try with_reducible rfl
              try simp only [Act.put, List.setIfInBounds_toArray, List.set_cons_zero, List.set_cons_succ]
              refine' wpAnyH_take (i := 6) (v := _) (op_at rfl) (by kernel_rfl) (by kernel_rfl) (by kernel_rfl) (fun _ _ _ h => h) (Or.inl ⟨by rfl, ?hy7⟩) (by assumption) ?rest7
              case hy7 =>
                intro w' hS
                go_simp
                try with_reducible rfl
              try simp only [Act.put, List.setIfInBounds_toArray, List.set_cons_zero, List.set_cons_succ]
              refine' wpAnyH_take (i := 7) (v := _) (op_at rfl) (by kernel_rfl) (by kernel_rfl) (by kernel_rfl) (fun _ _ _ h => h) (Or.inl ⟨by rfl, ?hy8⟩) (by assumption) ?rest8
              case hy8 =>
                intro w' hS
                go_simp
                try with_reducible rfl
              try simp only [Act.put, List.setIfInBounds_toArray, List.set_cons_zero, List.set_cons_succ]
              refine' wpAnyH_take (i := 8) (v := _) (op_at rfl) (by kernel_rfl) (by kernel_rfl) (by kernel_rfl) (fun _ _ _ h => h) (Or.inl ⟨by rfl, ?hy9⟩) (by assumption) ?rest9
              case hy9 =>
                intro w' hS
                obtain ⟨q0, q1⟩ := HC.out w' (oD.trans hS)
                go_simp
                try with_reducible rfl
              try simp only [Act.put, List.setIfInBounds_toArray, List.set_cons_zero, List.set_cons_succ]
              refine' wpAnyH_take (i := 9) (v := _) (op_at rfl) (by kernel_rfl) (by kernel_rfl) (by kernel_rfl) (fun _ _ _ h => h) (Or.inl ⟨by rfl, ?hy10⟩) (by assumption) ?rest10
              case hy10 =>
                intro w' hS
                go_simp
                try with_reducible rfl
              try simp only [Act.put, List.setIfInBounds_toArray, List.set_cons_zero, List.set_cons_succ]
              refine' wpAnyH_take (i := 10) (v := _) (op_at rfl) (by kernel_rfl) (by kernel_rfl) (by kernel_rfl) (fun _ _ _ h => h) (Or.inl ⟨by rfl, ?hy11⟩) (by assumption) ?rest11
              case hy11 =>
                intro w' hS
                go_simp
                try with_reducible rfl
              try simp only [Act.put, List.setIfInBounds_toArray, List.set_cons_zero, List.set_cons_succ]
              refine' wpAnyH_take (i := 11) (v := _) (op_at rfl) (by kernel_rfl) (by kernel_rfl) (by kernel_rfl) (fun _ _ _ h => h) (Or.inl ⟨by rfl, ?hy12⟩) (by assumption) ?rest12
              case hy12 =>
                intro w' hS
                go_simp
                try with_reducible rfl
              try simp only [Act.put, List.setIfInBounds_toArray, List.set_cons_zero, List.set_cons_succ]
              refine' wpAnyH_take (i := 12) (v := _) (op_at rfl) (by kernel_rfl) (by kernel_rfl) (by kernel_rfl) (fun _ _ _ h => h) (Or.inl ⟨by rfl, ?hy13⟩) (by assumption) ?rest13
              case hy13 =>
                intro w' hS
                obtain ⟨p0, p1⟩ := HR.out w' (oQ.trans (oD.trans hS))
                go_simp
                try with_reducible rfl
              try simp only [Act.put, List.setIfInBounds_toArray, List.set_cons_zero, List.set_cons_succ]
              refine wpAnyH_ready (rs := [13]) (by kernel_rfl) (by simp) (AllReadyH.cons (op_at rfl) (fun K hK => ?_) AllReadyH.nil)
              go_simp
              refine (ahead_l q[j].1 q[j].2 p.1 p.2 true (by simpa [ahW] using hah.out) _).mono fun e w3 hq => ?_
              obtain ⟨rfl, o3⟩ := hq
              go_wp2_with fail
              refine hK.out _ _ o3 (fun hHeld => ?_)
              clear hK K
              try simp only [Act.put, List.setIfInBounds_toArray, List.set_cons_zero, List.set_cons_succ]
              refine' wpAnyH_take (i := 14) (v := _) (op_at rfl) (by kernel_rfl) (by kernel_rfl) (by kernel_rfl) (fun _ _ _ h => h) (Or.inl ⟨by rfl, ?hy14⟩) (by assumption) ?rest14
              case hy14 =>
                intro w' hS
                go_simp
                try with_reducible rfl
              try simp only [Act.put, List.setIfInBounds_toArray, List.set_cons_zero, List.set_cons_succ]
              refine wpAnyH_done (by kernel_rfl) ?_ _
              go_wp2_with fail
              go_meet
              case rel => exact ⟨by rw [dlt.out], (Only.drew wr []).trans o3⟩
            · obtain rfl : j = plW q p := by omega
              have hah := Lib.hid (plW_at hjl)
              have dlt := Lib.hid (decide_eq_false hlt)
              clear hlt HQ hrow sq
              refine wp_region_held_drew (S := fun w' => Only wr.drew w' []) (by kernel_rfl) (Only.refl _ _) (fun hHeld => ?_)
              refine' wpAnyH_take (i := 0) (v := _) (op_at rfl) (by kernel_rfl) (by kernel_rfl) (by kernel_rfl) (fun _ _ _ h => h) (Or.inl ⟨by rfl, ?hy15⟩) (by assumption) ?rest15
              case hy15 =>
                intro w' hS
                go_simp
                try with_reducible rfl
              try simp only [Act.put, List.setIfInBounds_toArray, List.set_cons_zero, List.set_cons_succ]
              refine' wpAnyH_take (i := 1) (v := _) (op_at rfl) (by kernel_rfl) (by kernel_rfl) (by kernel_rfl) (fun _ _ _ h => h) (Or.inl ⟨by rfl, ?hy16⟩) (by assumption) ?rest16
              case hy16 =>
                intro w' hS
                go_simp
                try with_reducible rfl
              try simp only [Act.put, List.setIfInBounds_toArray, List.set_cons_zero, List.set_cons_succ]
              refine' wpAnyH_take (i := 2) (v := _) (op_at rfl) (by kernel_rfl) (by kernel_rfl) (by kernel_rfl) (fun _ _ _ h => h) (Or.inl ⟨by rfl, ?hy17⟩) (by assumption) ?rest17
              case hy17 =>
                intro w' hS
                go_simp
                try with_reducible rfl
              try simp only [Act.put, List.setIfInBounds_toArray, List.set_cons_zero, List.set_cons_succ]
              refine' wpAnyH_take (i := 3) (v := _) (op_at rfl) (by kernel_rfl) (by kernel_rfl) (by kernel_rfl) (fun _ _ _ h => h) (Or.inl ⟨by rfl, ?hy18⟩) (by assumption) ?rest18
              case hy18 =>
                intro w' hS
                go_simp
                try with_reducible rfl
              try simp only [Act.put, List.setIfInBounds_toArray, List.set_cons_zero, List.set_cons_succ]
              refine' wpAnyH_take (i := 4) (v := _) (op_at rfl) (by kernel_rfl) (by kernel_rfl) (by kernel_rfl) (fun _ _ _ h => h) (Or.inl ⟨by rfl, ?hy19⟩) (by assumption) ?rest19
              case hy19 =>
                intro w' hS
                go_simp
                try with_reducible rfl
              try simp only [Act.put, List.setIfInBounds_toArray, List.set_cons_zero, List.set_cons_succ]
              refine' wpAnyH_take (i := 5) (v := _) (op_at rfl) (by kernel_rfl) (by kernel_rfl) (by kernel_rfl) (fun _ _ _ h => h) (Or.inl ⟨by rfl, ?hy20⟩) (by assumption) ?rest20
              case hy20 =>
                intro w' hS
                go_simp
                try with_reducible rfl
              try simp only [Act.put, List.setIfInBounds_toArray, List.set_cons_zero, List.set_cons_succ]
              refine' wpAnyH_take (i := 6) (v := _) (op_at rfl) (by kernel_rfl) (by kernel_rfl) (by kernel_rfl) (fun _ _ _ h => h) (Or.inl ⟨by rfl, ?hy21⟩) (by assumption) ?rest21
              case hy21 =>
                intro w' hS
                go_simp
                try with_reducible rfl
              try simp only [Act.put, List.setIfInBounds_toArray, List.set_cons_zero, List.set_cons_succ]
              refine' wpAnyH_take (i := 7) (v := _) (op_at rfl) (by kernel_rfl) (by kernel_rfl) (by kernel_rfl) (fun _ _ _ h => h) (Or.inl ⟨by rfl, ?hy22⟩) (by assumption) ?rest22
              case hy22 =>
                intro w' hS
                go_simp
                try with_reducible rfl
              try simp only [Act.put, List.setIfInBounds_toArray, List.set_cons_zero, List.set_cons_succ]
              refine' wpAnyH_take (i := 8) (v := _) (op_at rfl) (by kernel_rfl) (by kernel_rfl) (by kernel_rfl) (fun _ _ _ h => h) (Or.inl ⟨by rfl, ?hy23⟩) (by assumption) ?rest23
              case hy23 =>
                intro w' hS
                obtain ⟨q0, q1⟩ := HC.out w' (oD.trans hS)
                go_simp
                try with_reducible rfl
              try simp only [Act.put, List.setIfInBounds_toArray, List.set_cons_zero, List.set_cons_succ]
              refine' wpAnyH_take (i := 9) (v := _) (op_at rfl) (by kernel_rfl) (by kernel_rfl) (by kernel_rfl) (fun _ _ _ h => h) (Or.inl ⟨by rfl, ?hy24⟩) (by assumption) ?rest24
              case hy24 =>
                intro w' hS
                go_simp
                try with_reducible rfl
              try simp only [Act.put, List.setIfInBounds_toArray, List.set_cons_zero, List.set_cons_succ]
              refine' wpAnyH_take (i := 10) (v := _) (op_at rfl) (by kernel_rfl) (by kernel_rfl) (by kernel_rfl) (fun _ _ _ h => h) (Or.inl ⟨by rfl, ?hy25⟩) (by assumption) ?rest25
              case hy25 =>
                intro w' hS
                go_simp
                try with_reducible rfl
              try simp only [Act.put, List.setIfInBounds_toArray, List.set_cons_zero, List.set_cons_succ]
              refine' wpAnyH_take (i := 11) (v := _) (op_at rfl) (by kernel_rfl) (by kernel_rfl) (by kernel_rfl) (fun _ _ _ h => h) (Or.inl ⟨by rfl, ?hy26⟩) (by assumption) ?rest26
              case hy26 =>
                intro w' hS
                go_simp
                try with_reducible rfl
              try simp only [Act.put, List.setIfInBounds_toArray, List.set_cons_zero, List.set_cons_succ]
              refine' wpAnyH_take (i := 12) (v := _) (op_at rfl) (by kernel_rfl) (by kernel_rfl) (by kernel_rfl) (fun _ _ _ h => h) (Or.inl ⟨by rfl, ?hy27⟩) (by assumption) ?rest27
              case hy27 =>
                intro w' hS
                obtain ⟨p0, p1⟩ := HR.out w' (oQ.trans (oD.trans hS))
                go_simp
                try with_reducible rfl
              try simp only [Act.put, List.setIfInBounds_toArray, List.set_cons_zero, List.set_cons_succ]
              refine wpAnyH_ready (rs := [13]) (by kernel_rfl) (by simp) (AllReadyH.cons (op_at rfl) (fun K hK => ?_) AllReadyH.nil)
              go_simp
              refine (ahead_l q[plW q p].1 q[plW q p].2 p.1 p.2 false (by simpa [ahW] using hah.out) _).mono fun e w3 hq => ?_
              obtain ⟨rfl, o3⟩ := hq
              go_wp2_with fail
              refine hK.out _ _ o3 (fun hHeld => ?_)
              clear hK K
              try simp only [Act.put, List.setIfInBounds_toArray, List.set_cons_zero, List.set_cons_succ]
              refine' wpAnyH_take (i := 14) (v := _) (op_at rfl) (by kernel_rfl) (by kernel_rfl) (by kernel_rfl) (fun _ _ _ h => h) (Or.inl ⟨by rfl, ?hy28⟩) (by assumption) ?rest28
              case hy28 =>
                intro w' hS
                go_simp
                try with_reducible rfl
              try simp only [Act.put, List.setIfInBounds_toArray, List.set_cons_zero, List.set_cons_succ]
              refine wpAnyH_done (by kernel_rfl) ?_ _
              go_wp2_with fail
              go_meet
              case rel => exact ⟨by rw [dlt.out], (Only.drew wr []).trans o3⟩
          · have d2 : decide ((j : Int) < q.length) = false := by simpa using hjl
            have dlt := Lib.hid (decide_eq_false (show ¬ j < plW q p by omega))
            clear HQ hrow sq
            refine wp_region_held_drew (S := fun w' => Only wr.drew w' []) (by kernel_rfl) (Only.refl _ _) (fun hHeld => ?_)
            refine' wpAnyH_take (i := 0) (v := _) (op_at rfl) (by kernel_rfl) (by kernel_rfl) (by kernel_rfl) (fun _ _ _ h => h) (Or.inl ⟨by rfl, ?hy29⟩) (by assumption) ?rest29
            case hy29 =>
              intro w' hS
              go_simp
              try with_reducible rfl
            try simp only [Act.put, List.setIfInBounds_toArray, List.set_cons_zero, List.set_cons_succ]
            refine' wpAnyH_take (i := 1) (v := _) (op_at rfl) (by kernel_rfl) (by kernel_rfl) (by kernel_rfl) (fun _ _ _ h => h) (Or.inl ⟨by rfl, ?hy30⟩) (by assumption) ?rest30
            case hy30 =>
              intro w' hS
              go_simp
              try with_reducible rfl
            try simp only [Act.put, List.setIfInBounds_toArray, List.set_cons_zero, List.set_cons_succ]
            refine' wpAnyH_take (i := 2) (v := _) (op_at rfl) (by kernel_rfl) (by kernel_rfl) (by kernel_rfl) (fun _ _ _ h => h) (Or.inl ⟨by rfl, ?hy31⟩) (by assumption) ?rest31
            case hy31 =>
              intro w' hS
              go_simp
              try with_reducible rfl
            try simp only [Act.put, List.setIfInBounds_toArray, List.set_cons_zero, List.set_cons_succ]
            refine' wpAnyH_take (i := 3) (v := _) (op_at rfl) (by kernel_rfl) (by kernel_rfl) (by kernel_rfl) (fun _ _ _ h => h) (Or.inl ⟨by rfl, ?hy32⟩) (by assumption) ?rest32
            case hy32 =>
              intro w' hS
              go_simp
              try with_reducible rfl
            try simp only [Act.put, List.setIfInBounds_toArray, List.set_cons_zero, List.set_cons_succ]
            refine' wpAnyH_take (i := 4) (v := _) (op_at rfl) (by kernel_rfl) (by kernel_rfl) (by kernel_rfl) (fun _ _ _ h => h) (Or.inl ⟨by rfl, ?hy33⟩) (by assumption) ?rest33
            case hy33 =>
              intro w' hS
              go_simp
              try with_reducible rfl
            try simp only [Act.put, List.setIfInBounds_toArray, List.set_cons_zero, List.set_cons_succ]
            refine wpAnyH_take (i := 5) (v := undef) (op_at rfl) (by kernel_rfl) (by kernel_rfl) (by kernel_rfl) (fun _ _ _ h => h) (Or.inr ⟨by rfl, rfl⟩) (by assumption) ?_
            try simp only [Act.put, List.setIfInBounds_toArray, List.set_cons_zero, List.set_cons_succ]
            refine wpAnyH_take (i := 6) (v := undef) (op_at rfl) (by kernel_rfl) (by kernel_rfl) (by kernel_rfl) (fun _ _ _ h => h) (Or.inr ⟨by rfl, rfl⟩) (by assumption) ?_
            try simp only [Act.put, List.setIfInBounds_toArray, List.set_cons_zero, List.set_cons_succ]
            refine wpAnyH_take (i := 7) (v := undef) (op_at rfl) (by kernel_rfl) (by kernel_rfl) (by kernel_rfl) (fun _ _ _ h => h) (Or.inr ⟨by rfl, rfl⟩) (by assumption) ?_
            try simp only [Act.put, List.setIfInBounds_toArray, List.set_cons_zero, List.set_cons_succ]
            refine wpAnyH_take (i := 8) (v := undef) (op_at rfl) (by kernel_rfl) (by kernel_rfl) (by kernel_rfl) (fun _ _ _ h => h) (Or.inr ⟨by rfl, rfl⟩) (by assumption) ?_
            try simp only [Act.put, List.setIfInBounds_toArray, List.set_cons_zero, List.set_cons_succ]
            refine wpAnyH_take (i := 9) (v := undef) (op_at rfl) (by kernel_rfl) (by kernel_rfl) (by kernel_rfl) (fun _ _ _ h => h) (Or.inr ⟨by rfl, rfl⟩) (by assumption) ?_
            try simp only [Act.put, List.setIfInBounds_toArray, List.set_cons_zero, List.set_cons_succ]
            refine wpAnyH_take (i := 10) (v := undef) (op_at rfl) (by kernel_rfl) (by kernel_rfl) (by kernel_rfl) (fun _ _ _ h => h) (Or.inr ⟨by rfl, rfl⟩) (by assumption) ?_
            try simp only [Act.put, List.setIfInBounds_toArray, List.set_cons_zero, List.set_cons_succ]
            refine wpAnyH_take (i := 11) (v := undef) (op_at rfl) (by kernel_rfl) (by kernel_rfl) (by kernel_rfl) (fun _ _ _ h => h) (Or.inr ⟨by rfl, rfl⟩) (by assumption) ?_
            try simp only [Act.put, List.setIfInBounds_toArray, List.set_cons_zero, List.set_cons_succ]
            refine wpAnyH_take (i := 12) (v := undef) (op_at rfl) (by kernel_rfl) (by kernel_rfl) (by kernel_rfl) (fun _ _ _ h => h) (Or.inr ⟨by rfl, rfl⟩) (by assumption) ?_
            try simp only [Act.put, List.setIfInBounds_toArray, List.set_cons_zero, List.set_cons_succ]
            refine wpAnyH_take (i := 13) (v := undef) (op_at rfl) (by kernel_rfl) (by kernel_rfl) (by kernel_rfl) (fun _ _ _ h => h) (Or.inr ⟨by rfl, rfl⟩) (by assumption) ?_
            try simp only [Act.put, List.setIfInBounds_toArray, List.set_cons_zero, List.set_cons_succ]
            refine' wpAnyH_take (i := 14) (v := _) (op_at rfl) (by kernel_rfl) (by kernel_rfl) (by kernel_rfl) (fun _ _ _ h => h) (Or.inl ⟨by rfl, ?hy43⟩) (by assumption) ?rest43
            case hy43 =>
              intro w' hS
              go_simp
              try with_reducible rfl
            try simp only [Act.put, List.setIfInBounds_toArray, List.set_cons_zero, List.set_cons_succ]
            refine wpAnyH_done (by kernel_rfl) ?_ _
            go_wp2_with fail
            go_meet
            case rel => exact ⟨by rw [dlt.out], Only.drew wr []⟩
        case rest =>
        obtain ⟨rfl, oX⟩ := hcut
        obtain ⟨wX, rfl⟩ : ∃ z, z = wc := ⟨_, rfl⟩
        by_cases hlt : j < plW q p
        · rw [decide_eq_true hlt]
          go_wp2_with fail
          go_roundw
          case measure => simp [intOf]; omega
          case rel => exact ⟨j + 1, by simp, by omega, oJ.trans oX⟩
        · rw [decide_eq_false hlt]
          obtain rfl : j = plW q p := by omega
          have sX := sq.quiet (oJ.trans oX)
          clear HQ hrow sq oJ oX oD hlt
          have hI : Hid (fl wc (q.take (plW q p)) ++ wc p ++ fl wc (q.drop (plW q p)) = fl wc (insW q p) ∧ (insW q p).length = q.length + 1) := ⟨by rw [insW, fl_app, fl_cons, List.append_assoc], insW_len q p⟩
          rcases (show World.ownsRow _ 0 30 2 (.slice ao q.length c) q.length (fl wc q) from sX.head).2 with ⟨he, h0⟩ | ⟨g, cap, cur, he, _, _, hnc, _⟩
          · simp only [Value.slice.injEq] at he
            obtain ⟨rfl, _, rfl⟩ := he
            have hq0 : q = [] := List.eq_nil_of_length_eq_zero h0
            subst hq0
            rw [show plW [] p = 0 from rfl]
            replace hI : Hid (wc p = fl wc (insW [] p) ∧ (insW [] p).length = 1) := ⟨by simp [insW, plW, fl], rfl⟩
            have sN := sX.rown 30 2
            clear sX
            go_wp2_with (first
              | (at_builtin; refine wpList_append_sep rfl _ _ 31 rfl 30 i0 _ 2 16 Try.underlying31 hi hz0 hz1 hz2 rfl (by decide) (.slice none 0 0) 0 [] rfl sN (.slice none 0 0) 0 (fl wc []) rfl (src_none _ _) (fl_one wc_one _) (by unfold maxLen; omega) (by omega) ?_; intro a7 c7 w7 o7 s7; rw [Nat.zero_add] at s7; have hr_ := HR.out w7 s7.only; have p0 := hr_.1; have p1 := hr_.2; clear hr_ sN)
              | (refine wpList_buildSlice_one rfl 31 _ rfl 30 i0 _ (wc p) rfl Try.underlying31 hi hz0 (by rw [hz1, wc_len]) (by rw [wc_len]; rfl) (by rw [wc_len]; decide) (by rw [wc_len]; decide) ?_; intro Y w8 o8 hYl hY; have s8 := s7.quiet o8; clear s7 o8 p0 p1 o7)
              | (at_builtin; refine wpList_append_sep rfl _ _ 31 rfl 30 i0 _ 2 16 Try.underlying31 hi hz0 hz1 hz2 rfl (by decide) (.slice a7 (0) c7) (0) _ rfl s8 _ 1 (wc p) rfl (src_blk hY (by rw [wc_len])) (wc_one p) (by unfold maxLen; omega) (by omega) ?_; intro a9 c9 w9 o9 s9; have hQ := s9; clear s8 o9 hY hYl)
              | (have hQ2 := hQ; go_loud (at_builtin; refine wpList_append_sep rfl _ _ 31 rfl 30 i0 _ 2 16 Try.underlying31 hi hz0 hz1 hz2 rfl (by decide) (.slice a9 (0 + 1) c9) (0 + 1) _ rfl s9 (.slice none 0 0) 0 (fl wc []) rfl (src_none _ _) (fl_one wc_one _) (by unfold maxLen; omega) (by omega) ?_; intro a5 c5 w5 o5 s5; clear s9 hQ hQ2 o5)))
            have eN : 0 + 1 + 0 = 1 := by omega
            first
              | rw [eN] at s5 ⊢
              | rw [eN] at s5
            refine ⟨⟨k + 1, a5, c5, by rw [htk.out, hI.out.2]; try (congr 1; omega), by simp, by omega, ?_⟩, by simp [intOf]; omega⟩
            rw [htk.out, hI.out.2, ← hI.out.1]
            have s6 := s5.sel 2 [0]
            simpa [fl] using s6

          · simp only [Value.slice.injEq, true_and] at he
            obtain ⟨rfl, rfl⟩ := he
            have hplI : (0 : Int) ≤ (plW q p : Int) ∧ (plW q p : Int) ≤ (c : Int) := by omega
            generalize hpq : plW q p = pl at *
            clear hpq
            by_cases hcp : c = pl
            · subst hcp
              obtain rfl : c = q.length := by omega
              have sN := sX.rown 30 2
              clear sX
              go_wp2_with (first
                | (at_builtin; refine wpList_append_sep rfl _ _ 31 rfl 30 i0 _ 2 16 Try.underlying31 hi hz0 hz1 hz2 rfl (by decide) (.slice none 0 0) 0 [] rfl sN _ q.length (fl wc (q.take q.length)) rfl ((by have hh := row_head (show World.ownsRow _ 0 30 2 (.slice (some ⟨g, 0, none⟩) q.length q.length) q.length (fl wc q) from (sN.sel 2 [1]).head) hpl; rw [fl_take wc_len] at hh; exact own_src hh)) (fl_one wc_one _) (by unfold maxLen; omega) (by omega) ?_; intro a7 c7 w7 o7 s7; rw [Nat.zero_add] at s7; have hr_ := HR.out w7 s7.only; have p0 := hr_.1; have p1 := hr_.2; clear hr_ sN)
                | (refine wpList_buildSlice_one rfl 31 _ rfl 30 i0 _ (wc p) rfl Try.underlying31 hi hz0 (by rw [hz1, wc_len]) (by rw [wc_len]; rfl) (by rw [wc_len]; decide) (by rw [wc_len]; decide) ?_; intro Y w8 o8 hYl hY; have s8 := s7.quiet o8; clear s7 o8 p0 p1 o7)
                | (at_builtin; refine wpList_append_sep rfl _ _ 31 rfl 30 i0 _ 2 16 Try.underlying31 hi hz0 hz1 hz2 rfl (by decide) (.slice a7 (q.length) c7) (q.length) _ rfl s8 _ 1 (wc p) rfl (src_blk hY (by rw [wc_len])) (wc_one p) (by unfold maxLen; omega) (by omega) ?_; intro a9 c9 w9 o9 s9; have hQ := s9; clear s8 o9 hY hYl)
                | (have hQ2 := hQ; go_loud (at_builtin; refine wpList_append_sep rfl _ _ 31 rfl 30 i0 _ 2 16 Try.underlying31 hi hz0 hz1 hz2 rfl (by decide) (.slice a9 (q.length + 1) c9) (q.length + 1) _ rfl s9 _ 0 [] rfl (src_zero _ _ _ _) (by simp) (by unfold maxLen; omega) (by omega) ?_; intro a5 c5 w5 o5 s5; clear s9 hQ hQ2 o5)))
              have eN : q.length + 1 + 0 = q.length + 1 := by omega
              first
                | rw [eN] at s5 ⊢
                | rw [eN] at s5
              refine ⟨⟨k + 1, a5, c5, by rw [htk.out, hI.out.2]; try (congr 1; omega), by simp, by omega, ?_⟩, by simp [intOf]; omega⟩
              rw [htk.out, hI.out.2, ← hI.out.1]
              have s6 := s5.sel 2 [0]
              simpa [fl] using s6

            ·
              have sN := sX.rown 30 2
              clear sX
              go_wp2_with (first
                | (at_builtin; refine wpList_append_sep rfl _ _ 31 rfl 30 i0 _ 2 16 Try.underlying31 hi hz0 hz1 hz2 rfl (by decide) (.slice none 0 0) 0 [] rfl sN _ pl (fl wc (q.take pl)) rfl ((by have hh := row_head (show World.ownsRow _ 0 30 2 (.slice (some ⟨g, 0, none⟩) q.length c) q.length (fl wc q) from (sN.sel 2 [1]).head) hpl; rw [fl_take wc_len] at hh; exact own_src hh)) (fl_one wc_one _) (by unfold maxLen; omega) (by omega) ?_; intro a7 c7 w7 o7 s7; rw [Nat.zero_add] at s7; have hr_ := HR.out w7 s7.only; have p0 := hr_.1; have p1 := hr_.2; clear hr_ sN)
                | (refine wpList_buildSlice_one rfl 31 _ rfl 30 i0 _ (wc p) rfl Try.underlying31 hi hz0 (by rw [hz1, wc_len]) (by rw [wc_len]; rfl) (by rw [wc_len]; decide) (by rw [wc_len]; decide) ?_; intro Y w8 o8 hYl hY; have s8 := s7.quiet o8; clear s7 o8 p0 p1 o7)
                | (at_builtin; refine wpList_append_sep rfl _ _ 31 rfl 30 i0 _ 2 16 Try.underlying31 hi hz0 hz1 hz2 rfl (by decide) (.slice a7 (pl) c7) (pl) _ rfl s8 _ 1 (wc p) rfl (src_blk hY (by rw [wc_len])) (wc_one p) (by unfold maxLen; omega) (by omega) ?_; intro a9 c9 w9 o9 s9; have hQ := s9; clear s8 o9 hY hYl)
                | (have hQ2 := hQ; go_loud (at_builtin; refine wpList_append_sep rfl _ _ 31 rfl 30 i0 _ 2 16 Try.underlying31 hi hz0 hz1 hz2 rfl (by decide) (.slice a9 (pl + 1) c9) (pl + 1) _ rfl s9 _ (q.length - pl) (fl wc (q.drop pl)) rfl ((by have hh := src_tailW (show World.ownsRow _ 0 30 2 (.slice (some ⟨g, 0, none⟩) q.length c) q.length (fl wc q) from (s9.sel 2 [1]).head) hpl; rw [fl_drop wc_len] at hh; exact hh)) (fl_one wc_one _) (by unfold maxLen; omega) (by omega) ?_; intro a5 c5 w5 o5 s5; clear s9 hQ hQ2 o5)))
              have eN : pl + 1 + (q.length - pl) = q.length + 1 := by omega
              first
                | rw [eN] at s5 ⊢
                | rw [eN] at s5
              refine ⟨⟨k + 1, a5, c5, by rw [htk.out, hI.out.2]; try (congr 1; omega), by simp, by omega, ?_⟩, by simp [intOf]; omega⟩
              rw [htk.out, hI.out.2, ← hI.out.1]
              have s6 := s5.sel 2 [0]
              simpa [fl] using s6

    · obtain rfl : k = ws.length := by omega
      have d1 : decide ((ws.length : Int) < ws.length) = false := by simp
      rw [List.take_length] at sq
      rw [List.take_length]
      clear HA
      go_wp2_with fail
      go_ret
      exact ⟨ao, c, rfl, sq⟩
end Go.Proofs.Yteljkfihmbddaaa
