/- slices.IndexFunc, slices.DeleteFunc with a closure. Printed by gen_del.py. -/
import Derived.Test.YtdlbkdnpbcpjfaaPb
import Derived.Test.YtdlbkdnpbcpjfaaIns
import Derived.Test.YtdlbkdnpbcpjfaaInstR
import Derived.Test.YtdlbkdnpbcpjfaaPa
set_option linter.unusedSimpArgs false
set_option linter.unusedVariables false
namespace Go.Proofs.Ytdlbkdnpbcpjfaa
open Go.RowKit Go.Pw Go.Pw.Fl
set_option linter.unusedVariables false

/-- The closure of Drop: it captured the blocks of now, long. -/
abbrev dropf (Nb Lb : Nat) : Value := .func (.func 31) #[] #[.pointer (some ⟨Nb, 0, none⟩), .pointer (some ⟨Lb, 0, none⟩)]
/-- Is it dropped? -/
def stale (now long : Nat) (r : Re) : Bool := r.st && overV now r.t long

set_option maxRecDepth 100000 in
set_option maxHeartbeats 800000 in
theorem rclos_any (Nb Lb now long : Nat) (xu xd : Int) (a1 : Option Addr) (n1 c1 : Nat) (a2 : Option Addr) (n2 c2 : Nat) (q : Option Addr) (st : Bool) (t : Nat) (w : World) (h : (two (blk Nb [.float .f64 now] 22) (blk Lb [.float .f64 long] 22)).ok w) :
    Calls Try.prog 31 #[.agg #[.int .i64 xu, .int .i64 xd, .slice a1 n1 c1, .slice a2 n2 c2, .pointer q, .bool st, .float .f64 t], .pointer (some ⟨Nb, 0, none⟩), .pointer (some ⟨Lb, 0, none⟩)] w fun e w' => e = .returned (.bool (stale now long ⟨xu, xd, a1, n1, c1, a2, n2, c2, q, st, t⟩)) ∧ Only w w' [] := by
  have hn : w.cell? ⟨Nb, 0, none⟩ = some (.float .f64 now) := cell_of_one h.1
  have hl : w.cell? ⟨Lb, 0, none⟩ = some (.float .f64 long) := cell_of_one h.2.1
  have hna : ∀ o, (w.alloc o).cell? ⟨Nb, 0, none⟩ = some (.float .f64 now) := cell_al hn
  have hla : ∀ o, (w.alloc o).cell? ⟨Lb, 0, none⟩ = some (.float .f64 long) := cell_al hl
  clear h
  cases st with
  | false =>
    go_enter Try.func31, Try.ntmps31
    go_wp2_with fail
    go_ret
    exact ⟨rfl, Only.alloc _ _ _⟩
  | true =>
    go_enter Try.func31, Try.ntmps31
    go_wp2_with fail
    refine (over_any now t long _).mono ?_
    rintro e w1 ⟨rfl, o1⟩
    go_wp2_with fail
    go_ret
    exact ⟨rfl, (Only.alloc _ _ _).trans o1⟩

def rfi (now long : Nat) (l : List Re) : Nat := l.findIdx fun x => stale now long x
def rfiR (now long : Nat) (l : List Re) : Int := if rfi now long l < l.length then rfi now long l else -1

set_option maxRecDepth 100000 in
set_option maxHeartbeats 3200000 in
theorem rindex_any {w0 : World} {rs : List Res} (Nb Lb now long : Nat) (v : Value) (l : List Re) (w : World) (h : Sep w0 w (row 36 7 v l.length (fl rc l) :: two (blk Nb [.float .f64 now] 22) (blk Lb [.float .f64 long] 22) :: rs)) (hl : l.length ≤ 1000000) :
    Calls Try.prog 61 #[v, dropf Nb Lb] w fun e w' => e = .returned (.int .i64 (rfiR now long l)) ∧ Only w w' [] := by
  obtain ⟨ao, c, rfl⟩ := own_slice (show w.ownsRow 0 _ 7 v l.length (fl rc l) from h.head)
  go_enter Try.func61, Try.ntmps61
  go_wp2_with fail
  go_loopw [8] (fun i wr => ∃ k : Nat, i = .int .i64 k ∧ k ≤ l.length ∧ (∀ j (hj : j < k), ∀ x, l[j]? = some x → stale now long x = false) ∧ Only w wr []) (fun i _ => l.length - (intOf i).toNat)
  case atStart => exact ⟨0, rfl, Nat.zero_le _, fun j hj => by omega, Only.refl _ _⟩
  case round =>
    obtain ⟨k, rfl, hk, hq, ho⟩ := hrel
    have hq := Lib.hid hq
    by_cases hkl : k < l.length
    · have hs := h.quiet ho
      have hrow : wr.ownsRow 0 36 7 (.slice ao l.length c) l.length (fl rc l) := hs.head
      have hN : (two (blk Nb [.float .f64 now] 22) (blk Lb [.float .f64 long] 22)).ok wr := hs.tail.head
      obtain ⟨g, rfl, _⟩ := own_some hrow (by omega)
      have hit := rec_at hrow hkl
      have hlk : l[k]? = some l[k] := List.getElem?_eq_getElem hkl
      generalize l[k] = x at *
      obtain ⟨xu, xd, a1, n1, c1, a2, n2, c2, q, st, t⟩ := x
      simp only at hit
      obtain ⟨hc0, hc1, hc2, hc3, hc4, hc5, hc6⟩ := hit
      have Hlk := Lib.hid hlk
      clear hlk hrow hs
      have d1 : decide ((k : Int) < l.length) = true := by simpa using hkl
      cases hx : stale now long ⟨xu, xd, a1, n1, c1, a2, n2, c2, q, st, t⟩ with
      | true =>
        have hfin : Hid (rfiR now long l = k) := by
          have e : rfi now long l = k := by
            unfold rfi
            rw [List.findIdx_eq hkl]
            have hlk := Hlk.out
            rw [List.getElem?_eq_getElem hkl] at hlk
            refine ⟨by rw [Option.some.inj hlk]; exact hx, fun j hj => ?_⟩
            have hjl : j < l.length := by omega
            exact hq.out j hj l[j] (List.getElem?_eq_getElem hjl)
          show rfiR now long l = _
          rw [rfiR, e, if_pos hkl]
        go_wp2_with fail
        refine (rclos_any Nb Lb now long xu xd a1 n1 c1 a2 n2 c2 q st t _ hN).mono ?_
        rw [hx]
        rintro e w2 ⟨rfl, ho2⟩
        go_wp2_with fail
        go_ret
        exact ⟨by rw [hfin.out]; rfl, ho.trans ho2⟩
      | false =>
        have hq2 : Hid (∀ j (hj : j < k + 1), ∀ x, l[j]? = some x → stale now long x = false) := by
          intro j hj y hy
          by_cases hjk : j = k
          · subst hjk
            rw [Hlk.out] at hy
            cases hy
            exact hx
          · exact hq.out j (by omega) y hy
        go_wp2_with fail
        refine (rclos_any Nb Lb now long xu xd a1 n1 c1 a2 n2 c2 q st t _ hN).mono ?_
        rw [hx]
        rintro e w2 ⟨rfl, ho2⟩
        go_wp2_with fail
        refine ⟨⟨k + 1, by simp, by omega, hq2.out, ho.trans ho2⟩, by simp [intOf]; omega⟩
    · obtain rfl : k = l.length := by omega
      have d1 : decide ((l.length : Int) < l.length) = false := by simp
      have hfin : Hid (rfiR now long l = -1) := by
        show rfiR now long l = _
        refine if_neg fun hh => ?_
        have := List.findIdx_getElem (w := hh)
        have h1 := hq.out _ hh l[rfi now long l] (List.getElem?_eq_getElem hh)
        exact absurd (this.symm.trans h1) (by simp)
      go_wp2_with fail
      go_ret
      exact ⟨by rw [hfin.out]; rfl, ho⟩

/-- What DeleteFunc leaves. -/
def rkp (now long : Nat) (l : List Re) : List Re := l.filter fun x => !stale now long x
theorem rkp_snoc (now long : Nat) (l : List Re) (x : Re) : rkp now long (l ++ [x]) = rkp now long l ++ (if stale now long x = true then [] else [x]) := by
  unfold rkp
  rw [List.filter_append]
  cases h : stale now long x <;> simp [h]

def rDeleted (w0 : World) (rs : List Res) (now long : Nat) (l : List Re) (e : Ending) (w' : World) : Prop := ∃ v', e = .returned v' ∧ Sep w0 w' (row 36 7 v' (rkp now long l).length (fl rc (rkp now long l)) :: rs)

set_option maxRecDepth 100000 in
set_option maxHeartbeats 3200000 in
theorem rdelete_any {w0 : World} {rs : List Res} (Nb Lb now long : Nat) (v : Value) (l : List Re) (w : World) (h : Sep w0 w (row 36 7 v l.length (fl rc l) :: two (blk Nb [.float .f64 now] 22) (blk Lb [.float .f64 long] 22) :: rs)) (hl : l.length ≤ 1000000) :
    Calls Try.prog 30 #[v, dropf Nb Lb] w (rDeleted w0 (two (blk Nb [.float .f64 now] 22) (blk Lb [.float .f64 long] 22) :: rs) now long l) := by
  by_cases hfi : rfi now long l < l.length
  · have hR : rfiR now long l = rfi now long l := if_pos hfi
    obtain ⟨i, hi⟩ : ∃ i, rfi now long l = i := ⟨_, rfl⟩
    have hpre : Hid (rkp now long (l.take (i + 1)) = l.take i) := by
      show rkp now long (l.take (i + 1)) = l.take i
      rw [← hi] at *
      rw [List.take_succ_eq_append_getElem hfi, rkp_snoc]
      have h0 : stale now long l[rfi now long l] = true := List.findIdx_getElem (w := hfi)
      rw [if_pos h0, List.append_nil]
      refine List.filter_eq_self.2 fun x hx => ?_
      obtain ⟨j, hj, rfl⟩ := List.mem_iff_getElem.1 hx
      rw [List.length_take] at hj
      have := List.not_of_lt_findIdx (p := fun x : Re => stale now long x) (xs := l) (i := j) (by unfold rfi at hj; omega)
      rw [List.getElem_take, this]
      rfl
    have hc := rindex_any Nb Lb now long v l w h hl
    rw [hR, hi] at hc
    have Hc := Lib.hid hc
    clear hc hR
    rw [hi] at hfi
    have h2 : ((i : Int) == -1) = false := by simp <;> omega
    have hrow : w.ownsRow 0 36 7 v l.length (fl rc l) := h.head
    obtain ⟨ao, c, rfl⟩ := own_slice hrow
    obtain ⟨g, rfl, _⟩ := own_some hrow (by omega)
    clear hi hrow
    go_enter Try.func30, Try.ntmps30
    go_wp2_with fail
    refine Hc.out.mono ?_
    rintro e w1 ⟨rfl, ho1⟩
    have hs := h.quiet ho1
    clear h Hc ho1
    go_wp2_with fail
    go_loopw [5, 6] (fun a b wr => ∃ (p q : Nat) (m : List Re), a = .int .i64 p ∧ b = .int .i64 q ∧ p < q ∧ q ≤ l.length ∧ m.length = l.length ∧ m.take p = rkp now long (l.take q) ∧ m.drop q = l.drop q ∧ Sep w0 wr (row 36 7 (.slice (some ⟨g, 0, none⟩) l.length c) l.length (fl rc m) :: two (blk Nb [.float .f64 now] 22) (blk Lb [.float .f64 long] 22) :: rs)) (fun _ b _ => l.length - (intOf b).toNat)
    case atStart => exact ⟨i, i + 1, l, rfl, by simp, by omega, by omega, rfl, hpre.out.symm, rfl, hs⟩
    case round =>
      clear hs hpre
      obtain ⟨p, k, m, rfl, rfl, hpq, hq, hml0, hmp0, hmq0, hs⟩ := hrel
      have hml := Lib.hid hml0
      have hmp := Lib.hid hmp0
      have hmq := Lib.hid hmq0
      clear hml0 hmp0 hmq0
      have hrow : wr.ownsRow 0 36 7 (.slice (some ⟨g, 0, none⟩) l.length c) l.length (fl rc m) := hs.head
      by_cases hql : k < l.length
      · have d1 : decide ((k : Int) < l.length) = true := by simpa using hql
        have hqm : k < m.length := by rw [hml.out]; exact hql
        have hpm : p < m.length := by rw [hml.out]; omega
        have hrow' : wr.ownsRow 0 36 7 (.slice (some ⟨g, 0, none⟩) m.length c) m.length (fl rc m) := by rw [hml.out]; exact hrow
        have hit := rec_at hrow' hqm
        have hlq : Hid (l.take (k + 1) = l.take k ++ [m[k]] ∧ l.drop (k + 1) = m.drop (k + 1)) := by
          have e := hmq.out
          rw [List.drop_eq_getElem_cons hqm, List.drop_eq_getElem_cons hql, List.cons.injEq] at e
          rw [e.1]
          exact ⟨List.take_succ_eq_append_getElem hql, e.2.symm⟩
        generalize m[k] = x at *
        obtain ⟨xu, xd, a1, n1, c1, a2, n2, c2, q, st, t⟩ := x
        simp only at hit
        obtain ⟨hc0, hc1, hc2, hc3, hc4, hc5, hc6⟩ := hit
        have h1c : ([.int .i64 xu, .int .i64 xd, .slice a1 n1 c1, .slice a2 n2 c2, .pointer q, .bool st, .float .f64 t] : List Value).toArray.all (·.oneCell') = true := by simp [Value.oneCell']
        clear hrow' hrow
        cases hx : stale now long ⟨xu, xd, a1, n1, c1, a2, n2, c2, q, st, t⟩ with
        | true =>
          go_wp2_with (first
            | (refine wpList_alloc_new rfl 36 rfl (.agg #[.int .i64 0, .int .i64 0, .slice none 0 0, .slice none 0 0, .pointer none, .bool false, .float .f64 0]) (fun _ => by kernel_rfl) ?_; intro X wX oX hXl hX)
            | (refine wpList_store_blk rfl 36 _ _ rfl X [.int .i64 xu, .int .i64 xd, .slice a1 n1 c1, .slice a2 n2 c2, .pointer q, .bool st, .float .f64 t] rfl rfl hX rfl (by kernel_rfl) h1c ?_; intro wY oY hY; have hs3 := hs.quiet (oX.new oY (fun i hi => by simp only [List.mem_singleton] at hi; omega)); clear hs hX oX oY)
            | (refine wpList_load_blk rfl 36 _ rfl X rfl [.int .i64 xu, .int .i64 xd, .slice a1 n1 c1, .slice a2 n2 c2, .pointer q, .bool st, .float .f64 t] _ hY Try.underlying36 (by rfl) (by kernel_rfl) ?_))
          refine (rclos_any Nb Lb now long xu xd a1 n1 c1 a2 n2 c2 q st t _ hs3.tail.head).mono ?_
          rw [hx]
          rintro e w2 ⟨rfl, ho2⟩
          have hs4 := hs3.quiet ho2
          clear hs3 ho2
          go_wp2_with fail
          refine ⟨⟨p, k + 1, m, rfl, by simp, by omega, by omega, hml.out, ?_, hlq.out.2.symm, hs4⟩, by simp [intOf]; omega⟩
          rw [hlq.out.1, rkp_snoc, if_pos hx, List.append_nil]
          exact hmp.out
        | false =>
          have hset : Hid (setL (fl rc m) (p * 7) [.int .i64 xu, .int .i64 xd, .slice a1 n1 c1, .slice a2 n2 c2, .pointer q, .bool st, .float .f64 t] = fl rc (m.set p ⟨xu, xd, a1, n1, c1, a2, n2, c2, q, st, t⟩)) := fl_set (enc := rc) (k := 7) rc_len hpm ⟨xu, xd, a1, n1, c1, a2, n2, c2, q, st, t⟩
          go_wp2_with (first
            | (refine wpList_alloc_new rfl 36 rfl (.agg #[.int .i64 0, .int .i64 0, .slice none 0 0, .slice none 0 0, .pointer none, .bool false, .float .f64 0]) (fun _ => by kernel_rfl) ?_; intro X wX oX hXl hX)
            | (refine wpList_store_blk rfl 36 _ _ rfl X [.int .i64 xu, .int .i64 xd, .slice a1 n1 c1, .slice a2 n2 c2, .pointer q, .bool st, .float .f64 t] rfl rfl hX rfl (by kernel_rfl) h1c ?_; intro wY oY hY; have hs3 := hs.quiet (oX.new oY (fun i hi => by simp only [List.mem_singleton] at hi; omega)); clear hs hX oX oY)
            | (refine wpList_load_blk rfl 36 _ rfl X rfl [.int .i64 xu, .int .i64 xd, .slice a1 n1 c1, .slice a2 n2 c2, .pointer q, .bool st, .float .f64 t] _ hY Try.underlying36 (by rfl) (by kernel_rfl) ?_))
          refine (rclos_any Nb Lb now long xu xd a1 n1 c1 a2 n2 c2 q st t _ hs3.tail.head).mono ?_
          rw [hx]
          rintro e w2 ⟨rfl, ho2⟩
          have hs4 := hs3.quiet ho2
          have hZ := ho2.at hY (by simp)
          clear hs3 ho2 hY
          have hple : p * 7 + ([.int .i64 xu, .int .i64 xd, .slice a1 n1 c1, .slice a2 n2 c2, .pointer q, .bool st, .float .f64 t] : List Value).length ≤ l.length * 7 := by simp; omega
          have hpl : (p : Int) < l.length := by omega
          go_wp2_with (first
            | (refine wpList_load_blk rfl 36 _ rfl X rfl [.int .i64 xu, .int .i64 xd, .slice a1 n1 c1, .slice a2 n2 c2, .pointer q, .bool st, .float .f64 t] _ hZ Try.underlying36 (by rfl) (by kernel_rfl) ?_)
            | (refine wpList_store_rec rfl 36 _ _ rfl g (p * 7) _ _ _ _ [.int .i64 xu, .int .i64 xd, .slice a1 n1 c1, .slice a2 n2 c2, .pointer q, .bool st, .float .f64 t] _ rfl rfl hs4 hple (by kernel_rfl) h1c ?_; intro wZ hs5; rw [hset.out] at hs5))
          refine ⟨⟨p + 1, k + 1, m.set p ⟨xu, xd, a1, n1, c1, a2, n2, c2, q, st, t⟩, by simp, by simp, by omega, by omega, by rw [List.length_set]; exact hml.out, ?_, ?_, hs5⟩, by simp [intOf]; omega⟩
          · rw [hlq.out.1, rkp_snoc, if_neg (by rw [hx]; simp), ← hmp.out, List.take_succ_eq_append_getElem (by rw [List.length_set]; exact hpm), List.getElem_set_self, List.take_set_of_le (Nat.le_refl _)]
          · rw [List.drop_set_of_lt (by omega), hlq.out.2]
      · obtain rfl : k = l.length := by omega
        have d1 : decide ((l.length : Int) < l.length) = false := by simp
        obtain ⟨vs, hvs, hcl⟩ := run_clear_recs (P := Try.prog) wr 46 36 0 (.agg #[.int .i64 0, .int .i64 0, .slice none 0 0, .slice none 0 0, .pointer none, .bool false, .float .f64 0]) 7 Try.underlying46 (fun _ => by kernel_rfl) rfl (by simp [Value.cells, Value.oneCell']) g (p * 7) (l.length - p) (c - p) (by omega) (by decide) (row_there hrow (p * 7) ((l.length - p) * 7) (by omega))
        have hs2 := hs.puts (p * 7) vs
        have hfin : Hid ((setL (fl rc m) (p * 7) vs).take (p * 7) = fl rc (rkp now long l)) := by
          show (setL (fl rc m) (p * 7) vs).take (p * 7) = _
          rw [setL_take _ _ _ _ (Nat.le_refl _)]
          have := fl_take (enc := rc) (k := 7) rc_len m p
          have e := hmp.out
          rw [List.take_length] at e
          rw [e] at this
          exact this
        have hkl : Hid ((rkp now long l).length = p) := by
          have e := congrArg List.length hmp.out
          rw [List.take_length, List.length_take, Nat.min_eq_left (by rw [hml.out]; omega)] at e
          exact e.symm
        have hcap : l.length ≤ c := by
          obtain ⟨_, _, e, h1, _⟩ := own_src hrow
          cases e
          exact h1
        have hpc : ¬ c = p := by omega
        clear hrow
        go_wp2_with fail
        go_ret
        refine ⟨_, rfl, ?_⟩
        rw [hkl.out, ← hfin.out]
        refine hs2.step (L := []) (Only.refl _ _) (by simp) (row_head hs2.head (by omega)) (fun k hk => .inl hk)
  · have hR : rfiR now long l = -1 := if_neg hfi
    obtain ⟨ao, c, rfl⟩ := own_slice (show w.ownsRow 0 36 7 v l.length (fl rc l) from h.head)
    have hall : Hid (rkp now long l = l) := by
      refine List.filter_eq_self.2 fun x hx => ?_
      have h0 : ¬ (stale now long x = true) := fun h => hfi (List.findIdx_lt_length_of_exists ⟨x, hx, h⟩)
      simp [h0]
    have hc := rindex_any Nb Lb now long _ l w h hl
    rw [hR] at hc
    have Hc := Lib.hid hc
    clear hc hR hfi
    go_enter Try.func30, Try.ntmps30
    go_wp2_with fail
    refine Hc.out.mono ?_
    rintro e w1 ⟨rfl, ho1⟩
    have hs := h.quiet ho1
    clear h Hc ho1
    go_wp2_with fail
    go_ret
    exact ⟨_, rfl, by rw [hall.out]; exact hs⟩
end Go.Proofs.Ytdlbkdnpbcpjfaa
