/- The contracts of Ack of layer 18 (mailbox), and of what it calls: slices.DeleteFunc, slices.IndexFunc at items, by the closure of Ack. -/
import Derived.Test.YtjopgcbfahlmnaaBox2
import Derived.Test.YtjopgcbfahlmnaaRec
namespace Go.Proofs.Ytjopgcbfahlmnaa
open Go.RowKit Go.Pw
set_option linter.unusedVariables false

/-- The closure of Ack: it captured the block of n. -/
abbrev ackf (Nb : Nat) : Value := .func (.func 16) #[] #[.pointer (some ⟨Nb, 0, none⟩)]

set_option maxHeartbeats 400000 in
theorem ackf_any (Nb : Nat) (n xn : Int) (ao : Option Addr) (m c : Nat) (w : World) (h : w.heap[Nb]? = some (.cells #[.int .u64 n] 29 (0, 0))) :
    Calls Try.prog 16 #[.agg #[.int .u64 xn, .slice ao m c], .pointer (some ⟨Nb, 0, none⟩)] w fun e w' => e = .returned (.bool (decide (xn ≤ n))) ∧ Only w w' [] := by
  have hc := cell_of_one h
  have hca : ∀ o, (w.alloc o).cell? ⟨Nb, 0, none⟩ = some (.int .u64 n) := cell_al hc
  go_enter Try.func16, Try.ntmps16
  go_wp2
  go_ret
  exact ⟨rfl, Only.alloc _ _ _⟩

/-- The first of the items up to a number. -/
def fi (n : Int) (l : List It) : Nat := l.findIdx fun x => decide (x.n ≤ n)
def fiR (n : Int) (l : List It) : Int := if fi n l < l.length then fi n l else -1

set_option maxRecDepth 100000 in
set_option maxHeartbeats 1600000 in
theorem index_any {w0 : World} {rs : List Res} (Nb : Nat) (n : Int) (v : Value) (l : List It) (w : World) (h : Sep w0 w (row 36 2 v l.length (flat l) :: blk Nb [.int .u64 n] 29 :: rs)) (hl : l.length ≤ 1000000000) :
    Calls Try.prog 17 #[v, ackf Nb] w fun e w' => e = .returned (.int .i64 (fiR n l)) ∧ Only w w' [] := by
  obtain ⟨ao, c, rfl⟩ := own_slice (show w.ownsRow 0 _ 2 v l.length (flat l) from h.head)
  go_enter Try.func17, Try.ntmps17
  go_wp2_with fail
  go_loopw [8] (fun i wr => ∃ k : Nat, i = .int .i64 k ∧ k ≤ l.length ∧ (∀ j (hj : j < k), ∀ x, l[j]? = some x → n < x.n) ∧ Only w wr []) (fun i _ => l.length - (intOf i).toNat)
  case atStart => exact ⟨0, rfl, Nat.zero_le _, fun j hj => by omega, Only.refl _ _⟩
  case round =>
    obtain ⟨k, rfl, hk, hq, ho⟩ := hrel
    have hq := Lib.hid hq
    by_cases hkl : k < l.length
    · have hs := h.quiet ho
      have hrow : wr.ownsRow 0 36 2 (.slice ao l.length c) l.length (flat l) := hs.head
      have hN : wr.heap[Nb]? = some (.cells #[.int .u64 n] 29 (0, 0)) := hs.tail.head
      obtain ⟨g, rfl, _⟩ := own_some hrow (by omega)
      have hit := item_at hrow hkl
      have hlk : l[k]? = some l[k] := List.getElem?_eq_getElem hkl
      generalize l[k] = x at *
      obtain ⟨xn, ao, cp, bs⟩ := x
      simp only [ev] at hit
      obtain ⟨hc0, hc1⟩ := hit
      have Hlk := Lib.hid hlk
      clear hlk hrow hs
      have d1 : decide ((k : Int) < l.length) = true := by simpa using hkl
      by_cases hx : xn ≤ n
      · have hfin : Hid (fiR n l = k) := by
          have e : fi n l = k := by
            unfold fi
            rw [List.findIdx_eq hkl]
            have hlk := Hlk.out
            rw [List.getElem?_eq_getElem hkl] at hlk
            refine ⟨by rw [Option.some.inj hlk]; simpa using hx, fun j hj => ?_⟩
            have hjl : j < l.length := by omega
            have := hq.out j hj l[j] (List.getElem?_eq_getElem hjl)
            simp only [decide_eq_false_iff_not]
            omega
          show fiR n l = _
          rw [fiR, e, if_pos hkl]
        have hx' : decide (xn ≤ n) = true := by simpa using hx
        go_wp2_with fail
        refine (ackf_any Nb n xn ao bs.length cp _ hN).mono ?_
        rintro e w2 ⟨rfl, ho2⟩
        go_wp2_with fail
        go_ret
        exact ⟨by rw [hfin.out]; rfl, ho.trans ho2⟩
      · have hx' : decide (xn ≤ n) = false := by simpa using hx
        have hq2 : Hid (∀ j (hj : j < k + 1), ∀ x, l[j]? = some x → n < x.n) := by
          intro j hj y hy
          by_cases hjk : j = k
          · subst hjk
            rw [Hlk.out] at hy
            cases hy
            show n < xn
            omega
          · exact hq.out j (by omega) y hy
        go_wp2_with fail
        refine (ackf_any Nb n xn ao bs.length cp _ hN).mono ?_
        rintro e w2 ⟨rfl, ho2⟩
        go_wp2_with fail
        refine ⟨⟨k + 1, by simp, by omega, hq2.out, ho.trans ho2⟩, by simp [intOf]; omega⟩
    · obtain rfl : k = l.length := by omega
      have d1 : decide ((l.length : Int) < l.length) = false := by simp
      have hfin : Hid (fiR n l = -1) := by
        show fiR n l = _
        refine if_neg fun hh => ?_
        have := List.findIdx_getElem (w := hh)
        have h1 := hq.out _ hh l[fi n l] (List.getElem?_eq_getElem hh)
        have h2 : l[fi n l].n ≤ n := of_decide_eq_true this
        omega
      go_wp2_with fail
      go_ret
      exact ⟨by rw [hfin.out]; rfl, ho⟩

/-- What DeleteFunc leaves: the items behind the number. -/
def kp (n : Int) (l : List It) : List It := l.filter fun x => decide (n < x.n)
theorem kp_snoc (n : Int) (l : List It) (x : It) : kp n (l ++ [x]) = kp n l ++ (if n < x.n then [x] else []) := by
  unfold kp
  rw [List.filter_append]
  by_cases h : n < x.n <;> simp [h]

def Deleted (w0 : World) (rs : List Res) (n : Int) (l : List It) (e : Ending) (w' : World) : Prop := ∃ v', e = .returned v' ∧ Sep w0 w' (row 36 2 v' (kp n l).length (flat (kp n l)) :: rs)

set_option maxRecDepth 100000 in
set_option maxHeartbeats 3200000 in
theorem delete_any {w0 : World} {rs : List Res} (Nb : Nat) (n : Int) (v : Value) (l : List It) (w : World) (h : Sep w0 w (row 36 2 v l.length (flat l) :: blk Nb [.int .u64 n] 29 :: rs)) (hl : l.length ≤ 1000000000) :
    Calls Try.prog 15 #[v, ackf Nb] w (Deleted w0 (blk Nb [.int .u64 n] 29 :: rs) n l) := by
  by_cases hfi : fi n l < l.length
  · have hR : fiR n l = fi n l := if_pos hfi
    obtain ⟨i, hi⟩ : ∃ i, fi n l = i := ⟨_, rfl⟩
    have hpre : Hid (kp n (l.take (i + 1)) = l.take i) := by
      show kp n (l.take (i + 1)) = l.take i
      rw [← hi] at *
      rw [List.take_succ_eq_append_getElem hfi, kp_snoc]
      have h0 : l[fi n l].n ≤ n := of_decide_eq_true (List.findIdx_getElem (w := hfi))
      rw [if_neg (by omega), List.append_nil]
      refine List.filter_eq_self.2 fun x hx => ?_
      obtain ⟨j, hj, rfl⟩ := List.mem_iff_getElem.1 hx
      rw [List.length_take] at hj
      have := List.not_of_lt_findIdx (p := fun x : It => decide (x.n ≤ n)) (xs := l) (i := j) (by unfold fi at hj; omega)
      simp at this
      simp only [decide_eq_true_eq]
      rw [List.getElem_take]
      exact this
    have hc := index_any Nb n v l w h hl
    rw [hR, hi] at hc
    have Hc := Lib.hid hc
    clear hc hR
    rw [hi] at hfi
    have h2 : ((i : Int) == -1) = false := by simp <;> omega
    have hrow : w.ownsRow 0 36 2 v l.length (flat l) := h.head
    obtain ⟨ao, c, rfl⟩ := own_slice hrow
    obtain ⟨g, rfl, _⟩ := own_some hrow (by omega)
    clear hi hrow
    go_enter Try.func15, Try.ntmps15
    go_wp2_with fail
    refine Hc.out.mono ?_
    rintro e w1 ⟨rfl, ho1⟩
    have hs := h.quiet ho1
    clear h Hc ho1
    go_wp2_with fail
    go_loopw [5, 6] (fun a b wr => ∃ (p q : Nat) (m : List It), a = .int .i64 p ∧ b = .int .i64 q ∧ p < q ∧ q ≤ l.length ∧ m.length = l.length ∧ m.take p = kp n (l.take q) ∧ m.drop q = l.drop q ∧ Sep w0 wr (row 36 2 (.slice (some ⟨g, 0, none⟩) l.length c) l.length (flat m) :: blk Nb [.int .u64 n] 29 :: rs)) (fun _ b _ => l.length - (intOf b).toNat)
    case atStart => exact ⟨i, i + 1, l, rfl, by simp, by omega, by omega, rfl, hpre.out.symm, rfl, hs⟩
    case round =>
      clear hs hpre
      obtain ⟨p, q, m, rfl, rfl, hpq, hq, hml0, hmp0, hmq0, hs⟩ := hrel
      have hml := Lib.hid hml0
      have hmp := Lib.hid hmp0
      have hmq := Lib.hid hmq0
      clear hml0 hmp0 hmq0
      have hN : wr.heap[Nb]? = some (.cells #[.int .u64 n] 29 (0, 0)) := hs.tail.head
      have hrow : wr.ownsRow 0 36 2 (.slice (some ⟨g, 0, none⟩) l.length c) l.length (flat m) := hs.head
      by_cases hql : q < l.length
      · have d1 : decide ((q : Int) < l.length) = true := by simpa using hql
        have hqm : q < m.length := by rw [hml.out]; exact hql
        have hpm : p < m.length := by rw [hml.out]; omega
        have hrow' : wr.ownsRow 0 36 2 (.slice (some ⟨g, 0, none⟩) m.length c) m.length (flat m) := by rw [hml.out]; exact hrow
        obtain ⟨hc0, hc1⟩ := item_at hrow' hqm
        have hlq : Hid (l.take (q + 1) = l.take q ++ [m[q]] ∧ l.drop (q + 1) = m.drop (q + 1)) := by
          have e := hmq.out
          rw [List.drop_eq_getElem_cons hqm, List.drop_eq_getElem_cons hql, List.cons.injEq] at e
          rw [e.1]
          exact ⟨List.take_succ_eq_append_getElem hql, e.2.symm⟩
        generalize m[q] = x at *
        obtain ⟨xn, ao, cp, bs⟩ := x
        simp only [ev] at hc0 hc1
        by_cases hx : xn ≤ n
        · have hx' : decide (xn ≤ n) = true := by simpa using hx
          go_wp2_with fail
          have hs2 := hs.quiet (Only.alloc wr (.cells #[.int .u64 xn, .slice ao bs.length cp] 36) [])
          refine (ackf_any Nb n xn ao bs.length cp _ hs2.tail.head).mono ?_
          rintro e w2 ⟨rfl, ho2⟩
          have hs3 := hs2.quiet ho2
          clear hs hs2 ho2 hrow hrow' hN hc0 hc1
          go_wp2_with fail
          refine ⟨⟨p, q + 1, m, rfl, by simp, by omega, by omega, hml.out, ?_, hlq.out.2.symm, hs3⟩, by simp [intOf]; omega⟩
          rw [hlq.out.1, kp_snoc, if_neg (by simp only; omega), List.append_nil]
          exact hmp.out
        · have hx' : decide (xn ≤ n) = false := by simpa using hx
          go_wp2_with fail
          have hs2 := hs.quiet (Only.alloc wr (.cells #[.int .u64 xn, .slice ao bs.length cp] 36) [])
          have hX := cell_two0 (heap_alloc_new wr (.cells #[.int .u64 xn, .slice ao bs.length cp] 36))
          refine (ackf_any Nb n xn ao bs.length cp _ hs2.tail.head).mono ?_
          rintro e w2 ⟨rfl, ho2⟩
          have hs3 := hs2.quiet ho2
          have hX := ho2.at (heap_alloc_new wr (.cells #[.int .u64 xn, .slice ao bs.length cp] 36)) (by simp)
          have hx0 := cell_two0 hX
          have hx1 := cell_two1 hX
          have hr2 : w2.ownsRow 0 36 2 (.slice (some ⟨g, 0, none⟩) l.length c) l.length (flat m) := hs3.head
          have hr2' : w2.ownsRow 0 36 2 (.slice (some ⟨g, 0, none⟩) m.length c) m.length (flat m) := by rw [hml.out]; exact hr2
          obtain ⟨hp0, hp1⟩ := item_at hr2' hpm
          have f0 := hr2.frozenAt (p * 2)
          have f1 := hr2.frozenAt (p * 2 + 1)
          have hset : Hid (setL (flat m) (p * 2) [.int .u64 xn, .slice ao bs.length cp] = flat (m.set p ⟨xn, ao, cp, bs⟩)) := fl_set (enc := ic) (k := 2) (fun _ => rfl) hpm ⟨xn, ao, cp, bs⟩
          have hs4 := hs3.puts (p * 2) [.int .u64 xn, .slice ao bs.length cp]
          rw [hset.out] at hs4
          generalize m[p] = y at *
          simp only [ev] at hp0 hp1
          clear hs hs2 ho2 hrow hrow' hN hc0 hc1 hX hr2 hr2' hs3
          have hne : w.heap.size = w.heap.size := rfl
          go_wp2_with fail
          refine ⟨⟨p + 1, q + 1, m.set p ⟨xn, ao, cp, bs⟩, by simp, by simp, by omega, by omega, by rw [List.length_set]; exact hml.out, ?_, ?_, hs4⟩, by simp [intOf]; omega⟩
          · rw [hlq.out.1, kp_snoc, if_pos (by simp only; omega), ← hmp.out, List.take_succ_eq_append_getElem (by rw [List.length_set]; exact hpm), List.getElem_set_self, List.take_set_of_le (Nat.le_refl _)]
          · rw [List.drop_set_of_lt (by omega), hlq.out.2]
      · obtain rfl : q = l.length := by omega
        have d1 : decide ((l.length : Int) < l.length) = false := by simp
        obtain ⟨vs, hvs, hcl⟩ := run_clear_recs (P := Try.prog) wr 28 36 0 (.agg #[.int .u64 0, .slice none 0 0]) 2 Try.underlying28 (fun _ => by kernel_rfl) rfl (by simp [Value.cells, Value.oneCell']) g (p * 2) (l.length - p) (c - p) (by omega) (by decide) (row_there hrow (p * 2) ((l.length - p) * 2) (by omega))
        have hs2 := hs.puts (p * 2) vs
        have hfin : Hid ((setL (flat m) (p * 2) vs).take (p * 2) = flat (kp n l)) := by
          show (setL (flat m) (p * 2) vs).take (p * 2) = _
          rw [setL_take _ _ _ _ (Nat.le_refl _)]
          have := fl_take (enc := ic) (k := 2) (fun _ => rfl) m p
          have e := hmp.out
          rw [List.take_length] at e
          rw [e] at this
          exact this
        have hkl : Hid ((kp n l).length = p) := by
          have e := congrArg List.length hmp.out
          rw [List.take_length, List.length_take, Nat.min_eq_left (by rw [hml.out]; omega)] at e
          exact e.symm
        have hcap : l.length ≤ c := by
          obtain ⟨_, _, e, h1, _⟩ := own_src hrow
          cases e
          exact h1
        have hpc : ¬ c = p := by omega
        clear hrow hN
        go_wp2_with fail
        go_ret
        refine ⟨_, rfl, ?_⟩
        rw [hkl.out, ← hfin.out]
        refine hs2.step (L := []) (Only.refl _ _) (by simp) (row_head hs2.head (by omega)) (fun k hk => .inl hk)
  · have hR : fiR n l = -1 := if_neg hfi
    obtain ⟨ao, c, rfl⟩ := own_slice (show w.ownsRow 0 36 2 v l.length (flat l) from h.head)
    have hall : Hid (kp n l = l) := by
      refine List.filter_eq_self.2 fun x hx => ?_
      have h0 : ¬ (x.n ≤ n) := fun h => hfi (List.findIdx_lt_length_of_exists ⟨x, hx, by simpa using h⟩)
      simp only [decide_eq_true_eq]
      omega
    have hc := index_any Nb n _ l w h hl
    rw [hR] at hc
    have Hc := Lib.hid hc
    clear hc hR hfi
    go_enter Try.func15, Try.ntmps15
    go_wp2_with fail
    refine Hc.out.mono ?_
    rintro e w1 ⟨rfl, ho1⟩
    have hs := h.quiet ho1
    clear h Hc ho1
    go_wp2_with fail
    go_ret
    exact ⟨_, rfl, by rw [hall.out]; exact hs⟩

/-- What Ack leaves. -/
def Acked (w0 : World) (rs : List Res) (B : Nat) (l : List It) (last n : Int) (e : Ending) (w' : World) : Prop :=
  e = .returned (.int .i64 ((l.length : Int) - (kp n l).length)) ∧ ∃ v', Sep w0 w' (box B v' (kp n l) last :: rs)

theorem ack_nil (n : Int) (w : World) : Calls Try.prog 10 #[.pointer none, .int .u64 n] w fun e w' => e = .returned (.int .i64 0) ∧ Only w w' [] := by
  go_enter Try.func10, Try.ntmps10
  go_wp2
  go_ret
  exact ⟨rfl, Only.alloc _ _ _⟩

set_option maxHeartbeats 1600000 in
theorem ack_any {w0 : World} {rs : List Res} (B : Nat) (v : Value) (l : List It) (last n : Int) (w : World) (h : Sep w0 w (box B v l last :: rs)) (hl : l.length ≤ 1000000000) :
    Calls Try.prog 10 #[.pointer (some ⟨B, 0, none⟩), .int .u64 n] w (Acked w0 rs B l last n) := by
  obtain ⟨ao, c, rfl⟩ := box_slice (box_facts h).2.1
  go_enter Try.func10, Try.ntmps10
  have s1 := h.box [.int .u64 n] 29
  have hB := (box_facts s1.tail).1
  have h0 := cell_two0 hB
  go_wp2_with fail
  have s2 : Sep w0 (w.alloc (.cells #[.int .u64 n] 29)) (row 36 2 (.slice ao l.length c) l.length (flat l) :: blk w.heap.size [.int .u64 n] 29 :: many (l.map env) :: blk B [.slice ao l.length c, .int .u64 last] 31 :: rs) := by
    have t1 := ((s1.up 1 (by simp)).split.up 1 (by simp)).split
    exact (t1.up 3 (by simp)).perm ((List.Perm.swap _ _ _).trans (List.Perm.cons _ (List.Perm.cons _ (List.Perm.refl _))))
  refine (delete_any w.heap.size n _ l _ s2 hl).mono ?_
  rintro e w1 ⟨v1, rfl, s3⟩
  obtain ⟨a1, c1, rfl⟩ := own_slice (show w1.ownsRow 0 36 2 v1 (kp n l).length (flat (kp n l)) from s3.head)
  have hB1 : w1.heap[B]? = some (.cells #[.slice ao l.length c, .int .u64 last] 31 (0, 0)) := (s3.up 3 (by simp)).head
  have h0 := cell_two0 hB1
  have f0 := free_two hB1 0
  have s4 := (s3.up 3 (by simp)).put 0 (.slice a1 (kp n l).length c1)
  have s5 : Sep w0 (w1.setCell ⟨B, 0, none⟩ (.slice a1 (kp n l).length c1)) (box B (.slice a1 (kp n l).length c1) (kp n l) last :: rs) := by
    have t1 := (s4.up 2 (by simp)).tail
    have t2 := t1.up 2 (by simp)
    have t3 : Sep w0 _ (many ((kp n l).map env) :: blk B _ _ :: row _ _ _ _ _ :: rs) := t2.step (L := []) (Only.refl _ _) (by simp) (many_sub t2.head (List.Sublist.map _ List.filter_sublist)) (fun k hk => .inl (many_fp_sub (List.Sublist.map _ List.filter_sublist) k hk))
    have t4 := (t3.up 2 (by simp)).join
    exact (t4.up 1 (by simp)).join
  clear s1 s2 s3 s4 hB1 h hB
  have hB2 := (box_facts s5).1
  have hk0 : 0 ≤ ((kp n l).length : Int) := by omega
  have hk1 : ((kp n l).length : Int) ≤ 1000000000 := by have : (kp n l).length ≤ l.length := List.length_filter_le _ _; omega
  go_wp2_with fail
  go_ret
  exact ⟨rfl, _, s5⟩
end Go.Proofs.Ytjopgcbfahlmnaa
