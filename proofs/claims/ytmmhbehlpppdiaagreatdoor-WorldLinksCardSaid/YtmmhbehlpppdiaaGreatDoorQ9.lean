/- WorldLinks, by hand: Wlp, Wl9, WlA, WlB, Sh, It, Open. -/
import Derived.Test.YtmmhbehlpppdiaaGreatDoorQ8
import Derived.Test.YtmmhbehlpppdiaaGreatDoorQ5
import Derived.Shelf.Strconv.Itoa0
import Derived.Shelf.Strconv.Itoa1
import Derived.Shelf.LaysM
import Derived.Shelf.Strconv.Itoa2
import Derived.Shelf.Strconv.Itoa3
import Derived.Test.YtmmhbehlpppdiaaGreatDoorProg
import Derived.Test.YtmmhbehlpppdiaaGreatDoorQ1
import Derived.Lib.SmallJoins
import Derived.Lib.ItoaLen
import Derived.Test.YtmmhbehlpppdiaaGreatDoorQ0
import Derived.ProofKit
import Derived.OpenShut
set_option linter.all false
namespace Go.Proofs.YtmmhbehlpppdiaaGreatDoor.Wl
open Go.RowKit Go.Pw
structure RelW (us : List (Int × Int)) (ons : List Bool) (li : List Li) : Prop where
  len : ons.length = us.length
  lenl : li.length = us.length
  st : Strict li
  pos : ∀ (j : Nat) (h : j < us.length) (h2 : j < ons.length), ∃ x ∈ li, x.u = us[j].1 ∧ x.d = us[j].2 ∧ x.on = ons[j]
  inj : ∀ (i j : Nat) (hi : i < us.length) (hj : j < us.length), us[i] = us[j] → i = j
  low : ∀ x ∈ li, x.d ≤ cntL li x.u
  back : ∀ x ∈ li, (x.u, x.d) ∈ us

theorem relW_nil : RelW [] [] [] :=
  ⟨rfl, rfl, strict_nil, fun j h => by simp at h, fun i j hi => by simp at hi, fun x hx => by simp at hx, fun x hx => by simp at hx⟩
theorem key_eq {l : List Li} (h : Strict l) {x y : Li} (hx : x ∈ l) (hy : y ∈ l) (hu : x.u = y.u) (hd : x.d = y.d) : x = y := by
  obtain ⟨i, hi, rfl⟩ := List.mem_iff_getElem.1 hx
  obtain ⟨j, hj, rfl⟩ := List.mem_iff_getElem.1 hy
  have h1 := place_self h hi
  have h2 := place_self h hj
  rw [hu, hd, h2] at h1
  subst h1
  rfl
theorem isL_mem {l : List Li} (h : Strict l) {x : Li} (hx : x ∈ l) : isL l x.u x.d = x.on := by
  obtain ⟨i, hi, rfl⟩ := List.mem_iff_getElem.1 hx
  exact isL_self h hi
theorem RelW.is {us : List (Int × Int)} {ons : List Bool} {li : List Li} (h : RelW us ons li) (j : Nat) (hj : j < us.length) (h2 : j < ons.length) : isL li us[j].1 us[j].2 = ons[j] := by
  obtain ⟨x, hx, e1, e2, e3⟩ := h.pos j hj h2
  rw [← e1, ← e2, isL_mem h.st hx, e3]

theorem next_err (li : List Li) (u : Int) (hu : 0 ≤ u) : ((nextD li u).2 = 1 ↔ 8 ≤ u) ∧ ((nextD li u).2 = 0 ∨ (nextD li u).2 = 1 ∨ (nextD li u).2 = 3) := by
  unfold nextD
  split
  · exact ⟨⟨fun _ => by omega, fun _ => rfl⟩, .inr (.inl rfl)⟩
  · split
    · exact ⟨⟨fun h => by simp at h, fun _ => by omega⟩, .inr (.inr rfl)⟩
    · exact ⟨⟨fun h => by simp at h, fun _ => by omega⟩, .inl rfl⟩
theorem next_new {li : List Li} {u : Int} (h : (nextD li u).2 = 0) : nextD li u = ((u, (cntL li u : Int) + 1), 0) := by
  unfold nextD at h ⊢
  split
  · rename_i h1; rw [if_pos h1] at h; simp at h
  · rename_i h1
    rw [if_neg h1] at h
    split
    · rename_i h2; rw [if_pos h2] at h; simp at h
    · rfl

theorem RelW.new {us : List (Int × Int)} {ons : List Bool} {li : List Li} (h : RelW us ons li) (u : Int) : ∀ y ∈ li, ¬ (y.u = u ∧ y.d = cntL li u + 1) := fun y hy ⟨e1, e2⟩ => by
  have := h.low y hy
  rw [e1] at this
  omega
theorem RelW.fresh {us : List (Int × Int)} {ons : List Bool} {li : List Li} (h : RelW us ons li) (u : Int) : foundL li u (cntL li u + 1) = false := not_found (h.new u)

theorem RelW.link {us : List (Int × Int)} {ons : List Bool} {li : List Li} (h : RelW us ons li) (u d : Int) (hd : d = cntL li u + 1) (x : Li) (x1 : x.u = u) (x2 : x.d = d) (x3 : x.on = true) :
    RelW (us ++ [(u, d)]) (ons ++ [true]) ((insL li (newL u d)).set (placeL li u d) x) := by
  have hnew : ∀ y ∈ li, ¬ (y.u = (newL u d).u ∧ y.d = (newL u d).d) := fun y hy he => by
    subst hd
    exact h.new u y hy he
  have e := insL_set li (newL u d) x
  have e' : (insL li (newL u d)).set (placeL li u d) x = li.take (placeL li u d) ++ x :: li.drop (placeL li u d) := e
  have hst : Strict ((insL li (newL u d)).set (placeL li u d) x) := by
    obtain ⟨hk, hx⟩ := ins_at li (newL u d)
    exact strict_set (strict_ins h.st hnew) hk (by rw [x1]; exact (congrArg Li.u hx).symm) (by rw [x2]; exact (congrArg Li.d hx).symm)
  rw [e'] at hst ⊢
  have hmem : ∀ y, y ∈ li.take (placeL li u d) ++ x :: li.drop (placeL li u d) ↔ y = x ∨ y ∈ li := fun y => mem_put
  have hcnt : ∀ w : Int, cntL (li.take (placeL li u d) ++ x :: li.drop (placeL li u d)) w = cntL li w + (if (x.u == w) = true then 1 else 0) := fun w => by
    rw [cntL_eq, cntL_eq]
    exact filter_put (fun y => y.u == w) li _ x
  have hni : (u, d) ∉ us := fun hm => by
    obtain ⟨j, hj, ej⟩ := List.mem_iff_getElem.1 hm
    obtain ⟨y, hy, y1, y2, _⟩ := h.pos j hj (by rw [h.len]; exact hj)
    rw [ej] at y1 y2
    exact hnew y hy ⟨y1, y2⟩
  refine ⟨by simp [h.len], ?_, hst, fun j hj h2 => ?_, fun i j hi hj he => ?_, fun y hy => ?_, fun y hy => ?_⟩
  · have := place_le li u d
    have := h.lenl
    simp
    omega
  · by_cases hjl : j < us.length
    · rw [List.getElem_append_left hjl, List.getElem_append_left (by rw [h.len]; exact hjl)]
      obtain ⟨y, hy, y1, y2, y3⟩ := h.pos j hjl (by rw [h.len]; exact hjl)
      exact ⟨y, (hmem y).2 (.inr hy), y1, y2, y3⟩
    · have hjl' : j = us.length := by simp at hj; omega
      have hlen := h.len
      subst hjl'
      rw [List.getElem_append_right (by omega), List.getElem_append_right (by omega)]
      simp only [hlen, Nat.sub_self, List.getElem_cons_zero]
      exact ⟨x, (hmem x).2 (.inl rfl), x1, x2, x3⟩
  · simp only [List.length_append, List.length_singleton] at hi hj
    by_cases h1 : i < us.length <;> by_cases h2 : j < us.length
    · rw [List.getElem_append_left h1, List.getElem_append_left h2] at he
      exact h.inj i j h1 h2 he
    · rw [List.getElem_append_left h1, List.getElem_append_right (by omega)] at he
      simp only [show j - us.length = 0 by omega, List.getElem_cons_zero] at he
      exact absurd (he ▸ List.getElem_mem h1) hni
    · rw [List.getElem_append_left h2, List.getElem_append_right (by omega)] at he
      simp only [show i - us.length = 0 by omega, List.getElem_cons_zero] at he
      exact absurd (he.symm ▸ List.getElem_mem h2) hni
    · omega
  · rw [hcnt]
    rcases (hmem y).1 hy with rfl | hy
    · rw [x1, x2, hd]
      simp
    · have := h.low y hy
      split <;> omega
  · rcases (hmem y).1 hy with rfl | hy
    · simp [x1, x2]
    · exact List.mem_append_left _ (h.back y hy)

theorem RelW.unlink {us : List (Int × Int)} {ons : List Bool} {li : List Li} (h : RelW us ons li) (k : Nat) (hk : k < us.length) (h2 : k < ons.length) (hon : ons[k] = true) :
    RelW us (ons.set k false) (remL li us[k].1 us[k].2) := by
  have hI := h.is k hk h2
  rw [hon] at hI
  obtain ⟨hf, hp, _⟩ := isL_at hI
  obtain ⟨z, hz, z1, z2, z3⟩ := h.pos k hk h2
  have hpz : li[placeL li us[k].1 us[k].2] = z := by
    obtain ⟨hp', h0⟩ := found_at hf
    obtain ⟨e1, e2⟩ := (cmpW_zero _ _ _ _).1 h0
    exact key_eq h.st (List.getElem_mem hp') hz (by rw [e1, z1]) (by rw [e2, z2])
  have e : remL li us[k].1 us[k].2 = li.set (placeL li us[k].1 us[k].2) (gone z) := by
    rw [remL, if_pos hI, modify_set _ _ hp, hpz]
  rw [e]
  generalize placeL li us[k].1 us[k].2 = p at *
  have hgu : (gone z).u = z.u := rfl
  have hgd : (gone z).d = z.d := rfl
  have hmem : ∀ y, y ∈ li → y ≠ z → y ∈ li.set p (gone z) := fun y hy hne => by
    obtain ⟨i, hi, rfl⟩ := List.mem_iff_getElem.1 hy
    have hip : i ≠ p := fun hh => by subst hh; exact hne hpz
    exact List.mem_iff_getElem.2 ⟨i, by simpa using hi, by rw [List.getElem_set_ne (Ne.symm hip)]⟩
  have hgm : gone z ∈ li.set p (gone z) := List.mem_iff_getElem.2 ⟨p, by simpa using hp, by simp⟩
  have hfrom : ∀ y ∈ li.set p (gone z), ∃ y' ∈ li, y.u = y'.u ∧ y.d = y'.d := fun y hy => by
    rcases List.mem_or_eq_of_mem_set hy with h1 | rfl
    · exact ⟨y, h1, rfl, rfl⟩
    · exact ⟨z, hz, rfl, rfl⟩
  have hcnt : ∀ w : Int, cntL (li.set p (gone z)) w = cntL li w := fun w => by
    rw [cntL_eq, cntL_eq]
    have := filter_set (fun y => y.u == w) hp (gone z)
    rw [hpz, hgu] at this
    omega
  refine ⟨by rw [List.length_set]; exact h.len, by rw [List.length_set]; exact h.lenl, strict_set h.st hp (by rw [hpz]; rfl) (by rw [hpz]; rfl), fun j hj h3 => ?_, h.inj, fun y hy => ?_, fun y hy => ?_⟩
  · rw [List.length_set] at h3
    obtain ⟨y, hy, y1, y2, y3⟩ := h.pos j hj h3
    by_cases hjk : j = k
    · subst hjk
      refine ⟨gone z, hgm, by rw [hgu, z1], by rw [hgd, z2], ?_⟩
      rw [List.getElem_set_self]
      rfl
    · refine ⟨y, hmem y hy (fun hh => ?_), y1, y2, ?_⟩
      · subst hh
        exact hjk (h.inj j k hj hk (Prod.ext (by rw [← y1, z1]) (by rw [← y2, z2])))
      · rw [List.getElem_set_ne (Ne.symm hjk)]
        exact y3
  · rw [hcnt]
    obtain ⟨y', hy', e1, e2⟩ := hfrom y hy
    rw [e1, e2]
    exact h.low y' hy'
  · obtain ⟨y', hy', e1, e2⟩ := hfrom y hy
    rw [e1, e2]
    exact h.back y' hy'
end Go.Proofs.YtmmhbehlpppdiaaGreatDoor.Wl
namespace Go.Proofs.YtmmhbehlpppdiaaGreatDoor.Wl
open Go.RowKit Go.Pw
structure Fx where
  (WB PB TB TM AB KB SB RB BM LM NB : Nat)
  (sv : Value)
  (lg : Nat)
structure De where
  (D K : Nat)
  (bp ag sg kv ov : Value)
  (u d : Int)
def deR (F : Fx) (e : De) : List Res := [blk e.D (dc F.PB e.K e.bp (.float .f64 F.lg)) 98, blk e.K (kc e.u e.d e.ag e.sg e.kv e.ov 6 (.slice none 0 0)) 176]
def deRs (F : Fx) (des : List De) : List Res := des.reverse.flatMap (deR F)
theorem deRs_more (F : Fx) (des : List De) (e : De) : deRs F (des ++ [e]) = deR F e ++ deRs F des := by simp [deRs]
theorem deRs_in (F : Fx) {des : List De} {e : De} (h : e ∈ des) : ∀ r ∈ deR F e, r ∈ deRs F des := fun r hr => by
  simp only [deRs, List.mem_flatMap, List.mem_reverse]
  exact ⟨e, h, hr⟩
def whoL (des : List De) : List (Int × Int) := des.map fun e => (e.u, e.d)
def blkL (des : List De) : List Nat := des.map De.D
theorem whoL_len (des : List De) : (whoL des).length = des.length := by simp [whoL]
theorem blkL_len (des : List De) : (blkL des).length = des.length := by simp [blkL]
def wR (F : Fx) (v hv rv dv ov mv : Value) (l : List Tm) (m : Int) (hs : List Bool) (li : List Li) (bm : List ((Int × Int) × Value)) (ds : List Nat) (ons : List Bool) (nM : Nat) (ms : List Value) (rest : List Res) : List Res :=
  primR F.PB F.TB F.TM v l F.sv m (advR F.AB F.PB F.KB F.TB hv hs (srvR F.SB F.RB F.BM F.LM rv li bm [] nl [] (blk F.WB (wb F.PB F.SB dv ov F.NB (.float .f64 0) (.float .f64 F.lg) F.AB mv) 61 :: row 41 1 dv ds.length (dpL ds) :: row 4 1 ov ons.length (bl ons) :: row 52 9 mv nM ms :: rest)))
def St (w0 : World) (F : Fx) (i : Nat) (des : List De) (ons : List Bool) (li : List Li) (on4 : List Bool) (v4 : Value) (w : World) : Prop :=
  ∃ (v hv rv dv ov mv : Value) (l : List Tm) (m : Int) (hs : List Bool) (bm : List ((Int × Int) × Value)) (nM : Nat) (ms : List Value),
    RelW (whoL des) ons li ∧ l.length ≤ 64 * i ∧ 0 ≤ m ∧ m ≤ 7 * i ∧ hs.length ≤ l.length ∧ des.length ≤ i ∧ nM ≤ i ∧
    Sep w0 w (wR F v hv rv dv ov mv l m hs li bm (blkL des) ons nM ms (row 4 1 v4 on4.length (bl on4) :: deRs F des))

theorem St.quiet {w0 : World} {F : Fx} {i : Nat} {des : List De} {ons : List Bool} {li : List Li} {on4 : List Bool} {v4 : Value} {w w' : World} (h : St w0 F i des ons li on4 v4 w) (o : Only w w' []) : St w0 F i des ons li on4 v4 w' := by
  obtain ⟨v, hv, rv, dv, ov, mv, l, m, hs, bm, nM, ms, h1, h2, h3, h4, h5, h6, h7, h8⟩ := h
  exact ⟨v, hv, rv, dv, ov, mv, l, m, hs, bm, nM, ms, h1, h2, h3, h4, h5, h6, h7, h8.quiet o⟩
theorem St.only {w0 : World} {F : Fx} {i : Nat} {des : List De} {ons : List Bool} {li : List Li} {on4 : List Bool} {v4 : Value} {w : World} (h : St w0 F i des ons li on4 v4 w) : Only w0 w [] := by
  obtain ⟨v, hv, rv, dv, ov, mv, l, m, hs, bm, nM, ms, h1, h2, h3, h4, h5, h6, h7, h8⟩ := h
  exact h8.1
theorem st_new {w0 w1 w : World} (o : Only w0 w1 []) {WB PB TB TM AB KB SB RB BM LM NB : Nat} {sv : Value} (lg : Nat)
    (h : Sep w1 w (primR PB TB TM nl [] sv 0 (advR AB PB KB TB nl [] (srvR SB RB BM LM nl [] [] [] nl [] [blk WB (wb PB SB nl nl NB (.float .f64 0) (.float .f64 lg) AB nl) 61])))) :
    St w0 ⟨WB, PB, TB, TM, AB, KB, SB, RB, BM, LM, NB, sv, lg⟩ 0 [] [] [] [] nl w := by
  have s1 : Sep w0 w (primR PB TB TM nl [] sv 0 (advR AB PB KB TB nl [] (srvR SB RB BM LM nl [] [] [] nl [] [blk WB (wb PB SB nl nl NB (.float .f64 0) (.float .f64 lg) AB nl) 61]))) := ((Sep.nil w0).quiet o).more h
  have s2 := ((((s1.rown 4 1).rown 52 9).rown 4 1).rown 41 1).sel 20 [4, 5, 6, 7, 8, 9, 10, 11, 12, 13, 14, 15, 16, 17, 18, 19, 0, 1, 2, 3]
  exact ⟨nl, nl, nl, nl, nl, nl, [], 0, [], [], 0, [], relW_nil, by simp, by omega, by omega, by simp, by simp, by omega, s2⟩
end Go.Proofs.YtmmhbehlpppdiaaGreatDoor.Wl
namespace Go.Proofs.YtmmhbehlpppdiaaGreatDoor.Wl
open Go.RowKit Go.Pw

section
variable {w0 : World} {F : Fx} {i : Nat} {des : List De} {ons : List Bool} {li : List Li} {on4 : List Bool} {v4 : Value} {w : World}
theorem act_link (u : Int) (h : St w0 F i des ons li on4 v4 w) (hI : ItoaOK w0) (hi : i ≤ 60) (hu : 0 ≤ u) :
    Calls Tryz.prog 6 #[.pointer (some ⟨F.WB, 0, none⟩), opV 0 0 u] w fun e w' =>
      (∃ z : Int, e = .returned (.int .i64 z) ∧ (z = 1 ∨ z = 3) ∧ (z = 1 ↔ 8 ≤ u) ∧ St w0 F (i + 1) des ons li on4 v4 w') ∨
      (e = .returned (.int .i64 0) ∧ u < 8 ∧ ∃ (des' : List De) (li' : List Li), St w0 F (i + 1) des' (ons ++ [true]) li' on4 v4 w') := by
  obtain ⟨v, hv, rv, dv, ov, mv, l, m, hs, bm, nM, ms, h1, h2, h3, h4, h5, h6, h7, h8⟩ := h
  obtain ⟨q1, q2⟩ := next_err li u hu
  have hlen : li.length ≤ 900000 := by have := h1.lenl; rw [whoL_len] at this; omega
  have hds : (blkL des).length ≤ 900000 := by rw [blkL_len]; omega
  have hon : ons.length ≤ 900000 := by have := h1.len; rw [whoL_len] at this; omega
  refine do_link F.WB u w (fun w1 o1 => ?_)
  have s1 := h8.quiet o1
  by_cases hz : (nextD li u).2 = 0
  · have hnw := next_new hz
    have hfr := h1.fresh u
    have hu8 : ¬ 8 ≤ u := fun h => by have := q1.2 h; omega
    refine (wlink_ok F.WB F.PB F.TB F.TM F.AB F.KB F.SB F.RB F.BM F.LM F.NB v hv rv dv ov mv (.float .f64 0) F.sv nl F.lg l m hs li bm [] [] (blkL des) ons nM ms u ((cntL li u : Int) + 1) w1 s1 hI (by omega) ⟨h3, by omega⟩ h5 hlen h1.st.rise hnw hfr (by omega) hds hon).mono ?_
    rintro e w2 ⟨rfl, DB, KD, x, v2, hv2, rv2, dv2, ov2, mv2, bp, ag, sg, kv, kov, l2, m2, hs2, bm2, ms2, x1, x2, x3, b1, b2, b3, b4, b5, s2⟩
    refine ⟨⟨0, rfl⟩, .inr ⟨rfl, by omega, des ++ [⟨DB, KD, bp, ag, sg, kv, kov, u, (cntL li u : Int) + 1⟩], (insL li (newL u ((cntL li u : Int) + 1))).set (placeL li u ((cntL li u : Int) + 1)) x, v2, hv2, rv2, dv2, ov2, mv2, l2, m2, hs2, bm2, nM + 1, ms2, ?_, by omega, by omega, by omega, b5, by simp; omega, by omega, ?_⟩⟩
    · exact (show whoL (des ++ [⟨DB, KD, bp, ag, sg, kv, kov, u, (cntL li u : Int) + 1⟩]) = whoL des ++ [(u, (cntL li u : Int) + 1)] by simp [whoL]) ▸ h1.link u _ rfl x x1 x2 x3
    · rw [deRs_more, show blkL (des ++ [⟨DB, KD, bp, ag, sg, kv, kov, u, (cntL li u : Int) + 1⟩]) = blkL des ++ [DB] by simp [blkL]]
      exact s2.sel 22 [0, 1, 2, 3, 4, 5, 6, 7, 8, 9, 10, 11, 12, 13, 14, 15, 16, 17, 18, 21, 19, 20]
  · refine (wlink_no F.WB F.PB F.TB F.TM F.AB F.KB F.SB F.RB F.BM F.LM F.NB v hv rv dv ov mv (.float .f64 0) F.sv nl F.lg l m hs li bm [] [] (blkL des) ons nM ms u w1 s1 hlen h1.st.rise hz).mono ?_
    rintro e w2 ⟨rfl, o2⟩
    exact ⟨⟨_, rfl⟩, .inl ⟨_, rfl, by omega, q1, v, hv, rv, dv, ov, mv, l, m, hs, bm, nM, ms, h1, by omega, h3, by omega, h5, by omega, by omega, s1.quiet o2⟩⟩
theorem act_none (k : Nat) (h : St w0 F i des ons li on4 v4 w) (hk : ons.length ≤ k) :
    Calls Tryz.prog 6 #[.pointer (some ⟨F.WB, 0, none⟩), opV 1 k 0] w fun e w' => e = .returned (.int .i64 1) ∧ St w0 F (i + 1) des ons li on4 v4 w' := by
  obtain ⟨v, hv, rv, dv, ov, mv, l, m, hs, bm, nM, ms, h1, h2, h3, h4, h5, h6, h7, h8⟩ := h
  have hl := h1.len
  rw [whoL_len] at hl
  refine (do_unlink_arg F.WB F.PB F.SB F.NB F.AB dv ov (.float .f64 0) (.float .f64 F.lg) mv (blkL des).length k (dpL (blkL des)) w (h8.get 15 rfl) (h8.get 16 rfl) (by rw [blkL_len]; omega)).mono ?_
  rintro e w2 ⟨rfl, o2⟩
  exact ⟨rfl, v, hv, rv, dv, ov, mv, l, m, hs, bm, nM, ms, h1, by omega, h3, by omega, h5, by omega, by omega, h8.quiet o2⟩
theorem act_gone (k : Nat) (h : St w0 F i des ons li on4 v4 w) (hk : k < ons.length) (hoff : ons[k] = false) :
    Calls Tryz.prog 6 #[.pointer (some ⟨F.WB, 0, none⟩), opV 1 k 0] w fun e w' => e = .returned (.int .i64 14) ∧ St w0 F (i + 1) des ons li on4 v4 w' := by
  obtain ⟨v, hv, rv, dv, ov, mv, l, m, hs, bm, nM, ms, h1, h2, h3, h4, h5, h6, h7, h8⟩ := h
  have hl := h1.len
  rw [whoL_len] at hl
  refine (do_unlink_gone F.WB F.PB F.SB F.NB F.AB dv ov (.float .f64 0) (.float .f64 F.lg) mv (blkL des).length k (dpL (blkL des)) ons w (h8.get 15 rfl) (h8.get 16 rfl) (h8.get 17 rfl) (by rw [blkL_len]; omega) hk hoff).mono ?_
  rintro e w2 ⟨rfl, o2⟩
  exact ⟨rfl, v, hv, rv, dv, ov, mv, l, m, hs, bm, nM, ms, h1, by omega, h3, by omega, h5, by omega, by omega, h8.quiet o2⟩
theorem act_off (k : Nat) (h : St w0 F i des ons li on4 v4 w) (hi : i ≤ 60) (hk : k < ons.length) (hoff : ons[k] = true) :
    Calls Tryz.prog 6 #[.pointer (some ⟨F.WB, 0, none⟩), opV 1 k 0] w fun e w' => e = .returned (.int .i64 0) ∧ ∃ li', St w0 F (i + 1) des (ons.set k false) li' on4 v4 w' := by
  obtain ⟨v, hv, rv, dv, ov, mv, l, m, hs, bm, nM, ms, h1, h2, h3, h4, h5, h6, h7, h8⟩ := h
  have hl := h1.len
  have hl2 := h1.lenl
  have hI := h1.is k (by omega) hk
  have hU := h1.unlink k (by omega) hk hoff
  rw [whoL_len] at hl hl2
  have hkd : k < des.length := by omega
  rw [hoff, show (whoL des)[k] = (des[k].u, des[k].d) by simp [whoL]] at hI
  rw [show (whoL des)[k] = (des[k].u, des[k].d) by simp [whoL]] at hU
  have hm := deRs_in F (List.getElem_mem hkd)
  refine (do_unlink_ok F.WB F.PB F.TB F.TM F.AB F.KB F.SB F.RB F.BM F.LM F.NB v hv rv dv ov mv (.float .f64 0) F.sv nl F.lg l m hs li bm [] [] (blkL des) ons nM ms k des[k].D des[k].K des[k].u des[k].d 6 des[k].bp (.float .f64 F.lg) des[k].ag des[k].sg des[k].kv des[k].ov (.slice none 0 0) w h8 (fun w' hr => ⟨hr _ (.tail _ (hm _ (.head _))), hr _ (.tail _ (hm _ (.tail _ (.head _))))⟩) (by omega) h1.st.rise hI (by omega) (by rw [blkL_len]; exact hkd) (by simp [blkL]) hk hoff).mono ?_
  rintro e w2 ⟨rfl, bm2, mv2, ms2, s2⟩
  exact ⟨rfl, remL li des[k].u des[k].d, v, hv, rv, dv, ov, mv2, l, m, hs, bm2, nM + 1, ms2, hU, by omega, h3, by omega, h5, by omega, by omega, s2⟩

theorem st_devices (h : St w0 F i des ons li on4 v4 w) :
    Calls Tryz.prog 7 #[.pointer (some ⟨F.WB, 0, none⟩)] w fun e w' => e = .returned (.int .i64 ons.length) ∧ Only w w' [] := by
  obtain ⟨v, hv, rv, dv, ov, mv, l, m, hs, bm, nM, ms, h1, h2, h3, h4, h5, h6, h7, h8⟩ := h
  have hl := h1.len
  rw [whoL_len, ← blkL_len] at hl
  rw [hl]
  exact devices_any F.WB F.PB F.SB F.NB F.AB dv ov (.float .f64 0) (.float .f64 F.lg) mv (blkL des).length (dpL (blkL des)) w (h8.get 15 rfl) (h8.get 16 rfl)
theorem st_on (j : Int) (h : St w0 F i des ons li on4 v4 w) :
    Calls Tryz.prog 8 #[.pointer (some ⟨F.WB, 0, none⟩), .int .i64 j] w fun e w' => e = .returned (.bool (if j < 0 then false else ons.getD j.toNat false)) ∧ Only w w' [] := by
  obtain ⟨v, hv, rv, dv, ov, mv, l, m, hs, bm, nM, ms, h1, h2, h3, h4, h5, h6, h7, h8⟩ := h
  have hl := h1.len
  rw [whoL_len, ← blkL_len] at hl
  exact on_any F.WB F.PB F.SB F.NB F.AB dv ov (.float .f64 0) (.float .f64 F.lg) mv (blkL des).length (dpL (blkL des)) ons j w (h8.get 15 rfl) (h8.get 16 rfl) (h8.get 17 rfl) hl.symm
theorem st_server (h : St w0 F i des ons li on4 v4 w) :
    Calls Tryz.prog 9 #[.pointer (some ⟨F.WB, 0, none⟩)] w fun e w' => e = .returned (.pointer (some ⟨F.SB, 0, none⟩)) ∧ Only w w' [] := by
  obtain ⟨v, hv, rv, dv, ov, mv, l, m, hs, bm, nM, ms, h1, h2, h3, h4, h5, h6, h7, h8⟩ := h
  exact server_any F.WB F.PB F.SB F.NB F.AB dv ov (.float .f64 0) (.float .f64 F.lg) mv w (h8.get 15 rfl)
theorem st_registry (h : St w0 F i des ons li on4 v4 w) :
    Calls Tryz.prog 10 #[.pointer (some ⟨F.SB, 0, none⟩)] w fun e w' => e = .returned (.pointer (some ⟨F.RB, 0, none⟩)) ∧ Only w w' [] := by
  obtain ⟨v, hv, rv, dv, ov, mv, l, m, hs, bm, nM, ms, h1, h2, h3, h4, h5, h6, h7, h8⟩ := h
  exact registry_any F.SB F.RB F.BM F.LM nl w (h8.get 11 rfl)
theorem st_device (j : Nat) (h : St w0 F i des ons li on4 v4 w) (hj : j < des.length) :
    Calls Tryz.prog 12 #[.pointer (some ⟨F.WB, 0, none⟩), .int .i64 j] w fun e w' => e = .returned (.pointer (some ⟨des[j].D, 0, none⟩)) ∧ Only w w' [] := by
  obtain ⟨v, hv, rv, dv, ov, mv, l, m, hs, bm, nM, ms, h1, h2, h3, h4, h5, h6, h7, h8⟩ := h
  have := device_any F.WB F.PB F.SB F.NB F.AB dv ov (.float .f64 0) (.float .f64 F.lg) mv (blkL des) j w (h8.get 15 rfl) (h8.get 16 rfl)
  rw [show devAt (blkL des) j = .pointer (some ⟨des[j].D, 0, none⟩) by
    rw [devAt, if_neg (by omega)]
    simp [blkL, hj]] at this
  exact this
theorem st_nodevice (j : Int) (h : St w0 F i des ons li on4 v4 w) (hj : j < 0 ∨ des.length ≤ j) :
    Calls Tryz.prog 12 #[.pointer (some ⟨F.WB, 0, none⟩), .int .i64 j] w fun e w' => e = .returned (.pointer none) ∧ Only w w' [] := by
  obtain ⟨v, hv, rv, dv, ov, mv, l, m, hs, bm, nM, ms, h1, h2, h3, h4, h5, h6, h7, h8⟩ := h
  have := device_any F.WB F.PB F.SB F.NB F.AB dv ov (.float .f64 0) (.float .f64 F.lg) mv (blkL des) j w (h8.get 15 rfl) (h8.get 16 rfl)
  rw [show devAt (blkL des) j = .pointer none by
    rw [devAt]
    split
    · rfl
    · rw [List.getElem?_eq_none (by rw [blkL_len]; omega)]] at this
  exact this
theorem st_who (j : Nat) (h : St w0 F i des ons li on4 v4 w) (hj : j < des.length) :
    Calls Tryz.prog 13 #[.pointer (some ⟨des[j].D, 0, none⟩)] w fun e w' => e = .returned (wv des[j].u des[j].d) ∧ Only w w' [] := by
  obtain ⟨v, hv, rv, dv, ov, mv, l, m, hs, bm, nM, ms, h1, h2, h3, h4, h5, h6, h7, h8⟩ := h
  have hm := deRs_in F (List.getElem_mem hj)
  have hr : ∀ r ∈ deR F des[j], r.ok w := fun r hr => h8.ok r (by simp [wR, primR, advR, srvR, hm r hr])
  exact dwho_any des[j].D F.PB des[j].K des[j].u des[j].d des[j].bp _ des[j].ag des[j].sg des[j].kv des[j].ov _ 6 w (hr _ (.head _)) (hr _ (.tail _ (.head _)))
theorem st_is (j : Nat) (h : St w0 F i des ons li on4 v4 w) (hi : i ≤ 60) (hj : j < des.length) (hj2 : j < ons.length) :
    Calls Tryz.prog 11 #[.pointer (some ⟨F.RB, 0, none⟩), wv des[j].u des[j].d] w fun e w' => e = .returned (.bool ons[j]) ∧ Only w w' [] := by
  obtain ⟨v, hv, rv, dv, ov, mv, l, m, hs, bm, nM, ms, h1, h2, h3, h4, h5, h6, h7, h8⟩ := h
  have hI := h1.is j (by rw [whoL_len]; exact hj) hj2
  rw [show (whoL des)[j]'(by rw [whoL_len]; exact hj) = (des[j].u, des[j].d) by simp [whoL]] at hI
  have hl2 := h1.lenl
  rw [whoL_len] at hl2
  exact hI ▸ Go.Proofs.YtmmhbehlpppdiaaGreatDoor.is_any F.RB li rv des[j].u des[j].d w (h8.sel 10 [8, 9]) (by omega) h1.st.rise
theorem st_len (h : St w0 F i des ons li on4 v4 w) : des.length = ons.length ∧ ons.length ≤ i := by
  obtain ⟨v, hv, rv, dv, ov, mv, l, m, hs, bm, nM, ms, h1, h2, h3, h4, h5, h6, h7, h8⟩ := h
  have hl := h1.len
  rw [whoL_len] at hl
  omega
theorem st_row (h : St w0 F i des ons li on4 v4 w) : w.ownsRow 0 4 1 v4 on4.length (bl on4) := by
  obtain ⟨v, hv, rv, dv, ov, mv, l, m, hs, bm, nM, ms, h1, h2, h3, h4, h5, h6, h7, h8⟩ := h
  exact h8.get 19 rfl
theorem st_turn (h : St w0 F i des ons li on4 v4 w) : ∃ rs, Sep w0 w (row 4 1 v4 on4.length (bl on4) :: rs) ∧ ∀ v4' on4' w', Sep w0 w' (row 4 1 v4' on4'.length (bl on4') :: rs) → St w0 F i des ons li on4' v4' w' := by
  obtain ⟨v, hv, rv, dv, ov, mv, l, m, hs, bm, nM, ms, h1, h2, h3, h4, h5, h6, h7, h8⟩ := h
  refine ⟨_, h8.sel 20 [19, 0, 1, 2, 3, 4, 5, 6, 7, 8, 9, 10, 11, 12, 13, 14, 15, 16, 17, 18], fun v4' on4' w' s => ⟨v, hv, rv, dv, ov, mv, l, m, hs, bm, nM, ms, h1, h2, h3, h4, h5, h6, h7, ?_⟩⟩
  exact s.sel 20 [1, 2, 3, 4, 5, 6, 7, 8, 9, 10, 11, 12, 13, 14, 15, 16, 17, 18, 19, 0]
end
end Go.Proofs.YtmmhbehlpppdiaaGreatDoor.Wl
namespace Go.Pw
open Go.RowKit
theorem wpList_put_row {P : Program} {ops : Array Oper} {rest : List Oper} {op : Oper} {a : Act} {w w0 : World} {rs : List Res} {Q : Exit → Act → World → Prop} (hgd : op.guard = none) (ty : TypeId) (x y : Operand) (ho : op.op = .store ty x y) (g off : Nat) (v : Value) (cells : List Value) (hv : v.cells = cells.toArray) (e size n cap : Nat) (xs : List Value)
    (hx : a.eval x = .pointer (some ⟨g, off, none⟩)) (hy : a.eval y = v) (hs : Sep w0 w (row e size (.slice (some ⟨g, 0, none⟩) n cap) n xs :: rs)) (ho' : off + cells.length ≤ n * size) (hi : (P.info? ty).map (·.size) = some cells.length) (h1 : ∀ u ∈ cells, u.oneCell' = true)
    (h : ∀ w', Sep w0 w' (row e size (.slice (some ⟨g, 0, none⟩) n cap) n (setL xs off cells) :: rs) → wpList P ops Q rest (a.put op.dst undef) w') : wpList P ops Q (op :: rest) a w :=
  wpList_plain hgd fun K hK => by
    have := step_store_rec (ops := ops) (K := K) (Q := Q) (E := False) hgd ty x y ho g off v cells hv e size n cap xs hx hy hs ho' hi h1 (fun w' _ s' => hK _ _ (h w' s'))
    simpa [Region.wanted, hgd] using this
theorem wpList_buildSlice_any {P : Program} {ops : Array Oper} {rest : List Oper} {op : Oper} {a : Act} {w : World} {Q : Exit → Act → World → Prop} (hgd : op.guard = none) (t : TypeId) (x : Operand) (ho : op.op = .buildSlice t 1 #[(0, x)]) (e : TypeId) (i : TypeInfo) (z : Value) (u : Value) (cs : List Value) (hx : a.eval x = u) (hv : u.cells = cs.toArray)
    (ht : P.underlying t = some (.slice e)) (hi : P.info? e = some i) (hz : i.zero = some z) (hs : i.size = cs.length) (hzs : z.cells.size = cs.length) (h0 : 0 < cs.length) (hb : cs.length ≤ 1000)
    (h : ∀ X w', Only w w' [] → w.heap.size ≤ X → w'.heap[X]? = some (.cells cs.toArray e (0, 0)) → wpList P ops Q rest (a.put op.dst (.slice (some ⟨X, 0, none⟩) 1 1)) w') : wpList P ops Q (op :: rest) a w :=
  wpList_plain hgd fun K hK => by
    have := step_buildSlice_any (ops := ops) (K := K) (Q := Q) (E := False) hgd t x ho e i z u cs hx hv ht hi hz hs hzs h0 hb (fun X w' o l hX => hK _ _ (h X w' o l hX))
    simpa [Region.wanted, hgd] using this
end Go.Pw
namespace Go.Proofs.YtmmhbehlpppdiaaGreatDoor.Wl
open Go.RowKit Go.Pw

def uc (x : Int) : List Value := [.int .u8 x]
theorem uc_len (x : Int) : (uc x).length = 1 := rfl
theorem st_cell {w0 : World} {F : Fx} {i : Nat} {des : List De} {ons : List Bool} {li : List Li} {on4 : List Bool} {g c n : Nat} {w : World} (h : St w0 F i des ons li on4 (.slice (some ⟨g, 0, none⟩) n c) w) {j : Nat} (hj : j < on4.length) : w.cell? ⟨g, j, none⟩ = some (.bool on4[j]) := by
  have h1 := st_row h
  obtain ⟨ao, c', he⟩ := own_slice h1
  simp only [Value.slice.injEq] at he
  obtain ⟨_, rfl, _⟩ := he
  exact bl_at h1 hj
theorem setL_same {xs : List Bool} {k : Nat} (hk : k < xs.length) (h : xs[k] = false) : setL (bl xs) k [.bool false] = bl xs := by
  have e : xs.set k false = xs := by rw [← h]; exact List.set_getElem_self hk
  rw [← e]
  simp [setL, bl, List.map_set]
set_option maxRecDepth 100000 in
set_option maxHeartbeats 6400000 in
theorem links_any (v : Value) (l : List Int) (W : World) (h : Pw.Src W v 1 l.length (fl uc l)) (hwf : ∀ x ∈ l, 0 ≤ x ∧ x < 256) (hI : ItoaOK W) (awk : ∀ W', Only W W' [] → Calls Tryz.prog 4 #[] W' fun e w => e = .returned (.bool true) ∧ Only W' w []) :
    Calls Tryz.prog 3 #[v] W fun e w' => e = .returned (.bool true) ∧ Only W w' [] := by
  obtain ⟨ao, c, rfl, _⟩ : ∃ ao c, v = .slice ao l.length c ∧ True := by
    obtain ⟨ao, c, h, _⟩ := h
    exact ⟨ao, c, h, trivial⟩
  have HS := fun (hp : 0 < l.length) => src_rec uc_len (by decide) h hp
  obtain ⟨ib, hib, hzb0, hzb1, hzb2⟩ := info_parts info_bool
  clear h
  by_cases hl : (50 : Int) < l.length
  · have d1 : decide ((50 : Int) < l.length) = true := by simpa using hl
    go_enter Tryz.func3, Tryz.ntmps3
    go_wp2_with fail
    refine (awk W (Only.refl _ _)).mono ?_
    rintro e w1 ⟨rfl, o1⟩
    go_wp2_with fail
    refine (awk w1 o1).mono ?_
    rintro e w2 ⟨rfl, o2⟩
    go_wp2_with fail
    go_ret
    exact ⟨rfl, o1.trans o2⟩
  · have d1 : decide ((50 : Int) < l.length) = false := by simpa using hl
    have hl := Lib.hid (show l.length ≤ 50 by omega)
    go_enter Tryz.func3, Tryz.ntmps3
    go_wp2_with fail
    refine (awk W (Only.refl _ _)).mono ?_
    rintro e w1 ⟨rfl, o1⟩
    go_wp2_with fail
    refine (play_nil w1).mono ?_
    rintro e w2 ⟨WB, PB, TB, TM, AB, KB, SB, RB, BM, LM, NB, sv, rfl, s2⟩
    have h0 := st_new o1 _ s2
    clear s2 awk d1
    obtain ⟨F, hF⟩ : ∃ F : Fx, F = ⟨WB, PB, TB, TM, AB, KB, SB, RB, BM, LM, NB, sv, 4626322717216342016⟩ := ⟨_, rfl⟩
    rw [← hF] at h0
    obtain rfl : WB = F.WB := by rw [hF]
    clear hF
    go_wp2_with fail
    go_loopw [4, 5] (fun on i wr => ∃ (k : Nat) (des : List De) (ons : List Bool) (li : List Li), i = .int .i64 k ∧ k ≤ l.length ∧ St W F k des ons li ons on wr) (fun _ i _ => l.length - (intOf i).toNat)
    case atStart => exact ⟨0, [], [], [], rfl, Nat.zero_le _, h0⟩
    case round =>
      obtain ⟨k, des, ons, li, rfl, hk, hst⟩ := hrel
      obtain ⟨a4, c4, rfl⟩ := own_slice (st_row hst)
      obtain ⟨hdl, hol⟩ := st_len hst
      by_cases hkl : k < l.length
      · have e1 : decide ((k : Int) < l.length) = true := by simpa using hkl
        have hk50 : k < 50 := by omega
        obtain ⟨b0, o0, rfl, hr⟩ := HS (by omega)
        have hx := hwf l[k] (List.getElem_mem hkl)
        have hrr := fun w' ow => hr w' ow k hkl
        generalize l[k] = x at *
        have hrx : ∀ w', Only W w' [] → w'.cell? ⟨b0, o0 + k, none⟩ = some (.int .u8 x) := fun w' ow => by
          have := hrr w' ow 0 _ rfl
          simpa using this
        have hx0 := hrx _ hst.only
        clear hr hrr HS hrx
        obtain ⟨x2, hx2⟩ : ∃ m : Nat, x / 2 = m := ⟨(x / 2).toNat, by omega⟩
        have f1 : x.tdiv 2 = x2 := by rw [Int.tdiv_eq_ediv_of_nonneg hx.1, hx2]
        have f2 : x.tmod 2 = x % 2 := Int.tmod_eq_emod_of_nonneg hx.1
        have f3 : (x2 : Int).tmod 10 = x2 % 10 := Int.tmod_eq_emod_of_nonneg (by omega)
        have f4 : IntKind.u8.wrap x2 = x2 := by rw [IntKind.wrap_u8]; omega
        have f5 : IntKind.i64.wrap (x2 : Int) = x2 := IntWalk.i64_in _ (by omega)
        have hAL := act_link (x2 % 10) hst hI (by omega) (by omega)
        have hAN := act_none x2 hst
        have hAG := act_gone x2 hst
        have hAO := act_off x2 hst (by omega)
        simp only [opV] at hAL hAN hAG hAO
        have bq := fun w => (show (binOp .neq 4 (.bool true) (.bool true)).run Tryz.prog w = .ok (.bool false) w from by rfl)
        go_upto_if 37 with fail
        have hAG2 : x2 < ons.length → ∃ g, a4 = some ⟨g, 0, none⟩ := fun hlt => by
          obtain ⟨g, hg, _⟩ := own_some (st_row hst) (by omega)
          exact ⟨g, hg⟩
        clear hst
        go_cut [4] from 20 to 111 (fun u4 wx => ∃ (des' : List De) (ons' : List Bool) (li' : List Li), St W F (k + 1) des' ons' li' ons' u4 wx)
        case first =>
          by_cases hp : x % 2 = 0
          · generalize (x2 : Int) % 10 = u at *
            have g1 : (x % 2 == 0) = true := by simpa using hp
            have g2 : decide (x % 2 = 0) = true := by simpa using hp
            clear hAN hAG hAO
            go_wp2_with fail
            refine hAL.mono ?_
            rintro e w3 (⟨z, rfl, hz, hz8, hst⟩ | ⟨rfl, hu8, des', li', hst⟩)
            · rcases hz with rfl | rfl
              · have g3 : decide (8 ≤ u) = true := by simpa using hz8
                go_wp2_with fail
                go_meet
                case rel => exact ⟨des, ons, li, hst⟩
              · have g3 : decide (8 ≤ u) = false := by simpa using hz8
                go_wp2_with fail
                go_meet
                case rel => exact ⟨des, ons, li, hst⟩
            · have g3 : decide (8 ≤ u) = false := by simpa using hu8
              obtain ⟨rs, s4, H4⟩ := st_turn hst
              have hlen4 : ons.length ≤ 1000 := by omega
              clear hst hAL
              go_upto_region 12 with fail
              go_wp2_with (first
                | (refine wpList_buildSlice_any rfl 26 _ rfl 4 ib _ (.bool true) [.bool true] rfl rfl Tryz.underlying26 hib hzb0 (by rw [hzb1]; rfl) rfl (by simp) (by simp) ?_; intro Y w4 o4 hYl hY; have s5 := s4.quiet o4)
                | (refine wpList_append_sep rfl (.tmp 45) (.tmp 46) 26 rfl 4 ib _ 1 1 Tryz.underlying26 hib hzb0 hzb1 hzb2 rfl (by decide) _ ons.length _ rfl s5 _ 1 [.bool true] rfl (src_blk hY rfl) (by simp [Value.oneCell']) (by unfold maxLen; omega) (by omega) ?_; intro a6 c6 w6 o6 s6))
              go_meet
              case rel => exact ⟨des', ons ++ [true], li', H4 _ _ _ (by rw [List.length_append]; simpa [bl] using s6)⟩
          · have g1 : (x % 2 == 0) = false := by simpa using hp
            have g2 : decide (x % 2 = 0) = false := by simpa using hp
            clear hAL
            by_cases hlt : x2 < ons.length
            · have g3 : decide ((x2 : Int) < ons.length) = true := by simpa using hlt
              have g4 : (x2 : Int) < ons.length := by omega
              obtain ⟨g, rfl⟩ := hAG2 hlt
              by_cases hon : ons[x2] = true
              · go_wp2_with fail
                refine (hAO hlt hon).mono ?_
                rintro e w3 ⟨rfl, li', hst⟩
                have hc := st_cell hst hlt
                rw [hon] at hc
                obtain ⟨rs, s4, H4⟩ := st_turn hst
                go_upto_region 23 with fail
                clear hc
                go_wp2_with (refine wpList_put_row rfl 4 _ _ rfl g x2 (.bool false) [.bool false] rfl 4 1 ons.length c4 _ rfl rfl s4 (show x2 + 1 ≤ ons.length * 1 by omega) (by kernel_rfl) (by simp [Value.oneCell']) ?_; intro w4 s5)
                go_meet
                case rel => exact ⟨des, ons.set x2 false, li', H4 _ _ _ (by rw [List.length_set]; simpa [setL, bl, List.map_set] using s5)⟩
              · have hon : ons[x2] = false := by simpa using hon
                go_wp2_with fail
                refine (hAG hlt hon).mono ?_
                rintro e w3 ⟨rfl, hst⟩
                have hc := st_cell hst hlt
                rw [hon] at hc
                obtain ⟨rs, s4, H4⟩ := st_turn hst
                go_upto_region 23 with fail
                clear hc
                go_wp2_with (refine wpList_put_row rfl 4 _ _ rfl g x2 (.bool false) [.bool false] rfl 4 1 ons.length c4 _ rfl rfl s4 (show x2 + 1 ≤ ons.length * 1 by omega) (by kernel_rfl) (by simp [Value.oneCell']) ?_; intro w4 s5)
                go_meet
                case rel => exact ⟨des, ons, li, H4 _ _ _ (by rw [setL_same hlt hon] at s5; exact s5)⟩
            · have g3 : decide ((x2 : Int) < ons.length) = false := by simpa using hlt
              go_wp2_with fail
              refine (hAN (by omega)).mono ?_
              rintro e w3 ⟨rfl, hst⟩
              go_wp2_with fail
              go_meet
              case rel => exact ⟨des, ons, li, hst⟩
        case rest =>
        obtain ⟨des', ons', li', hst⟩ := hcut
        clear hAL hAN hAG hAO
        obtain ⟨a4', c4', rfl⟩ := own_slice (st_row hst)
        clear hdl hol
        obtain ⟨hdl, hol⟩ := st_len hst
        go_wp2_with fail
        refine (st_devices hst).mono ?_
        rintro e w5 ⟨rfl, o5⟩
        have hst := hst.quiet o5
        go_wp2_with fail
        have bn : (binOp .neq 3 (.int .i64 ons'.length) (.int .i64 ons'.length)).run Tryz.prog wc = .ok (.bool false) wc := by simp [go_sem]
        go_loopw [10] (fun u wi => ∃ j : Nat, u = .int .i64 j ∧ j ≤ ons'.length ∧ St W F (k + 1) des' ons' li' ons' (.slice a4' ons'.length c4') wi) (fun u _ => ons'.length - (intOf u).toNat)
        case atStart => exact ⟨0, rfl, Nat.zero_le _, hst⟩
        case round =>
          obtain ⟨j, rfl, hj, hst⟩ := hrel
          by_cases hjl : j < ons'.length
          · have j1 : decide ((j : Int) < ons'.length) = true := by simpa using hjl
            have j2 : (j : Int) < ons'.length := by omega
            obtain ⟨g, rfl, _⟩ := own_some (st_row hst) (by omega)
            obtain ⟨bj, hbj⟩ : ∃ b, ons'[j] = b := ⟨_, rfl⟩
            have hjd : j < des'.length := by omega
            have m3 : (if (j : Int) < 0 then false else ons'.getD ((j : Int).toNat) false) = bj := by
              rw [if_neg (by omega)]
              simp [hjl, hbj]
            have hON := fun w' (h : St W F (k + 1) des' ons' li' ons' (.slice (some ⟨g, 0, none⟩) ons'.length c4') w') => m3 ▸ st_on j h
            have hIS := fun w' (h : St W F (k + 1) des' ons' li' ons' (.slice (some ⟨g, 0, none⟩) ons'.length c4') w') => hbj ▸ st_is j h (by omega) hjd hjl
            have hCL := fun w' (h : St W F (k + 1) des' ons' li' ons' (.slice (some ⟨g, 0, none⟩) ons'.length c4') w') => hbj ▸ st_cell h hjl
            have hDV := fun w' (h : St W F (k + 1) des' ons' li' ons' (.slice (some ⟨g, 0, none⟩) ons'.length c4') w') => st_device j h hjd
            have hWH := fun w' (h : St W F (k + 1) des' ons' li' ons' (.slice (some ⟨g, 0, none⟩) ons'.length c4') w') => st_who j h hjd
            have bb : ∀ w, (binOp .neq 4 (.bool bj) (.bool bj)).run Tryz.prog w = .ok (.bool false) w := fun w => by cases bj <;> rfl
            clear m3 hbj
            generalize des'[j] = dj at *
            obtain ⟨jD, jK, jbp, jag, jsg, jkv, jov, ju, jd⟩ := dj
            simp only [wv] at hIS hWH
            go_upto_region 31 with fail
            have hSV := fun w' (h : St W F (k + 1) des' ons' li' ons' (.slice (some ⟨g, 0, none⟩) ons'.length c4') w') => st_server h
            have hRG := fun w' (h : St W F (k + 1) des' ons' li' ons' (.slice (some ⟨g, 0, none⟩) ons'.length c4') w') => st_registry h
            refine wp_region_u (S := fun w' => St W F (k + 1) des' ons' li' ons' (.slice (some ⟨g, 0, none⟩) ons'.length c4') w') 23 [] (by kernel_rfl) (by kernel_rfl) (hst.quiet (Only.drew _ [])) (fun hZ hHeld => ?_)
            refine' wpAnyU_take (i := 0) (v := _) hZ (op_at' rfl) (by kernel_rfl) (by kernel_rfl) (by kernel_rfl) (by kernel_rfl) (by kernel_rfl) (fun _ _ _ h => h) (Or.inl ⟨by rfl, ?hy1⟩) (by assumption) ?rest1
            case hy1 =>
              intro w' hS
              go_simp
              try with_reducible rfl
            try simp only [Act.put, List.setIfInBounds_toArray, List.set_cons_zero, List.set_cons_succ]
            refine' wpAnyU_take (i := 1) (v := _) hZ (op_at' rfl) (by kernel_rfl) (by kernel_rfl) (by kernel_rfl) (by kernel_rfl) (by kernel_rfl) (fun _ _ _ h => h) (Or.inl ⟨by rfl, ?hy2⟩) (by assumption) ?rest2
            case hy2 =>
              intro w' hS
              go_simp
              try with_reducible rfl
            try simp only [Act.put, List.setIfInBounds_toArray, List.set_cons_zero, List.set_cons_succ]
            refine' wpAnyU_take (i := 3) (v := _) hZ (op_at' rfl) (by kernel_rfl) (by kernel_rfl) (by kernel_rfl) (by kernel_rfl) (by kernel_rfl) (fun _ _ _ h => h) (Or.inl ⟨by rfl, ?hy3⟩) (by assumption) ?rest3
            case hy3 =>
              intro w' hS
              go_simp
              try with_reducible rfl
            try simp only [Act.put, List.setIfInBounds_toArray, List.set_cons_zero, List.set_cons_succ]
            refine' wpAnyU_take (i := 4) (v := _) hZ (op_at' rfl) (by kernel_rfl) (by kernel_rfl) (by kernel_rfl) (by kernel_rfl) (by kernel_rfl) (fun _ _ _ h => h) (Or.inl ⟨by rfl, ?hy4⟩) (by assumption) ?rest4
            case hy4 =>
              intro w' hS
              go_simp
              try with_reducible rfl
            try simp only [Act.put, List.setIfInBounds_toArray, List.set_cons_zero, List.set_cons_succ]
            refine' wpAnyU_take (i := 5) (v := _) hZ (op_at' rfl) (by kernel_rfl) (by kernel_rfl) (by kernel_rfl) (by kernel_rfl) (by kernel_rfl) (fun _ _ _ h => h) (Or.inl ⟨by rfl, ?hy5⟩) (by assumption) ?rest5
            case hy5 =>
              intro w' hS
              go_simp
              try with_reducible rfl
            try simp only [Act.put, List.setIfInBounds_toArray, List.set_cons_zero, List.set_cons_succ]
            refine' wpAnyU_take (i := 6) (v := _) hZ (op_at' rfl) (by kernel_rfl) (by kernel_rfl) (by kernel_rfl) (by kernel_rfl) (by kernel_rfl) (fun _ _ _ h => h) (Or.inl ⟨by rfl, ?hy6⟩) (by assumption) ?rest6
            case hy6 =>
              intro w' hS
              have hS9 : St W F (k + 1) des' ons' li' ons' (.slice (some ⟨g, 0, none⟩) ons'.length c4') w' := hS
              have hcl := hCL w' hS9
              go_simp
              try with_reducible rfl
            try simp only [Act.put, List.setIfInBounds_toArray, List.set_cons_zero, List.set_cons_succ]
            refine wpAnyU_one (i := 2) (by kernel_rfl) (op_at' rfl) (fun K hK => ?_)
            go_simp
            have hst9 : St W F (k + 1) des' ons' li' ons' (.slice (some ⟨g, 0, none⟩) ons'.length c4') _ := hHeld
            refine (hON _ hst9).mono ?_
            rintro e w9 ⟨rfl, o9⟩
            have hst9 := hst9.quiet o9
            go_wp2_with fail
            refine hK.out _ _ hst9 (fun hHeld => ?_)
            clear hK K
            try simp only [Act.put, List.setIfInBounds_toArray, List.set_cons_zero, List.set_cons_succ]
            clear hst9
            refine' wpAnyU_take (i := 7) (v := _) hZ (op_at' rfl) (by kernel_rfl) (by kernel_rfl) (by kernel_rfl) (by kernel_rfl) (by kernel_rfl) (fun _ _ _ h => h) (Or.inl ⟨by rfl, ?hy7⟩) (by assumption) ?rest7
            case hy7 =>
              intro w' hS
              go_simp
              try with_reducible rfl
            try simp only [Act.put, List.setIfInBounds_toArray, List.set_cons_zero, List.set_cons_succ]
            refine' wpAnyU_take (i := 8) (v := _) hZ (op_at' rfl) (by kernel_rfl) (by kernel_rfl) (by kernel_rfl) (by kernel_rfl) (by kernel_rfl) (fun _ _ _ h => h) (Or.inl ⟨by rfl, ?hy8⟩) (by assumption) ?rest8
            case hy8 =>
              intro w' hS
              go_simp
              try with_reducible rfl
            try simp only [Act.put, List.setIfInBounds_toArray, List.set_cons_zero, List.set_cons_succ]
            refine' wpAnyU_take (i := 9) (v := _) hZ (op_at' rfl) (by kernel_rfl) (by kernel_rfl) (by kernel_rfl) (by kernel_rfl) (by kernel_rfl) (fun _ _ _ h => h) (Or.inl ⟨by rfl, ?hy9⟩) (by assumption) ?rest9
            case hy9 =>
              intro w' hS
              go_simp
              try with_reducible rfl
            try simp only [Act.put, List.setIfInBounds_toArray, List.set_cons_zero, List.set_cons_succ]
            refine' wpAnyU_take (i := 12) (v := _) hZ (op_at' rfl) (by kernel_rfl) (by kernel_rfl) (by kernel_rfl) (by kernel_rfl) (by kernel_rfl) (fun _ _ _ h => h) (Or.inl ⟨by rfl, ?hy10⟩) (by assumption) ?rest10
            case hy10 =>
              intro w' hS
              go_simp
              try with_reducible rfl
            try simp only [Act.put, List.setIfInBounds_toArray, List.set_cons_zero, List.set_cons_succ]
            refine' wpAnyU_take (i := 13) (v := _) hZ (op_at' rfl) (by kernel_rfl) (by kernel_rfl) (by kernel_rfl) (by kernel_rfl) (by kernel_rfl) (fun _ _ _ h => h) (Or.inl ⟨by rfl, ?hy11⟩) (by assumption) ?rest11
            case hy11 =>
              intro w' hS
              go_simp
              try with_reducible rfl
            try simp only [Act.put, List.setIfInBounds_toArray, List.set_cons_zero, List.set_cons_succ]
            refine' wpAnyU_take (i := 17) (v := _) hZ (op_at' rfl) (by kernel_rfl) (by kernel_rfl) (by kernel_rfl) (by kernel_rfl) (by kernel_rfl) (fun _ _ _ h => h) (Or.inl ⟨by rfl, ?hy12⟩) (by assumption) ?rest12
            case hy12 =>
              intro w' hS
              go_simp
              try with_reducible rfl
            try simp only [Act.put, List.setIfInBounds_toArray, List.set_cons_zero, List.set_cons_succ]
            refine' wpAnyU_take (i := 18) (v := _) hZ (op_at' rfl) (by kernel_rfl) (by kernel_rfl) (by kernel_rfl) (by kernel_rfl) (by kernel_rfl) (fun _ _ _ h => h) (Or.inl ⟨by rfl, ?hy13⟩) (by assumption) ?rest13
            case hy13 =>
              intro w' hS
              go_simp
              try with_reducible rfl
            try simp only [Act.put, List.setIfInBounds_toArray, List.set_cons_zero, List.set_cons_succ]
            refine' wpAnyU_take (i := 19) (v := _) hZ (op_at' rfl) (by kernel_rfl) (by kernel_rfl) (by kernel_rfl) (by kernel_rfl) (by kernel_rfl) (fun _ _ _ h => h) (Or.inl ⟨by rfl, ?hy14⟩) (by assumption) ?rest14
            case hy14 =>
              intro w' hS
              go_simp
              try with_reducible rfl
            try simp only [Act.put, List.setIfInBounds_toArray, List.set_cons_zero, List.set_cons_succ]
            refine' wpAnyU_take (i := 20) (v := _) hZ (op_at' rfl) (by kernel_rfl) (by kernel_rfl) (by kernel_rfl) (by kernel_rfl) (by kernel_rfl) (fun _ _ _ h => h) (Or.inl ⟨by rfl, ?hy15⟩) (by assumption) ?rest15
            case hy15 =>
              intro w' hS
              have hS9 : St W F (k + 1) des' ons' li' ons' (.slice (some ⟨g, 0, none⟩) ons'.length c4') w' := hS
              have hcl := hCL w' hS9
              go_simp
              try with_reducible rfl
            try simp only [Act.put, List.setIfInBounds_toArray, List.set_cons_zero, List.set_cons_succ]
            refine wpAnyU_one (i := 10) (by kernel_rfl) (op_at' rfl) (fun K hK => ?_)
            go_simp
            have hst9 : St W F (k + 1) des' ons' li' ons' (.slice (some ⟨g, 0, none⟩) ons'.length c4') _ := hHeld
            refine (hSV _ hst9).mono ?_
            rintro e w9 ⟨rfl, o9⟩
            have hst9 := hst9.quiet o9
            go_wp2_with fail
            refine hK.out _ _ hst9 (fun hHeld => ?_)
            clear hK K
            try simp only [Act.put, List.setIfInBounds_toArray, List.set_cons_zero, List.set_cons_succ]
            clear hst9
            refine wpAnyU_one (i := 11) (by kernel_rfl) (op_at' rfl) (fun K hK => ?_)
            go_simp
            have hst9 : St W F (k + 1) des' ons' li' ons' (.slice (some ⟨g, 0, none⟩) ons'.length c4') _ := hHeld
            refine (hRG _ hst9).mono ?_
            rintro e w9 ⟨rfl, o9⟩
            have hst9 := hst9.quiet o9
            go_wp2_with fail
            refine hK.out _ _ hst9 (fun hHeld => ?_)
            clear hK K
            try simp only [Act.put, List.setIfInBounds_toArray, List.set_cons_zero, List.set_cons_succ]
            clear hst9
            refine wpAnyU_one (i := 14) (by kernel_rfl) (op_at' rfl) (fun K hK => ?_)
            go_simp
            have hst9 : St W F (k + 1) des' ons' li' ons' (.slice (some ⟨g, 0, none⟩) ons'.length c4') _ := hHeld
            refine (hDV _ hst9).mono ?_
            rintro e w9 ⟨rfl, o9⟩
            have hst9 := hst9.quiet o9
            go_wp2_with fail
            refine hK.out _ _ hst9 (fun hHeld => ?_)
            clear hK K
            try simp only [Act.put, List.setIfInBounds_toArray, List.set_cons_zero, List.set_cons_succ]
            clear hst9
            refine wpAnyU_one (i := 15) (by kernel_rfl) (op_at' rfl) (fun K hK => ?_)
            go_simp
            have hst9 : St W F (k + 1) des' ons' li' ons' (.slice (some ⟨g, 0, none⟩) ons'.length c4') _ := hHeld
            refine (hWH _ hst9).mono ?_
            rintro e w9 ⟨rfl, o9⟩
            have hst9 := hst9.quiet o9
            go_wp2_with fail
            refine hK.out _ _ hst9 (fun hHeld => ?_)
            clear hK K
            try simp only [Act.put, List.setIfInBounds_toArray, List.set_cons_zero, List.set_cons_succ]
            clear hst9
            refine wpAnyU_one (i := 16) (by kernel_rfl) (op_at' rfl) (fun K hK => ?_)
            go_simp
            have hst9 : St W F (k + 1) des' ons' li' ons' (.slice (some ⟨g, 0, none⟩) ons'.length c4') _ := hHeld
            refine (hIS _ hst9).mono ?_
            rintro e w9 ⟨rfl, o9⟩
            have hst9 := hst9.quiet o9
            go_wp2_with fail
            refine hK.out _ _ hst9 (fun hHeld => ?_)
            clear hK K
            try simp only [Act.put, List.setIfInBounds_toArray, List.set_cons_zero, List.set_cons_succ]
            clear hst9
            refine' wpAnyU_take (i := 21) (v := _) hZ (op_at' rfl) (by kernel_rfl) (by kernel_rfl) (by kernel_rfl) (by kernel_rfl) (by kernel_rfl) (fun _ _ _ h => h) (Or.inl ⟨by rfl, ?hy16⟩) (by assumption) ?rest16
            case hy16 =>
              intro w' hS
              go_simp
              try with_reducible rfl
            try simp only [Act.put, List.setIfInBounds_toArray, List.set_cons_zero, List.set_cons_succ]
            refine' wpAnyU_take (i := 22) (v := _) hZ (op_at' rfl) (by kernel_rfl) (by kernel_rfl) (by kernel_rfl) (by kernel_rfl) (by kernel_rfl) (fun _ _ _ h => h) (Or.inl ⟨by rfl, ?hy17⟩) (by assumption) ?rest17
            case hy17 =>
              intro w' hS
              go_simp
              try with_reducible rfl
            try simp only [Act.put, List.setIfInBounds_toArray, List.set_cons_zero, List.set_cons_succ]
            refine wpAnyU_done (by kernel_rfl) ?_ _
            go_wp2_with fail
            exact ⟨⟨j + 1, by simp, by omega, hHeld⟩, by simp [intOf]; omega⟩
          · have j1 : decide ((j : Int) < ons'.length) = false := by simpa using hjl
            go_wp2_with fail
            exact ⟨⟨k + 1, des', ons', li', by simp, by omega, hst⟩, by simp [intOf]; omega⟩
      · have e1 : decide ((k : Int) < l.length) = false := by simpa using hkl
        obtain rfl : k = l.length := by omega
        clear HS
        have m1 : (if (-1 : Int) < 0 then false else ons.getD ((-1 : Int).toNat) false) = false := rfl
        have m2 : (if (ons.length : Int) < 0 then false else ons.getD ((ons.length : Int).toNat) false) = false := by simp
        have hon1 := fun w' (h : St W F l.length des ons li ons (.slice a4 ons.length c4) w') => m1 ▸ st_on (-1) h
        have hon2 := fun w' (h : St W F l.length des ons li ons (.slice a4 ons.length c4) w') => m2 ▸ st_on ons.length h
        go_wp2_with fail
        refine (st_nodevice ons.length hst (.inr (by omega))).mono ?_
        rintro e w5 ⟨rfl, o5⟩
        have h5 := hst.quiet o5
        go_wp2_with fail
        refine (st_nodevice (-1) h5 (.inl (by omega))).mono ?_
        rintro e w6 ⟨rfl, o6⟩
        have h6 := h5.quiet o6
        go_wp2_with fail
        refine (hon1 _ h6).mono ?_
        rintro e w7 ⟨rfl, o7⟩
        have h7 := h6.quiet o7
        go_wp2_with fail
        refine (hon2 _ h7).mono ?_
        rintro e w8 ⟨rfl, o8⟩
        have h8 := h7.quiet o8
        go_wp2_with fail
        go_ret
        exact ⟨rfl, h8.only⟩
end Go.Proofs.YtmmhbehlpppdiaaGreatDoor.Wl
namespace Go.Proofs
open Go.Shelf
def Tryz.laysM171_ren : Go.Shelf.Ren := ⟨fun | 171 => 307 | 243 => 355 | 246 => 386 | 283 => 400 | 284 => 401 | 285 => 402 | 286 => 403 | 129 => 337 | 317 => 414 | 318 => 415 | 319 => 416 | 320 => 417 | 337 => 430 | 338 => 431 | n => n, fun | 3 => 3 | 9 => 9 | 2 => 2 | 4 => 4 | 171 => 513 | 0 => 0 | 53 => 68 | 37 => 22 | 5 => 5 | 173 => 515 | 212 => 529 | 51 => 50 | 20 => 20 | 213 => 530 | 46 => 162 | 232 => 371 | 233 => 425 | n => n, fun | 17 => 3 | 18 => 6 | 19 => 7 | n => n⟩
theorem Tryz.laysM171 : Go.Proofs.LaysM.n171 Tryz.prog Tryz.laysM171_ren := {
  mixed := by kernel_rfl
  f129 := Tryz.func337.trans (congrArg some (by kernel_rfl))
  f171 := Tryz.func307.trans (congrArg some (by kernel_rfl))
  f243 := Tryz.func355.trans (congrArg some (by kernel_rfl))
  f246 := Tryz.func386.trans (congrArg some (by kernel_rfl))
  f283 := Tryz.func400.trans (congrArg some (by kernel_rfl))
  f284 := Tryz.func401.trans (congrArg some (by kernel_rfl))
  f285 := Tryz.func402.trans (congrArg some (by kernel_rfl))
  f286 := Tryz.func403.trans (congrArg some (by kernel_rfl))
  f317 := Tryz.func414.trans (congrArg some (by kernel_rfl))
  f318 := Tryz.func415.trans (congrArg some (by kernel_rfl))
  f319 := Tryz.func416.trans (congrArg some (by kernel_rfl))
  f320 := Tryz.func417.trans (congrArg some (by kernel_rfl))
  f337 := Tryz.func430.trans (congrArg some (by kernel_rfl))
  f338 := Tryz.func431.trans (congrArg some (by kernel_rfl))
  t0 := Tryz.underlying0
  a0 := Tryz.isAgg0
  z0 := Tryz.sizeOf0
  v0 := Tryz.zeroValue0
  t2 := Tryz.underlying2
  a2 := Tryz.isAgg2
  z2 := Tryz.sizeOf2
  v2 := Tryz.zeroValue2
  t3 := Tryz.underlying3
  a3 := Tryz.isAgg3
  z3 := Tryz.sizeOf3
  v3 := Tryz.zeroValue3
  t4 := Tryz.underlying4
  a4 := Tryz.isAgg4
  z4 := Tryz.sizeOf4
  v4 := Tryz.zeroValue4
  t5 := Tryz.underlying5
  a5 := Tryz.isAgg5
  z5 := Tryz.sizeOf5
  v5 := Tryz.zeroValue5
  t9 := Tryz.underlying9
  a9 := Tryz.isAgg9
  z9 := Tryz.sizeOf9
  v9 := Tryz.zeroValue9
  t20 := Tryz.underlying20
  a20 := Tryz.isAgg20
  z20 := Tryz.sizeOf20
  v20 := Tryz.zeroValue20
  t37 := Tryz.underlying22
  a37 := Tryz.isAgg22
  z37 := Tryz.sizeOf22
  v37 := Tryz.zeroValue22
  t46 := Tryz.underlying162
  a46 := Tryz.isAgg162
  z46 := Tryz.sizeOf162
  v46 := Tryz.zeroValue162
  t51 := Tryz.underlying50
  a51 := Tryz.isAgg50
  z51 := Tryz.sizeOf50
  v51 := Tryz.zeroValue50
  t53 := Tryz.underlying68
  a53 := Tryz.isAgg68
  z53 := Tryz.sizeOf68
  v53 := Tryz.zeroValue68
  t171 := Tryz.underlying513
  a171 := Tryz.isAgg513
  z171 := Tryz.sizeOf513
  v171 := Tryz.zeroValue513
  t173 := Tryz.underlying515
  a173 := Tryz.isAgg515
  z173 := Tryz.sizeOf515
  v173 := Tryz.zeroValue515
  t212 := Tryz.underlying529
  a212 := Tryz.isAgg529
  z212 := Tryz.sizeOf529
  v212 := Tryz.zeroValue529
  t213 := Tryz.underlying530
  a213 := Tryz.isAgg530
  z213 := Tryz.sizeOf530
  t232 := Tryz.underlying371
  a232 := Tryz.isAgg371
  z232 := Tryz.sizeOf371
  v232 := Tryz.zeroValue371
  t233 := Tryz.underlying425
  a233 := Tryz.isAgg425
  z233 := Tryz.sizeOf425
  v233 := Tryz.zeroValue425
  g17 := by kernel_rfl
  g18 := by kernel_rfl
  g19 := by kernel_rfl
  i0 := by kernel_rfl
  i2 := by kernel_rfl
  i3 := by kernel_rfl
  i4 := by kernel_rfl
  i5 := by kernel_rfl
  i9 := by kernel_rfl
  i20 := by kernel_rfl
  i37 := by kernel_rfl
  i46 := by kernel_rfl
  i51 := by kernel_rfl
  i53 := by kernel_rfl
  i171 := by kernel_rfl
  i173 := by kernel_rfl
  i212 := by kernel_rfl
  i232 := by kernel_rfl
  i233 := by kernel_rfl
  m17 := by kernel_rfl
  m18 := by kernel_rfl
  m19 := by kernel_rfl }
open Go.RowKit Go.Sort Go.Lib in
theorem Tryz.strconv_Itoa (n : Int) (h0 : -9223372036854775808 ≤ n) (h1 : n ≤ 9223372036854775807) (w : World) (htab : Lib.TabIs Tryz.prog w "internal/strconv.uint64pow10" .u64 Lib.pow10Tab) :
    Calls Tryz.prog 307 #[.int .i64 n] w fun e w' => e = .returned (.string ⟨(Lib.itoa n).toArray⟩) ∧ ∃ k os, w' = grow (w.drewN k) os := Any.strconv_Itoa Tryz.laysM171 n h0 h1 w htab
end Go.Proofs
namespace Go.Proofs.YtmmhbehlpppdiaaGreatDoor.Wl
open Go.RowKit Go.Pw

theorem nd_le : ∀ (k u : Nat), u < 10 ^ (k + 1) → Lib.nDigits u ≤ k + 1
  | 0, u, h => by rw [Lib.nDigits_small (by simpa using h)]; omega
  | k + 1, u, h => by
    by_cases h2 : u < 10
    · rw [Lib.nDigits_small h2]; omega
    · rw [Lib.nDigits_big h2]
      have := nd_le k (u / 10) (by rw [Nat.pow_succ] at h; omega)
      omega
theorem itoa_len (n : Int) (h0 : -9223372036854775808 ≤ n) (h1 : n ≤ 9223372036854775807) : (Lib.itoa n).length ≤ 20 := by
  by_cases hneg : n < 0
  · obtain ⟨u, rfl⟩ : ∃ u : Nat, n = -(u : Int) := ⟨n.natAbs, by omega⟩
    rw [Lib.itoa_neg u (by omega), List.length_cons, Lib.decDigits_length]
    have := nd_le 18 u (by omega)
    omega
  · obtain ⟨u, rfl⟩ : ∃ u : Nat, n = u := ⟨n.toNat, by omega⟩
    rw [Lib.itoa_nonneg, Lib.decDigits_length]
    have := nd_le 18 u (by omega)
    omega

theorem itoa_ok {W : World} {g : Nat} (hg : Tryz.prog.globalNamed "internal/strconv.uint64pow10" = some g) (ht : Lib.TabIs Tryz.prog W "internal/strconv.uint64pow10" .u64 Lib.pow10Tab) : ItoaOK W := fun w o n h0 h1 => by
  have hb : Below W.heap.size W w := ⟨o.os, o.tape, o.output, o.size, fun k hk => o.block k hk (by simp)⟩
  refine (Tryz.strconv_Itoa n h0 h1 w (Joins.tab_stays hg ht hb (Nat.le_refl _))).mono ?_
  rintro e w' ⟨rfl, k, os, rfl⟩
  refine ⟨⟨_, rfl, ?_⟩, ⟨rfl, rfl, rfl, ?_, fun i hi _ => ?_⟩⟩
  · show (Lib.itoa n).toArray.size ≤ 20
    rw [List.size_toArray]
    exact itoa_len n h0 h1
  · show w.heap.size ≤ (w.heap ++ os).size
    simp
  · show (w.heap ++ os)[i]? = w.heap[i]?
    rw [Array.getElem?_append_left hi]
end Go.Proofs.YtmmhbehlpppdiaaGreatDoor.Wl
namespace Go.Pw
open Go.ChangeShapes Go.WideShapes Go.ChangeAt Go.RowKit
theorem open_src {P : Program} {H : Type} {enc : TypeId × Value → H} {W : World} {base : Nat} {T E : TypeId} {k : IntKind} {v : Value} {d : DataW H} {p : List MemPlace} (hT : P.underlying T = some (.slice E)) (hE : P.underlying E = some (.int k)) (hc : P.cellsOf E = 1)
    (hv : Value.okWide P W .any base T v) (h : DataW.Trod enc P W 0 (fun _ => true) true T v d p) :
    ∃ (ao : Option Addr) (c : Nat) (xs : List Int), v = .slice ao xs.length c ∧ Src W (.slice ao xs.length c) 1 xs.length (xs.map (Value.int k)) ∧ ∀ x ∈ xs, (Lit.int k x).wf = true := by
  obtain ⟨a, len, cap, rfl⟩ := okWide_slice hT hv
  obtain ⟨fuel, hf⟩ := h
  rcases open_ints hT hE hc hf with ⟨hcs, _⟩ | ⟨x, l, c, zs, hcs, _, hl, hm, hz, _, hcell, hwz⟩
  · simp [Value.cells] at hcs
    obtain ⟨rfl, rfl, rfl⟩ := hcs
    exact ⟨none, 0, [], rfl, ⟨none, 0, rfl, Nat.le_refl _, Nat.zero_le _, rfl, fun _ => ⟨rfl, rfl⟩, by simp⟩, by simp⟩
  · simp [Value.cells] at hcs
    obtain ⟨rfl, rfl, rfl⟩ := hcs
    have hzl : zs.length = cap := by simpa using hz
    have e : (zs.take len).length = len := by simp; omega
    refine ⟨some x, cap, zs.take len, by rw [e], ?_, fun y hy => hwz y (List.mem_of_mem_take hy)⟩
    rw [e]
    refine ⟨_, _, rfl, hl, hm, by simp; omega, by simp, fun b hb j u hj => ?_⟩
    obtain rfl : b = x := by simpa using hb.symm
    rw [List.getElem?_map, List.getElem?_take] at hj
    split at hj
    · rename_i hjl
      have hj2 : j < zs.length := by omega
      have := hcell j hj2
      rw [this]
      rw [List.getElem?_eq_getElem hj2] at hj
      simp only [Option.map_some, Option.some.injEq] at hj
      rw [← hj, List.getD_eq_getElem?_getD, List.getElem?_eq_getElem hj2]
      rfl
    · simp at hj

theorem u8_byt {xs : List Int} (h : ∀ x ∈ xs, (Lit.int .u8 x).wf = true) : ∀ x ∈ xs, 0 ≤ x ∧ x < 256 := fun x hx => by
  have := h x hx
  simp [Lit.wf, IntKind.min, IntKind.max, IntKind.signed, IntKind.bits] at this
  omega
theorem open_bytes {P : Program} {H : Type} {enc : TypeId × Value → H} {W : World} {base : Nat} {T E : TypeId} {v : Value} {d : DataW H} {p : List MemPlace} (hT : P.underlying T = some (.slice E)) (hE : P.underlying E = some (.int .u8)) (hc : P.cellsOf E = 1)
    (hv : Value.okWide P W .any base T v) (h : DataW.Trod enc P W 0 (fun _ => true) true T v d p) :
    ∃ (ao : Option Addr) (c : Nat) (xs : List Int), v = .slice ao xs.length c ∧ Src W (.slice ao xs.length c) 1 xs.length (xs.map (Value.int .u8)) ∧ ∀ x ∈ xs, 0 ≤ x ∧ x < 256 := by
  obtain ⟨ao, c, xs, h1, h2, h3⟩ := open_src hT hE hc hv h
  exact ⟨ao, c, xs, h1, h2, u8_byt h3⟩

end Go.Pw
