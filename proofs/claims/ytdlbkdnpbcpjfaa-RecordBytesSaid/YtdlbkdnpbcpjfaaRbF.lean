/- A book's bytes read: as a plain function; what is read has as many bytes (RecordBytes). No walk. -/
import Derived.Test.YtdlbkdnpbcpjfaaRb9
set_option linter.unusedSimpArgs false
set_option linter.unusedVariables false
namespace Go.Proofs.Ytdlbkdnpbcpjfaa
open Go.RowKit Go.Pw Go.Pw.Fl
set_option linter.unusedVariables false

abbrev PS := List Int × Bool
def pRc (s : PS) : Option RD × PS :=
  let u := pN s
  let d := pN u.2
  let a := pB d.2
  let g := pB a.2
  let f := pF g.2
  let k := p8 f.2
  let q := pQu k.2
  (q.1.map fun q => ⟨u.1, d.1, a.1, g.1, f.1, kKey (tTime k.1), q⟩, q.2)
/-- Does a record not stand behind the last one? -/
def late (acc : List RD) (x : RD) : Bool := match acc.getLast? with
  | some y => decide (0 ≤ cmpW y.u y.d x.u x.d)
  | none => false
def nextRc (k : List RD → PS → Option (List RD) × PS) (acc : List RD) (r : Option RD × PS) : Option (List RD) × PS := match r.1 with
  | none => (none, r.2)
  | some x => if late acc x then (none, r.2) else k (acc ++ [x]) r.2
def pRcs : Nat → List RD → PS → Option (List RD) × PS
  | 0, acc, s => (some acc, s)
  | c + 1, acc, s => nextRc (pRcs c) acc (pRc s)
theorem pRcs_zero (acc : List RD) (s : PS) : pRcs 0 acc s = (some acc, s) := rfl
theorem pRcs_succ (c : Nat) (acc : List RD) (s : PS) : pRcs (c + 1) acc s = nextRc (pRcs c) acc (pRc s) := rfl
theorem pRcs_none {c : Nat} {acc : List RD} {s s' : PS} (h : pRc s = (none, s')) : pRcs (c + 1) acc s = (none, s') := by
  rw [pRcs_succ, h]
  rfl
theorem pRcs_late {c : Nat} {acc : List RD} {s s' : PS} {x : RD} (h : pRc s = (some x, s')) (hd : late acc x = true) : pRcs (c + 1) acc s = (none, s') := by
  rw [pRcs_succ, h]
  exact if_pos hd
theorem pRcs_more {c : Nat} {acc : List RD} {s s' : PS} {x : RD} (h : pRc s = (some x, s')) (hd : late acc x = false) : pRcs (c + 1) acc s = pRcs c (acc ++ [x]) s' := by
  rw [pRcs_succ, h]
  exact if_neg (by simp [hd])
/-- What Decode tells. -/
def endBk (ps : List Int) (r : Option (List RD) × PS) : Option (List RD) := match r.1 with
  | none => none
  | some l => if Ends r.2 && decide (bkB l = ps) then some l else none
def pBk (ps : List Int) : Option (List RD) := endBk ps (pRcs (pC 4096 (ps, false)).1.toNat [] (pC 4096 (ps, false)).2)

/-- Reading takes so many bytes, when there is no fault. -/
structure Cn (s s' : PS) (n : Nat) : Prop where
  byt : Byt s.1 → Byt s'.1
  con : Byt s.1 → s'.2 = false → s.2 = false ∧ s.1.length = n + s'.1.length
theorem Cn.refl (s : PS) : Cn s s 0 := ⟨id, fun _ h => ⟨h, by omega⟩⟩
theorem Cn.trans {s s1 s2 : PS} {n m : Nat} (h : Cn s s1 n) (k : Cn s1 s2 m) : Cn s s2 (n + m) := ⟨fun hb => k.byt (h.byt hb), fun hb h2 => by
  obtain ⟨k1, k2⟩ := k.con (h.byt hb) h2
  obtain ⟨h1, h3⟩ := h.con hb k1
  exact ⟨h1, by omega⟩⟩
theorem Cn.eq {s s' : PS} {n m : Nat} (h : Cn s s' n) (e : n = m) : Cn s s' m := e ▸ h
theorem cn_N (s : PS) : Cn s (pN s).2 4 := ⟨fun hb => (pN_byt hb).1, fun hb h => by
  obtain ⟨h1, h2⟩ := pN_inv hb h
  have := congrArg List.length h2
  rw [List.length_append, be_len] at this
  exact ⟨h1, this⟩⟩
theorem cn_8 (s : PS) : Cn s (p8 s).2 8 := ⟨fun hb => (RN_bd 8 s.1 s.2 hb).2.2.2, fun hb h => by
  obtain ⟨h1, h2⟩ := rn_inv (k := 8) hb h
  have := congrArg List.length h2
  rw [List.length_append, be_len] at this
  exact ⟨h1, this⟩⟩
theorem cn_B (s : PS) : Cn s (pB s).2 (lb (pB s).1).length := ⟨fun hb => (pB_byt hb).1, fun hb h => by
  obtain ⟨h1, h2⟩ := pB_inv hb h
  have := congrArg List.length h2
  rw [List.length_append, List.length_append, be_len] at this
  exact ⟨h1, by rw [lb_len]; omega⟩⟩
theorem cn_F (s : PS) : Cn s (pF s).2 1 := ⟨fun hb => pF_byt hb, fun hb h => by
  obtain ⟨h1, h2⟩ := pF_inv hb h
  have := congrArg List.length h2
  rw [List.length_append] at this
  exact ⟨h1, by simpa using this⟩⟩
theorem cn_C (m : Int) (s : PS) : Cn s (pC m s).2 2 := ⟨fun hb => (RN_bd 2 s.1 s.2 hb).2.2.2, fun hb h => by
  have h' : FB (RN 2 s.1 s.2).2.2 m (RN 2 s.1 s.2).1 = false := h
  unfold FB at h'
  rw [Bool.or_eq_false_iff] at h'
  obtain ⟨h1, h2⟩ := rn_inv (k := 2) hb h'.1
  have := congrArg List.length h2
  rw [List.length_append, be_len] at this
  exact ⟨h1, this⟩⟩
theorem cn_Sk (s : PS) : Cn s (pSk s).2 (skB (pSk s).1).length :=
  (((cn_B s).trans (cn_N _)).trans (cn_B _)).eq (by simp only [pSk, skB, List.length_append, lb_len, be_len])
theorem cn_Sks : ∀ (c : Nat) (acc : List KD) (s : PS) (l : List KD), (pSks c acc s).1 = some l → l.length = acc.length + c ∧ ∃ n, Cn s (pSks c acc s).2 n ∧ (l.flatMap skB).length = (acc.flatMap skB).length + n
  | 0, acc, s, l, h => by
    obtain rfl : acc = l := by simpa [pSks] using h
    exact ⟨by omega, 0, Cn.refl s, by omega⟩
  | c + 1, acc, s, l, h => by
    rw [pSks] at h ⊢
    split at h
    · simp at h
    · rename_i hc
      rw [if_neg hc]
      obtain ⟨h1, n, h2, h3⟩ := cn_Sks c _ _ l h
      refine ⟨by simp at h1; omega, _, (cn_Sk s).trans h2, ?_⟩
      rw [h3, List.flatMap_append]
      simp
      omega
theorem fin_some {α : Type} {r : Option α × PS} {x : α} (h : (fin r).1 = some x) : r.1 = some x ∧ r.2.2 = false ∧ (fin r).2 = r.2 := by
  unfold fin at h ⊢
  cases hb : r.2.2 with
  | true => rw [hb] at h; simp at h
  | false => rw [hb] at h; exact ⟨by simpa using h, rfl, rfl⟩
theorem count_nat {m : Int} {s : PS} (hb : Byt s.1) : ((pC m s).1.toNat : Int) = (pC m s).1 := by
  have := RN_bd 2 s.1 s.2 hb
  unfold pC CV
  simp only
  have h0 : 0 ≤ (RN 2 s.1 s.2).1 := this.1
  split <;> omega
theorem cn_Store (s : PS) {l : List KD} (h : (pStore s).1 = some l) : Cn s (pStore s).2 (stoB l).length := by
  obtain ⟨h1, h2, h3⟩ := fin_some h
  obtain ⟨_, n, h4, h5⟩ := cn_Sks _ _ _ _ h1
  have e : (pStore s).2 = (pSks (pC 32 s).1.toNat [] (pC 32 s).2).2 := h3
  rw [e]
  refine ((cn_C 32 s).trans h4).eq ?_
  simp only [stoB, List.length_append, be_len, h5]
  simp
theorem cn_Sta (s : PS) {t : TD} (h : (pSta s).1 = some t) : Cn s (pSta s).2 (staB t).length := by
  unfold pSta at h ⊢
  simp only [Option.map_eq_some_iff] at h
  obtain ⟨l, hl, rfl⟩ := h
  refine (((((((((cn_B s).trans (cn_B _)).trans (cn_B _)).trans (cn_B _)).trans (cn_N _)).trans (cn_B _)).trans (cn_N _)).trans (cn_N _)).trans (cn_Store _ hl)).eq ?_
  simp only [staB, List.length_append, be_len]
  omega
theorem hB_len {b : List Int} (hb : Byt b) (h : Ends (pH (b, false)).2 = true) : (hB (pH (b, false)).1).length = b.length := by
  obtain ⟨h1, h2⟩ := ends_inv h
  obtain ⟨_, h4⟩ := pH_inv (s := (b, false)) hb h1
  rw [h2, List.append_nil] at h4
  have := congrArg List.length h4
  exact this.symm
theorem cn_Se (s : PS) (hb : Byt s.1) {x : ED} (h : (pSe s).1 = some x) : Cn s (pSe s).2 (seB x).length := by
  unfold pSe at h ⊢
  simp only at h ⊢
  split at h
  · rename_i he
    simp only [Option.map_eq_some_iff] at h
    obtain ⟨t, ht, rfl⟩ := h
    have hby := (cn_F _).byt ((cn_B _).byt ((cn_B s).byt hb))
    have hl := hB_len (pB_byt hby).2 he
    refine ((((((cn_B s).trans (cn_B _)).trans (cn_F _)).trans (cn_B _)).trans (cn_Sta _ ht))).eq ?_
    simp only [seB, List.length_append, List.length_cons, List.length_nil, lb_len]
    simp only [hl]
  · simp at h
theorem cn_Ses : ∀ (c : Nat) (acc : List ED) (s : PS) (l : List ED), Byt s.1 → (pSes c acc s).1 = some l → l.length = acc.length + c ∧ ∃ n, Cn s (pSes c acc s).2 n ∧ (l.flatMap seB).length = (acc.flatMap seB).length + n
  | 0, acc, s, l, hb, h => by
    rw [pSes_zero] at h ⊢
    obtain rfl : acc = l := by simpa using h
    exact ⟨by omega, 0, Cn.refl s, by omega⟩
  | c + 1, acc, s, l, hb, h => by
    cases he : (pSe s).1 with
    | none =>
      rw [pSes_none (s' := (pSe s).2) (by rw [← he])] at h
      simp at h
    | some e =>
      cases hd : acc.any (fun x => decide (x.id = e.id)) with
      | true =>
        rw [pSes_dup (s' := (pSe s).2) (e := e) (by rw [← he]) hd] at h
        simp at h
      | false =>
        rw [pSes_more (s' := (pSe s).2) (e := e) (by rw [← he]) hd] at h ⊢
        have hc := cn_Se s hb he
        obtain ⟨h1, n, h2, h3⟩ := cn_Ses c _ _ l (hc.byt hb) h
        refine ⟨by simp at h1; omega, _, hc.trans h2, ?_⟩
        rw [h3, List.flatMap_append]
        simp
        omega
theorem cn_Qu (s : PS) (hb : Byt s.1) {l : List ED} (h : (pQu s).1 = some l) : Cn s (pQu s).2 (quB l).length := by
  obtain ⟨h1, h2, h3⟩ := fin_some h
  obtain ⟨_, n, h4, h5⟩ := cn_Ses _ _ _ _ ((cn_C 4 s).byt hb) h1
  have e : (pQu s).2 = (pSes (pC 4 s).1.toNat [] (pC 4 s).2).2 := h3
  rw [e]
  refine ((cn_C 4 s).trans h4).eq ?_
  simp only [quB, List.length_append, be_len, h5]
  simp
theorem cn_Rc (s : PS) (hb : Byt s.1) {x : RD} (h : (pRc s).1 = some x) : Cn s (pRc s).2 (rcB x).length := by
  unfold pRc at h ⊢
  simp only [Option.map_eq_some_iff] at h
  obtain ⟨q, hq, rfl⟩ := h
  have hby := (cn_8 _).byt ((cn_F _).byt ((cn_B _).byt ((cn_B _).byt ((cn_N _).byt ((cn_N s).byt hb)))))
  refine (((((((cn_N s).trans (cn_N _)).trans (cn_B _)).trans (cn_B _)).trans (cn_F _)).trans (cn_8 _)).trans (cn_Qu _ hby hq)).eq ?_
  simp only [rcB, List.length_append, List.length_cons, List.length_nil, be_len]
theorem cn_Rcs : ∀ (c : Nat) (acc : List RD) (s : PS) (l : List RD), Byt s.1 → (pRcs c acc s).1 = some l → l.length = acc.length + c ∧ ∃ n, Cn s (pRcs c acc s).2 n ∧ (l.flatMap rcB).length = (acc.flatMap rcB).length + n
  | 0, acc, s, l, hb, h => by
    rw [pRcs_zero] at h ⊢
    obtain rfl : acc = l := by simpa using h
    exact ⟨by omega, 0, Cn.refl s, by omega⟩
  | c + 1, acc, s, l, hb, h => by
    cases he : (pRc s).1 with
    | none =>
      rw [pRcs_none (s' := (pRc s).2) (by rw [← he])] at h
      simp at h
    | some e =>
      cases hd : late acc e with
      | true =>
        rw [pRcs_late (s' := (pRc s).2) (x := e) (by rw [← he]) hd] at h
        simp at h
      | false =>
        rw [pRcs_more (s' := (pRc s).2) (x := e) (by rw [← he]) hd] at h ⊢
        have hc := cn_Rc s hb he
        obtain ⟨h1, n, h2, h3⟩ := cn_Rcs c _ _ l (hc.byt hb) h
        refine ⟨by simp at h1; omega, _, hc.trans h2, ?_⟩
        rw [h3, List.flatMap_append]
        simp
        omega
/-- A book that is read to its end has as many bytes as were read. -/
theorem bk_len {ps : List Int} {l : List RD} {s1 s2 : PS} {n : Nat} (hb : Byt ps) (hC : pC 4096 (ps, false) = ((n : Int), s1)) (h : pRcs n [] s1 = (some l, s2)) (he : Ends s2 = true) : (bkB l).length = ps.length := by
  have h0 := cn_C 4096 (ps, false)
  rw [hC] at h0
  obtain ⟨_, m, h2, h3⟩ := cn_Rcs n [] s1 l (h0.byt hb) (by rw [h])
  rw [h] at h2
  obtain ⟨e1, e2⟩ := ends_inv he
  have h4 := (h0.trans h2).con hb e1
  rw [e2] at h4
  have h5 := h4.2
  simp only [bkB, List.length_append, be_len, h3]
  simp at h5 ⊢
  omega
end Go.Proofs.Ytdlbkdnpbcpjfaa
