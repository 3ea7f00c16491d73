/- Plain laws of layer 14's readings: what ends well was just the bytes of what was read. -/
import Derived.Test.YtemlpjfngaemdaaEnvD
namespace Go.Proofs.Ytemlpjfngaemdaa
open Go.RowKit Go.Pw
set_option linter.unusedVariables false

theorem ofbe_inj : ∀ (a b : List Int), a.length = b.length → Byt a → Byt b → ofbe a = ofbe b → a = b
  | [], [], _, _, _, _ => rfl
  | [], _ :: _, h, _, _, _ => by simp at h
  | _ :: _, [], h, _, _, _ => by simp at h
  | x :: a, y :: b, h, ha, hb, he => by
    have hl : a.length = b.length := by simpa using h
    have ha' : Byt a := fun z hz => ha z (by simp [hz])
    have hb' : Byt b := fun z hz => hb z (by simp [hz])
    rw [ofbe_cons, ofbe_cons, hl] at he
    have h1 := ofbe_bd a ha'
    have h2 := ofbe_bd b hb'
    rw [hl] at h1
    have hp : (0 : Int) < 256 ^ b.length := Int.pow_pos (by decide)
    generalize (256 : Int) ^ b.length = m at *
    have hxy : x = y := by
      have e1 : (x * m + ofbe a) / m = x := by rw [Int.add_comm, Int.add_mul_ediv_right _ _ (by omega), Int.ediv_eq_zero_of_lt h1.1 h1.2, Int.zero_add]
      have e2 : (y * m + ofbe b) / m = y := by rw [Int.add_comm, Int.add_mul_ediv_right _ _ (by omega), Int.ediv_eq_zero_of_lt h2.1 h2.2, Int.zero_add]
      rw [← e1, he, e2]
    subst hxy
    rw [ofbe_inj a b hl ha' hb' (by omega)]

theorem be_ofbe (l : List Int) (h : Byt l) : be (ofbe l) l.length = l := by
  refine ofbe_inj _ _ (be_len _ _) (be_byt _ _) h ?_
  have := ofbe_bd l h
  rw [ofbe_be _ _ this.1, Int.emod_eq_of_lt this.1 this.2]

theorem rn_inv {k : Nat} {l : List Int} {b : Bool} (hb : Byt l) (h : (RN k l b).2.2 = false) : b = false ∧ l = be (RN k l b).1 k ++ (RN k l b).2.1 := by
  unfold RN at h ⊢
  split at h
  · rename_i hc
    rw [if_pos hc]
    refine ⟨hc.1, ?_⟩
    have hk : (l.take k).length = k := by simp; omega
    have := be_ofbe (l.take k) (fun y hy => hb y (List.mem_of_mem_take hy))
    rw [hk] at this
    simp only [Int.toNat_natCast]
    rw [this, List.take_append_drop]
  · cases h

theorem pN_byt {s : List Int × Bool} (h : Byt s.1) : Byt (pN s).2.1 ∧ U32 (pN s).1 := by
  have := RN_bd 4 s.1 s.2 h
  exact ⟨this.2.2.2, this.1, this.2.1⟩
theorem pN_inv {s : List Int × Bool} (hb : Byt s.1) (h : (pN s).2.2 = false) : s.2 = false ∧ s.1 = be (pN s).1 4 ++ (pN s).2.1 := rn_inv (k := 4) hb h

theorem pB_byt {s : List Int × Bool} (h : Byt s.1) : Byt (pB s).2.1 ∧ Byt (pB s).1 := by
  have hr := (RN_bd 4 s.1 s.2 h).2.2.2
  simp only [show ((4 : Nat) : Int) = 4 from rfl] at hr
  unfold pB
  simp only
  constructor
  · unfold BR; split
    · exact hr
    · exact fun y hy => hr y (List.mem_of_mem_drop hy)
  · unfold BV; split
    · exact Byt.nil
    · exact fun y hy => hr y (List.mem_of_mem_take hy)
theorem pB_inv {s : List Int × Bool} (hb : Byt s.1) (h : (pB s).2.2 = false) : s.2 = false ∧ s.1 = be (pB s).1.length 4 ++ (pB s).1 ++ (pB s).2.1 := by
  have h' : BF (RN 4 s.1 s.2).2.2 65536 (RN 4 s.1 s.2).1 (RN 4 s.1 s.2).2.1.length = false := h
  have hbd := RN_bd 4 s.1 s.2 hb
  have hi := rn_inv (k := 4) (b := s.2) hb
  simp only [show ((4 : Nat) : Int) = 4 from rfl] at hbd hi
  unfold pB
  simp only
  rw [h']
  generalize RN 4 s.1 s.2 = r at *
  obtain ⟨n, l, b⟩ := r
  simp only at h' hbd hi ⊢
  simp only [BF, Bool.or_eq_false_iff, decide_eq_false_iff_not] at h'
  obtain ⟨⟨⟨rfl, _⟩, h65⟩, hl⟩ := h'
  obtain ⟨h1, h2⟩ := hi rfl
  obtain ⟨m, rfl⟩ := Int.eq_ofNat_of_zero_le hbd.1
  refine ⟨h1, ?_⟩
  simp only [BV, BR, Bool.false_eq_true, if_false, Int.toNat_natCast]
  rw [show (l.take m).length = m by simp; omega, List.append_assoc, List.take_append_drop]
  exact h2

theorem pF_byt {s : List Int × Bool} (h : Byt s.1) : Byt (pF s).2.1 := (RN_bd 1 s.1 s.2 h).2.2.2
theorem pF_inv {s : List Int × Bool} (hb : Byt s.1) (h : (pF s).2.2 = false) : s.2 = false ∧ s.1 = [if (pF s).1 then 1 else 0] ++ (pF s).2.1 := by
  have h' : FB (RN 1 s.1 s.2).2.2 1 (RN 1 s.1 s.2).1 = false := h
  have hbd := RN_bd 1 s.1 s.2 hb
  have hi := rn_inv (k := 1) (b := s.2) hb
  simp only [show ((1 : Nat) : Int) = 1 from rfl] at hbd hi
  unfold pF
  simp only
  generalize RN 1 s.1 s.2 = r at *
  obtain ⟨n, l, b⟩ := r
  simp only at h' hbd hi ⊢
  simp only [FB, Bool.or_eq_false_iff, decide_eq_false_iff_not] at h'
  obtain ⟨rfl, hn⟩ := h'
  obtain ⟨h1, h2⟩ := hi rfl
  refine ⟨h1, ?_⟩
  rw [be_one n hbd.1 (by omega)] at h2
  rw [h2]
  rcases (by omega : n = 0 ∨ n = 1) with rfl | rfl <;> simp [FV]

theorem wrap_u32 {u : Int} (h : U32 u) : IntKind.u32.wrap u = u := by
  have := h.1; have := h.2
  simp [IntKind.wrap, IntKind.bits, IntKind.signed]
  omega

theorem pW_byt {s : List Int × Bool} (h : Byt s.1) : Byt (pW s).2.1 := (pN_byt (pN_byt h).1).1
theorem pW_inv {s : List Int × Bool} (hb : Byt s.1) (h : (pW s).2.2 = false) : s.2 = false ∧ s.1 = whoB (pW s).1.1 (pW s).1.2 ++ (pW s).2.1 := by
  obtain ⟨h1, h2⟩ := pN_inv (pN_byt hb).1 h
  obtain ⟨h3, h4⟩ := pN_inv hb h1
  refine ⟨h3, ?_⟩
  show s.1 = (be (IntKind.u32.wrap (pN s).1) 4 ++ be (IntKind.u32.wrap (pN (pN s).2).1) 4) ++ (pN (pN s).2).2.1
  rw [wrap_u32 (pN_byt hb).2, wrap_u32 (pN_byt (pN_byt hb).1).2, List.append_assoc, ← h2]
  exact h4

theorem pI_byt {s : List Int × Bool} (h : Byt s.1) : Byt (pI s).2.1 := (pB_byt (pB_byt h).1).1
theorem pI_inv {s : List Int × Bool} (hb : Byt s.1) (h : (pI s).2.2 = false) : s.2 = false ∧ s.1 = identB (pI s).1.1 (pI s).1.2 ++ (pI s).2.1 := by
  obtain ⟨h1, h2⟩ := pB_inv (pB_byt hb).1 h
  obtain ⟨h3, h4⟩ := pB_inv hb h1
  refine ⟨h3, ?_⟩
  show s.1 = identB (pB s).1 (pB (pB s).2).1 ++ (pB (pB s).2).2.1
  rw [h4]
  conv => lhs; rw [h2]
  simp [identB]

theorem pH_byt {s : List Int × Bool} (h : Byt s.1) : Byt (pH s).2.1 := by
  have hf := pF_byt (pN_byt (pB_byt (pI_byt h)).1).1
  unfold pH
  simp only
  split
  · exact (pN_byt hf).1
  · exact hf
theorem pH_inv {s : List Int × Bool} (hb : Byt s.1) (h : (pH s).2.2 = false) : s.2 = false ∧ s.1 = helloB (pH s).1.ag (pH s).1.sg (pH s).1.key (pH s).1.signed (pH s).1.has (pH s).1.once ++ (pH s).2.1 := by
  have b1 := pI_byt hb
  have b2 := (pB_byt b1).1
  have b3 := (pN_byt b2).1
  have b4 := pF_byt b3
  by_cases hf : (pF (pN (pB (pI s).2).2).2).1 = true
  · have e : pH s = (⟨(pI s).1.1, (pI s).1.2, (pB (pI s).2).1, (pN (pB (pI s).2).2).1, true, (pN (pF (pN (pB (pI s).2).2).2).2).1⟩, (pN (pF (pN (pB (pI s).2).2).2).2).2) := by
      unfold pH
      simp only
      rw [if_pos hf]
    rw [e] at h ⊢
    simp only at h ⊢
    obtain ⟨g4, k4⟩ := pN_inv b4 h
    obtain ⟨g3, k3⟩ := pF_inv b3 g4
    obtain ⟨g2, k2⟩ := pN_inv b2 g3
    obtain ⟨g1, k1⟩ := pB_inv b1 g2
    obtain ⟨g0, k0⟩ := pI_inv hb g1
    refine ⟨g0, ?_⟩
    rw [k0]
    conv => lhs; rw [k1, k2, k3, k4, hf]
    simp [helloB]
  · have e : pH s = (⟨(pI s).1.1, (pI s).1.2, (pB (pI s).2).1, (pN (pB (pI s).2).2).1, false, 0⟩, (pF (pN (pB (pI s).2).2).2).2) := by
      unfold pH
      simp only
      rw [if_neg hf]
    have hf : (pF (pN (pB (pI s).2).2).2).1 = false := by simpa using hf
    rw [e] at h ⊢
    simp only at h ⊢
    obtain ⟨g3, k3⟩ := pF_inv b3 h
    obtain ⟨g2, k2⟩ := pN_inv b2 g3
    obtain ⟨g1, k1⟩ := pB_inv b1 g2
    obtain ⟨g0, k0⟩ := pI_inv hb g1
    refine ⟨g0, ?_⟩
    rw [k0]
    conv => lhs; rw [k1, k2, k3, hf]
    simp [helloB]

theorem ends_inv {s : List Int × Bool} (h : Ends s = true) : s.2 = false ∧ s.1 = [] := by
  simp only [Ends, Bool.and_eq_true, Bool.not_eq_true', decide_eq_true_eq] at h
  exact ⟨h.1, List.eq_nil_of_length_eq_zero h.2⟩

theorem pInner_inv {ps : List Int} (hb : Byt ps) {u n : Int} {ts : List Int} {s : List Int × Bool} (h : pInner (ps, false) = ((u, n, ts), s)) (he : Ends s = true) : ps = innerB u n ts := by
  obtain ⟨e1, e2⟩ := ends_inv he
  have hs : (pB (pN (pN (ps, false)).2).2).2 = s := congrArg Prod.snd h
  have hv : ((pN (ps, false)).1, (pN (pN (ps, false)).2).1, (pB (pN (pN (ps, false)).2).2).1) = (u, n, ts) := congrArg Prod.fst h
  simp only [Prod.mk.injEq] at hv
  obtain ⟨rfl, rfl, rfl⟩ := hv
  subst hs
  have b1 := pN_byt (s := (ps, false)) hb
  have b2 := pN_byt b1.1
  obtain ⟨g2, k2⟩ := pB_inv b2.1 e1
  obtain ⟨g1, k1⟩ := pN_inv b1.1 g2
  obtain ⟨g0, k0⟩ := pN_inv (s := (ps, false)) hb g1
  rw [e2, List.append_nil] at k2
  rw [innerB, wrap_u32 b1.2]
  have k0 : ps = be (pN (ps, false)).1 4 ++ (pN (ps, false)).2.1 := k0
  conv => lhs; rw [k0, k1, k2]
  simp

theorem pBd_inv {ps : List Int} (hb : Byt ps) {a : BundD} {s : List Int × Bool} (h : pBd (ps, false) = (a, s)) (he : Ends s = true) : ps = bundleB a.u a.d a.ag a.sg a.signed a.key a.sig a.has a.once a.oncek := by
  obtain ⟨e1, e2⟩ := ends_inv he
  have b1 := pW_byt (s := (ps, false)) hb
  have b2 := pI_byt b1
  have b3 := (pN_byt b2).1
  have b4 := (pB_byt b3).1
  have b5 := (pB_byt b4).1
  have b6 := pF_byt b5
  by_cases hf : (pF (pB (pB (pN (pI (pW (ps, false)).2).2).2).2).2).1 = true
  · have e : pBd (ps, false) = (⟨(pW (ps, false)).1.1, (pW (ps, false)).1.2, (pI (pW (ps, false)).2).1.1, (pI (pW (ps, false)).2).1.2, (pN (pI (pW (ps, false)).2).2).1, (pB (pN (pI (pW (ps, false)).2).2).2).1, (pB (pB (pN (pI (pW (ps, false)).2).2).2).2).1, true, (pN (pF (pB (pB (pN (pI (pW (ps, false)).2).2).2).2).2).2).1, (pB (pN (pF (pB (pB (pN (pI (pW (ps, false)).2).2).2).2).2).2).2).1⟩, (pB (pN (pF (pB (pB (pN (pI (pW (ps, false)).2).2).2).2).2).2).2).2) := by
      unfold pBd
      simp only
      rw [if_pos hf]
    rw [e] at h
    injection h with ha hs
    subst ha hs
    have b7 := (pN_byt b6).1
    obtain ⟨g7, k7⟩ := pB_inv b7 e1
    obtain ⟨g6, k6⟩ := pN_inv b6 g7
    obtain ⟨g5, k5⟩ := pF_inv b5 g6
    obtain ⟨g4, k4⟩ := pB_inv b4 g5
    obtain ⟨g3, k3⟩ := pB_inv b3 g4
    obtain ⟨g2, k2⟩ := pN_inv b2 g3
    obtain ⟨g1, k1⟩ := pI_inv b1 g2
    obtain ⟨g0, k0⟩ := pW_inv (s := (ps, false)) hb g1
    rw [e2, List.append_nil] at k7
    have k0 : ps = whoB (pW (ps, false)).1.1 (pW (ps, false)).1.2 ++ (pW (ps, false)).2.1 := k0
    conv => lhs; rw [k0, k1, k2, k3, k4, k5, k6, k7, hf]
    simp [bundleB]
  · have e : pBd (ps, false) = (⟨(pW (ps, false)).1.1, (pW (ps, false)).1.2, (pI (pW (ps, false)).2).1.1, (pI (pW (ps, false)).2).1.2, (pN (pI (pW (ps, false)).2).2).1, (pB (pN (pI (pW (ps, false)).2).2).2).1, (pB (pB (pN (pI (pW (ps, false)).2).2).2).2).1, false, 0, []⟩, (pF (pB (pB (pN (pI (pW (ps, false)).2).2).2).2).2).2) := by
      unfold pBd
      simp only
      rw [if_neg hf]
    have hf : (pF (pB (pB (pN (pI (pW (ps, false)).2).2).2).2).2).1 = false := by simpa using hf
    rw [e] at h
    injection h with ha hs
    subst ha hs
    obtain ⟨g5, k5⟩ := pF_inv b5 e1
    obtain ⟨g4, k4⟩ := pB_inv b4 g5
    obtain ⟨g3, k3⟩ := pB_inv b3 g4
    obtain ⟨g2, k2⟩ := pN_inv b2 g3
    obtain ⟨g1, k1⟩ := pI_inv b1 g2
    obtain ⟨g0, k0⟩ := pW_inv (s := (ps, false)) hb g1
    rw [e2, List.append_nil] at k5
    have k0 : ps = whoB (pW (ps, false)).1.1 (pW (ps, false)).1.2 ++ (pW (ps, false)).2.1 := k0
    conv => lhs; rw [k0, k1, k2, k3, k4, k5, hf]
    simp [bundleB]

theorem pEnv_inv {ps : List Int} (hb : Byt ps) {a : EnvD} {s : List Int × Bool} (h : pEnv (ps, false) = (a, s)) (he : Ends s = true) : ps = envB a.fu a.fd a.tu a.td a.ss a.has a.h.ag a.h.sg a.h.key a.h.signed a.h.has a.h.once a.dks a.dp a.dn a.sls := by
  obtain ⟨e1, e2⟩ := ends_inv he
  have b1 := pW_byt (s := (ps, false)) hb
  have b2 := pW_byt b1
  have b3 := (pB_byt b2).1
  have b4 := pF_byt b3
  unfold pEnv at h
  simp only at h
  generalize ht : (pB (pW (pW (ps, false)).2).2) = t at *
  generalize hh : pF t.2 = f at *
  have b5 : Byt (pOH f.1 f.2).2.1 := by
    unfold pOH
    split
    · exact pH_byt b4
    · exact b4
  have i5 : (pOH f.1 f.2).2.2 = false → f.2.2 = false ∧ f.2.1 = (if f.1 then helloB (pOH f.1 f.2).1.ag (pOH f.1 f.2).1.sg (pOH f.1 f.2).1.key (pOH f.1 f.2).1.signed (pOH f.1 f.2).1.has (pOH f.1 f.2).1.once else []) ++ (pOH f.1 f.2).2.1 := by
    unfold pOH
    cases f.1
    · intro h; exact ⟨h, by simp⟩
    · simp only [if_true]; exact pH_inv b4
  generalize pOH f.1 f.2 = l at *
  have b6 := (pB_byt b5).1
  have b7 := (pN_byt b6).1
  have b8 := (pN_byt b7).1
  injection h with ha hs
  subst ha hs
  simp only
  obtain ⟨g8, k8⟩ := pB_inv b8 e1
  obtain ⟨g7, k7⟩ := pN_inv b7 g8
  obtain ⟨g6, k6⟩ := pN_inv b6 g7
  obtain ⟨g5, k5⟩ := pB_inv b5 g6
  obtain ⟨g4, k4⟩ := i5 g5
  have i3 := pF_inv b3
  rw [hh] at i3
  obtain ⟨g3, k3⟩ := i3 g4
  have i2 := pB_inv b2
  rw [ht] at i2
  obtain ⟨g2, k2⟩ := i2 g3
  obtain ⟨g1, k1⟩ := pW_inv b1 g2
  obtain ⟨g0, k0⟩ := pW_inv (s := (ps, false)) hb g1
  rw [e2, List.append_nil] at k8
  have k0 : ps = whoB (pW (ps, false)).1.1 (pW (ps, false)).1.2 ++ (pW (ps, false)).2.1 := k0
  conv => lhs; rw [k0, k1, k2, k3, k4, k5, k6, k7, k8]
  simp [envB, frontB, headB]
end Go.Proofs.Ytemlpjfngaemdaa
