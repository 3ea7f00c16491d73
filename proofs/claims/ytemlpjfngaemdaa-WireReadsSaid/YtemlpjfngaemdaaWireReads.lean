/- WireReads returns true for all bytes and all asks: what is read is what stands there, up to the first fault. No condition. -/
import Derived.Test.YtemlpjfngaemdaaWireX
import Derived.Test.YtemlpjfngaemdaaSWireReads
import Derived.Deep.CutBlock
import Derived.Deep.Cut
import Derived.IntWalk
namespace Go.Proofs.Ytemlpjfngaemdaa
open Go.RowKit Go.Pw
set_option linter.unusedVariables false

/-- Where a reading of the bytes P stands: the place j, the rest l, the fault b. -/
structure St (P : List Int) (j : Nat) (l : List Int) (b : Bool) : Prop where
  jl : j ≤ P.length
  ll : l.length ≤ P.length
  by_ : Byt l
  eq : b = false → l = P.drop j

/-- The Reader of such a reading. -/
def SR (w : World) (R : Nat) (P : List Int) (j : Nat) (b : Bool) (wr : World) : Prop :=
  ∃ p l, IsR 87 R p l b wr ∧ St P j l b ∧ Only w wr [] ∧ w.heap.size ≤ R

theorem Only.drewN (w : World) (n : Nat) (L : List Nat) : Only w (w.drewN n) L := ⟨rfl, rfl, rfl, Nat.le_refl _, fun _ _ _ => rfl⟩
theorem SR.next {w : World} {R : Nat} {P : List Int} {j' : Nat} {b' : Bool} {wr w2 : World} {l' : List Int} {v : Value} (h0 : Only w wr []) (hR : w.heap.size ≤ R) (hr : RS R v l' b' wr w2) (hs : St P j' l' b') : SR w R P j' b' w2 := by
  obtain ⟨⟨p', _, h1⟩, h2⟩ := hr
  exact ⟨p', l', h1, hs, h0.new h2 (by simp; omega), hR⟩

theorem SR.drewN {w : World} {R : Nat} {P : List Int} {j : Nat} {b : Bool} {wr : World} (h : SR w R P j b wr) (n : Nat) : SR w R P j b (wr.drewN n) := by
  obtain ⟨p, l, h1, h2, h3, h4⟩ := h
  exact ⟨p, l, ⟨h1.1, h1.2.1.only (Only.drewN wr n []) (fun _ _ => by simp), h1.2.2⟩, h2, h3.trans (Only.drewN wr n []), h4⟩

/-- The fault ahead of a number of n bytes. -/
def TB (P : List Int) (j n : Nat) (b : Bool) : Bool := b || decide ((P.length : Int) - j < n)

theorem num_bad {P l : List Int} {j n : Nat} {b : Bool} (h : St P j l b) (hn : n ≤ 8) (ht : TB P j n b = true) : RN n l b = (0, l, true) ∧ St P j l true := by
  refine ⟨if_neg ?_, h.jl, h.ll, h.by_, by simp⟩
  rintro ⟨rfl, _, _, h4⟩
  have e := h.eq rfl
  have := h.jl
  subst e
  simp [TB] at ht h4
  omega

theorem num_good {P l : List Int} {j n : Nat} {b : Bool} (h : St P j l b) (hn : n ≤ 8) (ht : TB P j n b = false) : RN n l b = (ofbe ((P.drop j).take n), P.drop (j + n), false) ∧ St P (j + n) (P.drop (j + n)) false ∧ j + n ≤ P.length := by
  have hb : b = false := by simp [TB] at ht; exact ht.1
  subst hb
  have e := h.eq rfl
  have hj := h.jl
  have hby := h.by_
  subst e
  have hle : j + n ≤ P.length := by simp [TB] at ht; omega
  refine ⟨?_, ⟨hle, by simp, fun x hx => hby x ?_, fun _ => rfl⟩, hle⟩
  · unfold RN
    rw [if_pos ⟨rfl, by omega, by omega, by simp; omega⟩]
    simp [List.drop_drop]
  · rw [← List.drop_drop] at hx
    exact List.mem_of_mem_drop hx

def n1 (kd : Int) (m : Nat) : Nat := if kd = 1 then 4 else m
def n2 (kd : Int) (m : Nat) : Nat := if kd = 2 then 1 else n1 kd m
def n3 (kd : Int) (m : Nat) : Nat := if kd = 3 then 2 else n2 kd m
theorem RN_zero {k : Int} {l : List Int} {b : Bool} (h : (RN k l b).2.2 = true) : (RN k l b).1 = 0 := by
  unfold RN at h ⊢
  split at h
  · cases h
  · rw [if_neg (by assumption)]
theorem n1_le (kd : Int) (m : Nat) (h : m ≤ 8) : n1 kd m ≤ 8 := by unfold n1; split <;> omega
theorem n2_le (kd : Int) (m : Nat) (h : m ≤ 8) : n2 kd m ≤ 8 := by unfold n2; split; omega; exact n1_le kd m h
theorem n3_le (kd : Int) (m : Nat) (h : m ≤ 8) : n3 kd m ≤ 8 := by unfold n3; split; omega; exact n2_le kd m h

set_option maxRecDepth 100000 in
set_option maxHeartbeats 6400000 in
theorem reads_walk (ap aa : Option Addr) (cp ca : Nat) (P qs : List Int) (w : World)
    (hp : Src w (.slice ap P.length cp) 1 P.length (P.map (.int .u8))) (ha : Src w (.slice aa qs.length ca) 1 qs.length (qs.map (.int .u8)))
    (bp : Byt P) (ba : Byt qs) (hlp : P.length ≤ 3000) (hla : qs.length ≤ 60) :
    Calls Try.prog 6 #[.slice ap P.length cp, .slice aa qs.length ca] w fun e w' => e = .returned (.bool true) ∧ Below w.heap.size w w' := by
  have d0 : decide ((3000 : Int) < P.length) = false := by simp; omega
  have d1 : decide ((60 : Int) < qs.length) = false := by simp; omega
  go_enter Try.func6, Try.ntmps6
  go_wp2_with fail
  refine (awake9 _).mono ?_
  rintro e w1 ⟨rfl, h1⟩
  go_wp2_with fail
  refine (rread_any _ _ _ _).mono ?_
  rintro e w3 ⟨rfl, rfl⟩
  have hR := heap_alloc_new w1 (.cells #[.slice ap P.length cp, .bool false] 87)
  have hoV : Only w1 (w1.alloc (.cells #[.slice ap P.length cp, .bool false] 87)) [] := Only.alloc w1 _ []
  have hRz := h1.size
  have hoV := h1.trans hoV
  generalize w1.alloc (.cells #[.slice ap P.length cp, .bool false] 87) = V at *
  generalize w1.heap.size = R at *
  have s0 : SR w R P 0 false V := ⟨_, P, ⟨hR, hp.off hoV (fun _ _ _ => by simp), bp⟩, ⟨Nat.zero_le _, Nat.le_refl _, bp, fun _ => rfl⟩, hoV, hRz⟩
  clear h1 hR hoV
  go_wp2_with fail
  go_loopg [6, 7, 8, 9, 10, 11, 12, 13, 14, 15, 16] qs.length (fun g u6 u7 u8 _ _ _ _ _ _ _ _ wr => ∃ (k j : Nat) (b : Bool), k + g = qs.length ∧ u6 = .int .i64 j ∧ u7 = .bool b ∧ u8 = .int .i64 k ∧ SR w R P j b wr)
  case atStart => exact ⟨0, 0, false, by omega, rfl, rfl, rfl, s0⟩
  case round =>
    clear s0
    obtain ⟨k, j, b, hk, rfl, rfl, rfl, hs⟩ := hrel
    obtain ⟨p, l, hr, hst, ho, hRz⟩ := hs
    have hk := Lib.hid hk
    by_cases hkA : k < qs.length
    · have t1 : decide ((k : Int) < qs.length) = true := by simpa using hkA
      obtain ⟨ba', oa', rfl, hca⟩ := src_at (ha.off ho (fun _ _ _ => by simp)) hkA
      have hy := hca k (.int .u8 qs[k]) (by simp)
      have bq := ba qs[k] (List.getElem_mem _)
      have hpw := hp.off ho (fun _ _ _ => by simp)
      generalize qs[k] = y at *
      clear hca
      obtain ⟨y0, y1⟩ := bq
      obtain ⟨kd, hkd⟩ : ∃ kd : Int, y % 4 = kd := ⟨_, rfl⟩
      obtain ⟨m, hm⟩ : ∃ m : Nat, y / 4 % 9 = m := ⟨(y / 4 % 9).toNat, by omega⟩
      have hm8 : m ≤ 8 := by omega
      have kd0 : 0 ≤ kd ∧ kd < 4 := by omega
      go_upto_if 52 with fail
      go_cut [9, 10] from 33 to 169 (fun u9 u10 wx => u9 = .int .u8 kd ∧ u10 = .int .i64 (n1 kd m) ∧ wr = wx)
      case first =>
        by_cases h1 : kd = 1
        · have q1 : (kd == 1) = true := by simpa using h1
          go_wp2_with fail
          go_meet
          exact ⟨by simp [hkd], by simp [n1, h1], rfl⟩
        · have q1 : (kd == 1) = false := by simpa using h1
          go_wp2_with fail
          go_meet
          exact ⟨by simp [hkd], by simp [n1, h1, hm], rfl⟩
      case rest =>
        obtain ⟨rfl, rfl, rfl⟩ := hcut
        clear hkd hm
        go_upto_if 54 with fail
        go_cut [10] from 33 to 169 (fun u10 wx => u10 = .int .i64 (n2 kd m) ∧ wr = wx)
        case first =>
          by_cases h1 : kd = 2
          · have q1 : (kd == 2) = true := by simpa using h1
            go_wp2_with fail
            go_meet
            exact ⟨by simp [n2, h1], rfl⟩
          · have q1 : (kd == 2) = false := by simpa using h1
            go_wp2_with fail
            go_meet
            exact ⟨by simp [n2, h1], rfl⟩
        case rest =>
          obtain ⟨rfl, rfl⟩ := hcut
          go_upto_if 56 with fail
          go_cut [10] from 33 to 169 (fun u10 wx => u10 = .int .i64 (n3 kd m) ∧ wr = wx)
          case first =>
            by_cases h1 : kd = 3
            · have q1 : (kd == 3) = true := by simpa using h1
              go_wp2_with fail
              go_meet
              exact ⟨by simp [n3, h1], rfl⟩
            · have q1 : (kd == 3) = false := by simpa using h1
              go_wp2_with fail
              go_meet
              exact ⟨by simp [n3, h1], rfl⟩
          case rest =>
            obtain ⟨rfl, rfl⟩ := hcut
            obtain ⟨n, hn⟩ : ∃ n, n = n3 kd m := ⟨_, rfl⟩
            rw [← hn]
            have hn8 : n ≤ 8 := by rw [hn]; exact n3_le kd m hm8
            have Hn := Lib.hid hn
            clear hn
            go_upto_region 18 with fail
            go_cut [65] from 33 to 169 (fun u wx => u = .bool (TB P j n b) ∧ wr = wx)
            case first =>
              have hj := hst.jl
              cases b
              · go_wp2_with fail
                go_meet
                exact ⟨by simp [TB], rfl⟩
              · go_wp2_with fail
                go_meet
                exact ⟨by simp [TB], rfl⟩
            case rest =>
              obtain ⟨rfl, rfl⟩ := hcut
              go_upto_if 65 with fail
              go_cut [6, 7, 11, 12] from 33 to 169 (fun u6 u7 u11 _ wx => ∃ j' : Nat, u6 = .int .i64 j' ∧ u7 = .bool (RN n l b).2.2 ∧ u11 = .int .u64 (RN n l b).1 ∧ St P j' (RN n l b).2.1 (RN n l b).2.2 ∧ wr = wx)
              case first =>
                obtain ⟨t, ht⟩ : ∃ t, TB P j n b = t := ⟨_, rfl⟩
                rw [ht]
                cases t
                · obtain ⟨e1, e2, e3⟩ := num_good hst hn8 ht
                  have hbf : b = false := by simp [TB] at ht; exact ht.1
                  subst hbf
                  have E1 := Lib.hid e1
                  have hj := hst.jl
                  clear e1 ht
                  go_wp2_with fail
                  go_loop [11, 12] (fun u i => ∃ c : Nat, i = .int .i64 c ∧ c ≤ n ∧ u = .int .u64 (ofbe ((P.drop j).take c))) (fun _ i => n - (intOf i).toNat)
                  case atStart => exact ⟨0, rfl, Nat.zero_le _, rfl⟩
                  case round =>
                    obtain ⟨c, rfl, hc, rfl⟩ := hrel
                    by_cases hcn : c < n
                    · obtain ⟨b2, o2, rfl, hcell⟩ := src_at hpw (show j + c < P.length by omega)
                      have hz := hcell (j + c) (.int .u8 P[j + c]) (by simp)
                      have hb := bp P[j + c] (List.getElem_mem _)
                      have hN0 : 0 ≤ ofbe ((P.drop j).take c) ∧ ofbe ((P.drop j).take c) < 72057594037927936 := by
                        have := ofbe_bd ((P.drop j).take c) (fun y hy => bp y (List.mem_of_mem_drop (List.mem_of_mem_take hy)))
                        rw [List.length_take, Nat.min_eq_left (by simp; omega)] at this
                        exact ⟨this.1, Int.lt_of_lt_of_le this.2 (pow7 c (by omega))⟩
                      have hsn : ofbe ((P.drop j).take (c + 1)) = ofbe ((P.drop j).take c) * 256 + P[j + c] := by
                        rw [List.take_succ_eq_append_getElem (by simp; omega), ofbe_snoc, List.getElem_drop]
                      have Hsn := Lib.hid hsn
                      clear hsn hcell
                      generalize P[j + c] = x at *
                      generalize ofbe ((P.drop j).take c) = N at *
                      go_wp2_with fail
                      go_round
                      case rel => exact ⟨c + 1, by simp, by omega, by rw [or_byte N x hN0.1 hN0.2 hb.1 hb.2, Hsn.out]⟩
                      case measure => simp [intOf]; omega
                    · obtain rfl : c = n := by omega
                      go_wp2_with fail
                      go_meet
                      rw [E1.out]
                      exact ⟨j + c, by simp, rfl, rfl, e2, rfl⟩
                · obtain ⟨e1, e2⟩ := num_bad hst hn8 ht
                  have E1 := Lib.hid e1
                  clear e1 ht
                  go_wp2_with fail
                  go_meet
                  rw [E1.out]
                  exact ⟨j, rfl, rfl, rfl, e2, rfl⟩
              case rest =>
                obtain ⟨j', rfl, rfl, rfl, hst', rfl⟩ := hcut
                rcases (by omega : kd = 0 ∨ kd = 1 ∨ kd = 2 ∨ kd = 3) with rfl | rfl | rfl | rfl
                · as_aux_lemma =>
                   clear Hn
                   have HC := Lib.hid (rnum_any R p l b n _ hr (by have := hst.ll; omega) (by omega))
                   have hxb := RN_bd n l b hst.by_
                   generalize RN n l b = r at *
                   obtain ⟨x, l', b'⟩ := r
                   simp only at hst' hxb HC ⊢
                   have hbb : (b' != b') = false := by cases b' <;> rfl
                   go_wp2_with fail
                   refine HC.out.mono ?_
                   rintro e w2 ⟨rfl, hrs⟩
                   have s2 := SR.next ho hRz hrs hst'
                   obtain ⟨p2, l2, hr2, _, _, _⟩ := id s2
                   have hxx : (x != x) = false := by simp
                   clear HC hrs hr
                   go_wp2_with fail
                   refine (rbad_any R p2 l2 b' _ hr2).mono ?_
                   rintro e w' ⟨rfl, rfl⟩
                   go_wp2_with fail
                   go_roundg (qs.length - (k + 1))
                   case measure => have := hk.out; omega
                   case rel => exact ⟨k + 1, j', b', by omega, rfl, rfl, by simp, s2⟩
                · as_aux_lemma =>
                   obtain rfl : n = 4 := by have := Hn.out; simpa [n3, n2, n1] using this
                   clear Hn
                   have HC := Lib.hid (rbytes_any R p l b y _ hr (by have := hst.ll; omega) (by omega))
                   have hxb := RN_bd 4 l b hst.by_
                   simp only [show ((4 : Nat) : Int) = 4 from rfl] at hst' hxb ⊢
                   generalize RN 4 l b = r at *
                   obtain ⟨x, l', b'⟩ := r
                   simp only at hst' hxb HC ⊢
                   have hx3 : x < 4294967296 := hxb.2.1
                   have hll := hst'.ll
                   have hj := hst'.jl
                   go_wp2_with fail
                   refine HC.out.mono ?_
                   rintro e w2 ⟨v, rfl, hv, hvs, hrs⟩
                   by_cases hf : BF b' y x l'.length = true
                   · rw [hf] at hrs hv
                     have s2 := SR.next ho hRz hrs ⟨hst'.jl, hst'.ll, hst'.by_, by simp⟩
                     simp only [show BV true x l' = [] from rfl, List.length_nil, List.map_nil] at hv
                     obtain ⟨ao, c, rfl⟩ := own_slice hv
                     clear HC hrs hr hv hvs
                     cases b'
                     · have hl' := hst'.eq rfl
                       have hlen : (l'.length : Int) = P.length - j' := by rw [hl']; simp; omega
                       by_cases hx1 : y < x
                       · have hx1' : decide (y < x) = true := by simpa using hx1
                         clear hf hlen hl'
                         obtain ⟨p2, l2, hr2, _, _, _⟩ := id s2
                         go_wp2_with fail
                         refine (rbad_any R p2 l2 true _ hr2).mono ?_
                         rintro e w' ⟨rfl, rfl⟩
                         go_wp2_with fail
                         go_roundg (qs.length - (k + 1))
                         case measure => have := hk.out; omega
                         case rel => exact ⟨k + 1, j', true, by omega, rfl, rfl, by simp, s2⟩
                       · have hx1' : decide (y < x) = false := by simpa using hx1
                         have hx2 : decide ((P.length : Int) - j' < x) = true := by
                           simp [BF] at hf ⊢
                           omega
                         clear hf hlen hl'
                         obtain ⟨p2, l2, hr2, _, _, _⟩ := id s2
                         go_wp2_with fail
                         refine (rbad_any R p2 l2 true _ hr2).mono ?_
                         rintro e w' ⟨rfl, rfl⟩
                         go_wp2_with fail
                         go_roundg (qs.length - (k + 1))
                         case measure => have := hk.out; omega
                         case rel => exact ⟨k + 1, j', true, by omega, rfl, rfl, by simp, s2⟩
                     · clear hf
                       obtain ⟨p2, l2, hr2, _, _, _⟩ := id s2
                       go_wp2_with fail
                       refine (rbad_any R p2 l2 true _ hr2).mono ?_
                       rintro e w' ⟨rfl, rfl⟩
                       go_wp2_with fail
                       go_roundg (qs.length - (k + 1))
                       case measure => have := hk.out; omega
                       case rel => exact ⟨k + 1, j', true, by omega, rfl, rfl, by simp, s2⟩
                   · have hf : BF b' y x l'.length = false := by simpa using hf
                     have hb' : b' = false := by cases b' <;> simp [BF] at hf ⊢
                     subst hb'
                     have hl' := hst'.eq rfl
                     have hlen : (l'.length : Int) = P.length - j' := by rw [hl']; simp; omega
                     have hx0 := hxb.1
                     obtain ⟨X, rfl⟩ := Int.eq_ofNat_of_zero_le hx0
                     obtain ⟨hx1, hx2⟩ : (X : Int) ≤ y ∧ (X : Int) ≤ P.length - j' := by
                       simp only [BF, Bool.false_or, Bool.or_eq_false_iff, decide_eq_false_iff_not] at hf
                       omega
                     rw [show BF false y X l'.length = false from hf] at hrs hv
                     have hXl : X ≤ l'.length := by omega
                     simp only [BV, BR, Bool.false_eq_true, if_false, Int.toNat_natCast] at hv hrs
                     rw [show (l'.take X).length = X by simp [hXl]] at hv
                     have s2 : SR w R P (j' + X) false w2 := SR.next ho hRz hrs ⟨by omega, by simp; omega, fun z hz => hst'.by_ z (List.mem_of_mem_drop hz), fun _ => by rw [hl', List.drop_drop]⟩
                     obtain ⟨ao, c, rfl⟩ := own_slice hv
                     obtain ⟨p2, l2, hr2, hst2, ho2, _⟩ := id s2
                     have hpw2 := hp.off ho2 (fun _ _ _ => by simp)
                     have hbt : Hid (l'.take X = (P.drop j').take X) := by rw [hl']; exact rfl
                     have hsub : Src w2 (.slice (if cp = j' then ap else ap.map (fun x => x.add j')) X (cp - j')) 1 X (((P.drop j').take X).map (Value.int .u8)) := by
                       have ht := src_tail (k := j') hpw2 (by omega)
                       by_cases hc : cp = j'
                       · have h0 := ht.1 hc
                         rw [if_pos hc, show cp - j' = 0 by omega]
                         have := src_take (k := X) h0 (by omega)
                         rwa [← List.map_drop, ← List.map_take] at this
                       · rw [if_neg hc]
                         have := src_take (k := X) ht.2 (by omega)
                         rwa [← List.map_drop, ← List.map_take] at this
                     have hcap : P.length ≤ cp := by
                       obtain ⟨_, _, e, h1, _⟩ := hp
                       cases e
                       exact h1
                     have hXy : X ≤ 255 := by omega
                     have hnn : IntKind.i64.wrap ((j' : Int) + X) = (j' : Int) + X := IntWalk.i64_in _ (by omega)
                     have hcs1 := fun n => run_str (P := Try.prog) (w := w2.drewN n) (S := 22) (T := 9) Try.underlying22 Try.underlying5 Try.underlying9 (n := X) ((own_src hv).only (Only.drewN w2 n []) (fun _ _ => by simp)) (by simp [hXl])
                     have hcs2 := fun n => run_str (P := Try.prog) (w := w2.drewN n) (S := 22) (T := 9) Try.underlying22 Try.underlying5 Try.underlying9 (n := X) (hsub.only (Only.drewN w2 n []) (fun _ _ => by simp)) (by simp; omega)
                     rw [hbt.out] at hcs1
                     have hj3 : (0 : Int) ≤ j' := by omega
                     have hj4 : (j' : Int) ≤ j' + X := by omega
                     have hj5 : (j' : Int) + X ≤ cp := by omega
                     have hj6 : ((j' : Int) + X).toNat = j' + X := by omega
                     have hy' : y ≤ 255 := by omega
                     have d1 : decide (y < (X : Int)) = false := by simp; omega
                     have d2 : decide ((P.length : Int) - j' < X) = false := by simp; omega
                     generalize (P.drop j').take X = Z at *
                     have hzz : ((strOfNums Z).toList != (strOfNums Z).toList) = false := by simp
                     clear HC hrs hr hvs hf hlen hl' hbt hv hsub hXl hst' hst hll hpw hpw2 hst2 hxb hx3 hx0 hx1 hx2 hy
                     by_cases hc : cp = j'
                     · subst hc
                       simp only [if_true, Nat.sub_self] at hcs2
                       go_wp2_with fail
                       go_quiet (fail)
                       obtain ⟨p3, l3, hr3, _, _, _⟩ := id (s2.drewN nq)
                       go_wp2_with fail
                       refine (rbad_any R p3 l3 false _ hr3).mono ?_
                       rintro e w' ⟨rfl, rfl⟩
                       go_wp2_with fail
                       go_roundg (qs.length - (k + 1))
                       case measure => have := hk.out; omega
                       case rel => exact ⟨k + 1, cp + X, false, by omega, by simp, rfl, by simp, s2.drewN nq⟩
                     · simp only [if_neg hc] at hcs2
                       go_wp2_with fail
                       go_quiet (fail)
                       obtain ⟨p3, l3, hr3, _, _, _⟩ := id (s2.drewN nq)
                       go_wp2_with fail
                       refine (rbad_any R p3 l3 false _ hr3).mono ?_
                       rintro e w' ⟨rfl, rfl⟩
                       go_wp2_with fail
                       go_roundg (qs.length - (k + 1))
                       case measure => have := hk.out; omega
                       case rel => exact ⟨k + 1, j' + X, false, by omega, by simp, rfl, by simp, s2.drewN nq⟩
                · as_aux_lemma =>
                   obtain rfl : n = 1 := by have := Hn.out; simpa [n3, n2, n1] using this
                   clear Hn
                   have HC := Lib.hid (rflag_any R p l b _ hr (by have := hst.ll; omega))
                   have hxb := RN_bd 1 l b hst.by_
                   have hz := Lib.hid (RN_zero (k := 1) (l := l) (b := b))
                   simp only [Int.natCast_one] at hst' ⊢
                   generalize RN 1 l b = r at *
                   obtain ⟨x, l', b'⟩ := r
                   simp only at hst' hxb HC hz ⊢
                   go_wp2_with fail
                   refine HC.out.mono ?_
                   rintro e w2 ⟨rfl, hrs⟩
                   by_cases hf : FB b' 1 x = true
                   · have hv : FV x = false := by
                       cases b'
                       · simp [FB] at hf; simp [FV]; omega
                       · have := hz.out rfl; simp [FV, this]
                     rw [hf] at hrs
                     have s2 := SR.next ho hRz hrs ⟨hst'.jl, hst'.ll, hst'.by_, by simp⟩
                     rw [hv]
                     clear HC hrs hr hv hz
                     cases b'
                     · have hx1 : decide (1 < x) = true := by simpa [FB] using hf
                       clear hf
                       obtain ⟨p2, l2, hr2, _, _, _⟩ := id s2
                       go_wp2_with fail
                       refine (rbad_any R p2 l2 true _ hr2).mono ?_
                       rintro e w' ⟨rfl, rfl⟩
                       go_wp2_with fail
                       go_roundg (qs.length - (k + 1))
                       case measure => have := hk.out; omega
                       case rel => exact ⟨k + 1, j', true, by omega, rfl, rfl, by simp, s2⟩
                     · clear hf
                       obtain ⟨p2, l2, hr2, _, _, _⟩ := id s2
                       go_wp2_with fail
                       refine (rbad_any R p2 l2 true _ hr2).mono ?_
                       rintro e w' ⟨rfl, rfl⟩
                       go_wp2_with fail
                       go_roundg (qs.length - (k + 1))
                       case measure => have := hk.out; omega
                       case rel => exact ⟨k + 1, j', true, by omega, rfl, rfl, by simp, s2⟩
                   · have hf : FB b' 1 x = false := by simpa using hf
                     have hb' : b' = false := by cases b' <;> simp [FB] at hf ⊢
                     subst hb'
                     rw [hf] at hrs
                     have s2 := SR.next ho hRz hrs hst'
                     have hv : FV x = (x == 1) := rfl
                     have hx1 : decide (1 < x) = false := by simpa [FB] using hf
                     rw [hv]
                     have hxx : ((x == 1) != (x == 1)) = false := by simp
                     clear HC hrs hr hv hf hz
                     obtain ⟨p2, l2, hr2, _, _, _⟩ := id s2
                     go_wp2_with fail
                     refine (rbad_any R p2 l2 false _ hr2).mono ?_
                     rintro e w' ⟨rfl, rfl⟩
                     go_wp2_with fail
                     go_roundg (qs.length - (k + 1))
                     case measure => have := hk.out; omega
                     case rel => exact ⟨k + 1, j', false, by omega, rfl, rfl, by simp, s2⟩
                · as_aux_lemma =>
                   obtain rfl : n = 2 := by have := Hn.out; simpa [n3, n2, n1] using this
                   clear Hn
                   have HC := Lib.hid (rcount_any R p l b y _ hr (by have := hst.ll; omega) (by omega))
                   have hxb := RN_bd 2 l b hst.by_
                   have hz := Lib.hid (RN_zero (k := 2) (l := l) (b := b))
                   simp only [show ((2 : Nat) : Int) = 2 from rfl] at hst' hxb ⊢
                   generalize RN 2 l b = r at *
                   obtain ⟨x, l', b'⟩ := r
                   simp only at hst' hxb HC hz ⊢
                   have hx3 : x < 65536 := hxb.2.1
                   go_wp2_with fail
                   refine HC.out.mono ?_
                   rintro e w2 ⟨rfl, hrs⟩
                   by_cases hf : FB b' y x = true
                   · have hv : CV y x = 0 := by
                       cases b'
                       · simp [FB] at hf; simp [CV, hf]
                       · have := hz.out rfl; rw [this]; simp [CV]
                     rw [hf] at hrs
                     have s2 := SR.next ho hRz hrs ⟨hst'.jl, hst'.ll, hst'.by_, by simp⟩
                     rw [hv]
                     clear HC hrs hr hv hz
                     cases b'
                     · have hx1 : decide (y < x) = true := by simpa [FB] using hf
                       clear hf
                       obtain ⟨p2, l2, hr2, _, _, _⟩ := id s2
                       go_wp2_with fail
                       refine (rbad_any R p2 l2 true _ hr2).mono ?_
                       rintro e w' ⟨rfl, rfl⟩
                       go_wp2_with fail
                       go_roundg (qs.length - (k + 1))
                       case measure => have := hk.out; omega
                       case rel => exact ⟨k + 1, j', true, by omega, rfl, rfl, by simp, s2⟩
                     · clear hf
                       obtain ⟨p2, l2, hr2, _, _, _⟩ := id s2
                       go_wp2_with fail
                       refine (rbad_any R p2 l2 true _ hr2).mono ?_
                       rintro e w' ⟨rfl, rfl⟩
                       go_wp2_with fail
                       go_roundg (qs.length - (k + 1))
                       case measure => have := hk.out; omega
                       case rel => exact ⟨k + 1, j', true, by omega, rfl, rfl, by simp, s2⟩
                   · have hf : FB b' y x = false := by simpa using hf
                     have hb' : b' = false := by cases b' <;> simp [FB] at hf ⊢
                     subst hb'
                     rw [hf] at hrs
                     have s2 := SR.next ho hRz hrs hst'
                     have hx1 : decide (y < x) = false := by simpa [FB] using hf
                     have hv : CV y x = x := if_neg (by simpa using hx1)
                     rw [hv]
                     have hxx : (x != x) = false := by simp
                     clear HC hrs hr hv hf hz
                     obtain ⟨p2, l2, hr2, _, _, _⟩ := id s2
                     go_wp2_with fail
                     refine (rbad_any R p2 l2 false _ hr2).mono ?_
                     rintro e w' ⟨rfl, rfl⟩
                     go_wp2_with fail
                     go_roundg (qs.length - (k + 1))
                     case measure => have := hk.out; omega
                     case rel => exact ⟨k + 1, j', false, by omega, rfl, rfl, by simp, s2⟩
    · as_aux_lemma =>
       obtain rfl : k = qs.length := by have := hk.out; omega
       clear hk
       have t1 : decide ((qs.length : Int) < qs.length) = false := by simp
       have hj := hst.jl
       cases b
       · have hl := hst.eq rfl
         have hll : (l.length : Int) = P.length - j := by rw [hl]; simp; omega
         have HL := rleft_any R p l false _ hr
         have HE := rend_any R p l false _ hr
         simp only [Bool.false_eq_true, if_false, hll] at HL
         have hdec : decide (l.length = 0) = ((P.length : Int) - j == 0) := by
           rw [Bool.eq_iff_iff]; simp only [decide_eq_true_eq, beq_iff_eq]; omega
         rw [hdec] at HE
         have HL := Lib.hid HL
         have HE := Lib.hid HE
         clear hl hll hdec hst hr
         have e1 : ((P.length : Int) - j == (P.length : Int) - j) = true := by simp
         cases he : ((P.length : Int) - j == 0)
         · have e2 : ((false : Bool) == false) = true := rfl
           go_wp2_with fail
           refine HL.out.mono ?_
           rintro e w' ⟨rfl, rfl⟩
           go_wp2_with fail
           refine HE.out.mono ?_
           rintro e w' ⟨rfl, rfl⟩
           go_wp2_with fail
           go_ret
           exact ⟨rfl, ho.below (Nat.le_refl _) (by simp)⟩
         · go_wp2_with fail
           refine HL.out.mono ?_
           rintro e w' ⟨rfl, rfl⟩
           go_wp2_with fail
           refine HE.out.mono ?_
           rintro e w' ⟨rfl, rfl⟩
           go_wp2_with fail
           go_ret
           exact ⟨rfl, ho.below (Nat.le_refl _) (by simp)⟩
       · go_wp2_with (first | (go_at_call 30; refine (rend_any R p _ _ _ hr).mono ?_; rintro e w' ⟨rfl, rfl⟩) | (go_at_call 29; refine (rleft_any R p _ _ _ hr).mono ?_; rintro e w' ⟨rfl, rfl⟩))
         go_ret
         exact ⟨rfl, ho.below (Nat.le_refl _) (by simp)⟩

set_option maxRecDepth 100000 in
set_option maxHeartbeats 6400000 in
theorem reads_bail (ap aa : Option Addr) (lp la cp ca : Nat) (w : World) (h : 3000 < lp ∨ (lp ≤ 3000 ∧ 60 < la)) :
    Calls Try.prog 6 #[.slice ap lp cp, .slice aa la ca] w fun e w' => e = .returned (.bool true) ∧ Below w.heap.size w w' := by
  rcases h with h | ⟨h1, h2⟩
  · have d0 : decide ((3000 : Int) < lp) = true := by simp; omega
    clear h
    go_enter Try.func6, Try.ntmps6
    go_wp2_with fail
    refine (awake9 _).mono ?_
    rintro e w1 ⟨rfl, h1⟩
    go_wp2_with fail
    refine (awake9 _).mono ?_
    rintro e w2 ⟨rfl, h2⟩
    go_wp2_with fail
    go_ret
    exact ⟨rfl, (h1.trans h2).below (Nat.le_refl _) (by simp)⟩
  · have d0 : decide ((3000 : Int) < lp) = false := by simp; omega
    have d1 : decide ((60 : Int) < la) = true := by simp; omega
    clear h1 h2
    go_enter Try.func6, Try.ntmps6
    go_wp2_with fail
    refine (awake9 _).mono ?_
    rintro e w1 ⟨rfl, h1⟩
    go_wp2_with fail
    refine (awake9 _).mono ?_
    rintro e w2 ⟨rfl, h2⟩
    go_wp2_with fail
    go_ret
    exact ⟨rfl, (h1.trans h2).below (Nat.le_refl _) (by simp)⟩

theorem wireReads_holds : Rows.WireReadsSaid := wireReads.said fun H enc base W v0 v1 d0 p0 d1 p1 h0 t0 h1 t1 => by
  obtain ⟨ap, cp, P, rfl, hp, bp⟩ := open_bytes Try.underlying22 Try.underlying5 (by kernel_rfl) h0 t0
  obtain ⟨aa, ca, qs, rfl, ha, ba⟩ := open_bytes Try.underlying22 Try.underlying5 (by kernel_rfl) h1 t1
  by_cases hc : P.length ≤ 3000 ∧ qs.length ≤ 60
  · exact reads_walk ap aa cp ca P qs W hp ha bp ba hc.1 hc.2
  · exact reads_bail ap aa _ _ cp ca W (by omega)
end Go.Proofs.Ytemlpjfngaemdaa
