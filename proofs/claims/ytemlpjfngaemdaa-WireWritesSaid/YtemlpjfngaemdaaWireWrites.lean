/- WireWrites returns true for all numbers, sizes, slices and truths: laid one behind the other they are the document's bytes, and are read back. No condition. -/
import Derived.Test.YtemlpjfngaemdaaWireX
import Derived.Test.YtemlpjfngaemdaaSWireWrites
import Derived.Deep.CutBlock
import Derived.Laws.Bits64b
import Derived.Deep.Cut
namespace Go.Proofs.Ytemlpjfngaemdaa
open Go.RowKit Go.Pw
set_option linter.unusedVariables false

theorem src_new {w : World} {ao : Option Addr} {n c : Nat} {cs : List Value} (h : Src w (.slice ao n c) 1 n cs) {k : Nat} (hk : k < n) : ∃ b o, ao = some ⟨b, o, none⟩ ∧ ∀ w', Only w w' [] → ∀ j u, cs[j]? = some u → w'.cell? ⟨b, o + j, none⟩ = some u := by
  obtain ⟨b, o, rfl, _⟩ := src_at h hk
  refine ⟨b, o, rfl, fun w' ho j u hj => ?_⟩
  obtain ⟨b', o', e, hc⟩ := src_at (h.off ho (fun _ _ _ => by simp)) hk
  cases e
  exact hc j u hj

theorem WR.wr {w wr : World} {B : Nat} {v : Value} {ys zs : List Int} (h : WR w B v ys zs wr) : ∃ v', IsW 26 5 B v' zs wr ∧ (∀ k ∈ B :: v'.ownBlock.toList, w.heap.size ≤ k) ∧ ∀ v'' w1 zs', IsW 26 5 B v'' zs' w1 → SoN wr v' v'' → Only wr w1 (B :: v'.ownBlock.toList) → WR w B v ys zs' w1 := by
  obtain ⟨h1, h2, v', h3, h4, h5⟩ := h
  refine ⟨v', h3, h5, fun v'' w1 zs' k1 k2 k3 => ⟨h1.new k3 h5, Src.off h2 k3 h4, v'', k1, fun hm k hk hkL => ?_, fun k hk => ?_⟩⟩
  · rcases own_list k2 k hkL with hh | hh
    · exact h4 hm k hk hh
    · have := Src.lt h2 (by decide) hm k hk
      omega
  · rcases own_list k2 k hk with hh | hh
    · exact h5 k hh
    · have := h1.size
      omega
theorem sB_take {rs : List (Option Addr × Nat × List Int)} {k : Nat} (h : k < rs.length) (b : Bool) : sB ((rs.take (k + 1)).map fun r => r.2.2) b = sB ((rs.take k).map fun r => r.2.2) b ++ rw1 rs[k].2.2 b := by
  rw [List.take_succ_eq_append_getElem h, List.map_append]
  simp only [List.map_cons, List.map_nil]
  rw [sB_snoc]
theorem rw1_len (r : List Int) (b : Bool) : (rw1 r b).length = r.length + 5 := by simp [rw1, be_len]; omega

theorem nR_len (ns sz : List Int) : ∀ m k, (nR ns sz m k).length ≤ 8 * m
  | 0, _ => by simp [nR]
  | m + 1, k => by
    have := nR_len ns sz m (k + 1)
    rw [nR, List.length_append, be_len]
    omega
theorem msk (x : Int) (j : Nat) (h0 : 0 ≤ x) (h1 : x < 18446744073709551616) (hj : j ≤ 64) : bits .and .u64 x ((2 ^ j - 1 : Nat) : Int) = x % ((2 ^ j : Nat) : Int) := by
  obtain ⟨n, rfl⟩ := Int.eq_ofNat_of_zero_le h0
  have hp : 2 ^ j ≤ 2 ^ 64 := Nat.pow_le_pow_right (by decide) hj
  have hq : 0 < 2 ^ j := Nat.pow_pos (by decide)
  have h64 : 2 ^ 64 = 18446744073709551616 := by decide
  rw [bits_and_u64_nat n _ (by omega) (by omega), Nat.and_two_pow_sub_one_eq_mod]
  exact Int.natCast_emod _ _
theorem rflag_back (R : Nat) (p : Value) (Z : List Int) (b : Bool) (w : World) (h : IsR 87 R p ([if b then 1 else 0] ++ Z) false w) (hl : ([if b then 1 else 0] ++ Z).length ≤ 1000000000) :
    Calls Try.prog 26 #[.pointer (some ⟨R, 0, none⟩)] w fun e w' => e = .returned (.bool b) ∧ RS R p Z false w w' := by
  have hb : be (if b then 1 else 0) 1 = [if b then 1 else 0] := by cases b <;> simp [be]
  have H := rflag_any R p _ false w h hl
  have e := RN_be (if b then 1 else 0) 1 Z (by cases b <;> simp) (by cases b <;> simp) (by decide)
  rw [hb] at e
  have e : RN 1 ([if b then 1 else 0] ++ Z) false = (if b then 1 else 0, Z, false) := e
  rw [e] at H
  refine H.mono ?_
  rintro e w' ⟨rfl, h⟩
  cases b <;> exact ⟨by simp [FV], by simpa [FB] using h⟩
theorem byt_fl (b : Bool) : Byt [if b then 1 else 0] := by cases b <;> simp [Byt]
theorem sB_byt {rs : List (List Int)} (h : ∀ r ∈ rs, Byt r) (b : Bool) : Byt (sB rs b) := by
  induction rs with
  | nil => exact Byt.nil
  | cons r rs ih =>
    rw [sB_cons]
    exact (((be_byt _ _).app (h r (by simp))).app (byt_fl _)).app (ih fun r' hr' => h r' (by simp [hr']))

set_option maxRecDepth 100000 in
set_option maxHeartbeats 6400000 in
theorem writes_walk (an az ap : Option Addr) (cn cz cp : Nat) (ns sz : List Int) (rs : List (Option Addr × Nat × List Int)) (b : Bool) (w : World)
    (hn : Src w (.slice an ns.length cn) 1 ns.length (ns.map (.int .u64))) (hz : Src w (.slice az sz.length cz) 1 sz.length (sz.map (.int .u8))) (hp : Src w (.slice ap rs.length cp) 1 rs.length (rs.map bval))
    (bn : ∀ x ∈ ns, 0 ≤ x ∧ x < 18446744073709551616) (bz : ∀ x ∈ sz, 0 ≤ x ∧ x < 256) (br : ∀ r ∈ rs, Rd w (bval r) r.2.2 ∧ Byt r.2.2) (hln : ns.length ≤ 40) (hlp : rs.length ≤ 20) (hlz : sz.length ≤ 9223372036854775807) :
    Calls Try.prog 8 #[.slice an ns.length cn, .slice az sz.length cz, .slice ap rs.length cp, .bool b] w fun e w' => e = .returned (.bool true) ∧ Below w.heap.size w w' := by
  have d0 : decide ((40 : Int) < ns.length) = false := by simp; omega
  have d1 : decide ((20 : Int) < rs.length) = false := by simp; omega
  go_enter Try.func8, Try.ntmps8
  go_wp2_with fail
  refine (awake9 _).mono ?_
  rintro e w1 ⟨rfl, h1⟩
  go_upto_block 0 with fail
  obtain ⟨W, B, hW, hB, hbB, hoW, hB1, hB2⟩ := new_block w1 (.cells #[.slice none 0 0] 26)
  rw [← hW, ← hB]
  clear hW hB
  have hB0 : w.heap.size ≤ B := Nat.le_trans h1.size hB1
  have s0 : WR w B (.slice none 0 0) (nB ns sz 0) (nB ns sz 0) W := ⟨h1.trans hoW, Rd.nil _, .slice none 0 0, ⟨hbB, World.ownsRow_nil _ _ _ _⟩, fun hm => by simp [slen] at hm, by simpa [Value.ownBlock] using hB0⟩
  obtain ⟨K, hK⟩ : ∃ K, K = min ns.length sz.length := ⟨_, rfl⟩
  clear h1 hoW hbB hB1 hB2
  go_cut [9, 10, 11, 12] from 35 to 66 (fun q v _ _ wr => q = .pointer (some ⟨B, 0, none⟩) ∧ WR w B v (nB ns sz K) (nB ns sz K) wr)
  case first =>
    go_wp2_with fail
    go_loopw [9, 10, 11, 12] (fun q v i _ wr => ∃ k : Nat, q = .pointer (some ⟨B, 0, none⟩) ∧ i = .int .i64 k ∧ k ≤ K ∧ WR w B v (nB ns sz k) (nB ns sz k) wr) (fun _ _ i _ _ => K - (intOf i).toNat)
    case atStart => exact ⟨0, rfl, rfl, Nat.zero_le _, s0⟩
    case round =>
      clear s0
      obtain ⟨k, rfl, rfl, hk, hwr⟩ := hrel
      by_cases hkK : k < K
      · have hkn : k < ns.length := by omega
        have hkz : k < sz.length := by omega
        obtain ⟨bn', on', rfl, hcn⟩ := src_new hn hkn
        obtain ⟨bz', oz', rfl, hcz⟩ := src_new hz hkz
        have hxs := fun w' ho => hcn w' ho k (.int .u64 ns[k]) (by simp)
        have hys := fun w' ho => hcz w' ho k (.int .u8 sz[k]) (by simp)
        have bx := bn ns[k] (List.getElem_mem _)
        have by_ := bz sz[k] (List.getElem_mem _)
        have gx := gtI_get hkn
        have gy := gtI_get hkz
        rw [← gx] at hxs bx
        rw [← gy] at hys by_
        clear hcn hcz gx gy
        have t1 : decide ((k : Int) < ns.length) = true := by simpa using hkn
        have t2 : decide ((k : Int) < sz.length) = true := by simpa using hkz
        have Hnk : Hid (nB ns sz (k + 1) = nB ns sz k ++ be (gtI ns k) (gtI sz k % 9).toNat) := rfl
        have hyl := nB_len ns sz k
        generalize gtI ns k = x at *
        generalize gtI sz k = y at *
        obtain ⟨bx0, bx1⟩ := bx
        obtain ⟨by0, by1⟩ := by_
        obtain ⟨m, hm⟩ : ∃ m : Nat, y % 9 = m := ⟨(y % 9).toNat, by omega⟩
        have hm8 : m ≤ 8 := by omega
        rw [hm] at Hnk
        simp only [Int.toNat_natCast] at Hnk
        have hx := hxs _ hwr.1
        have hy := hys _ hwr.1
        obtain ⟨v1, hw0, ho0, hnext⟩ := hwr.write
        go_wp2_with fail
        rw [hm]
        refine (wnum_any B v1 _ x m _ hm8 bx0 bx1 hw0 (by omega)).mono ?_
        rintro e w2 ⟨rfl, v2, k1, k2, k3⟩
        have hwr2 := hnext _ _ _ k1 k2 k3
        have hx := hxs _ hwr2.1
        clear hw0 ho0 hnext k1 k2 k3 hy
        go_wp2_with fail
        refine (rfnum_any _ _ x m _ hwr2.2.1 (by omega) hm8 bx0 bx1).mono fun e w4 hq => ?_
        obtain ⟨ys, a1, q1, Hys, rfl, g1, g2, g3⟩ := hq.name
        clear hq
        have hwr3 := hwr2.ref g1 g2 g3
        rw [← Hnk.out] at Hys hwr3
        clear hwr hwr2 g1 g2 g3 hx
        go_wp2
        go_roundw
        case rel =>
          refine ⟨k + 1, rfl, rfl, by omega, ?_⟩
          have := Hys.out
          subst this
          exact hwr3
        case measure => simp [intOf]; omega
      · have e : k = K := by omega
        subst e
        by_cases hkn : k < ns.length
        · have t1 : decide ((k : Int) < ns.length) = true := by simpa using hkn
          have t2 : decide ((k : Int) < sz.length) = false := by simp; omega
          go_wp2_with fail
          go_meet
          exact ⟨rfl, hwr⟩
        · have t1 : decide ((k : Int) < ns.length) = false := by simp; omega
          go_wp2_with fail
          go_meet
          exact ⟨rfl, hwr⟩
  case rest =>
    clear s0
    obtain ⟨rfl, s0⟩ := hcut
    have hKl : (nB ns sz K).length ≤ 320 := by have := nB_len ns sz K; omega
    generalize hN : nB ns sz K = N at *
    have hN := Lib.hid hN
    go_wp2_with fail
    go_loopw [9, 10, 13] (fun q v i wr => ∃ k : Nat, q = .pointer (some ⟨B, 0, none⟩) ∧ i = .int .i64 k ∧ k ≤ rs.length ∧ (∀ j (h : j < rs.length), j < k → rs[j].2.2.length ≤ 2000) ∧ (sB ((rs.take k).map fun r => r.2.2) b).length ≤ 2005 * k ∧ WR w B v (N ++ sB ((rs.take k).map fun r => r.2.2) b) (N ++ sB ((rs.take k).map fun r => r.2.2) b) wr) (fun _ _ i _ => rs.length - (intOf i).toNat)
    case atStart => exact ⟨0, rfl, rfl, Nat.zero_le _, fun _ _ h => by omega, by simp [sB], by simpa [sB] using s0⟩
    case round =>
      clear s0
      obtain ⟨k, rfl, rfl, hk, hall, hsl, hwr⟩ := hrel
      by_cases hkR : k < rs.length
      · obtain ⟨bp', op', rfl, hcp⟩ := src_new hp hkR
        have hps := fun w' ho => hcp w' ho k (bval rs[k]) (by rw [List.getElem?_map, List.getElem?_eq_getElem hkR]; rfl)
        have hr := br rs[k] (List.getElem_mem _)
        have Htk := Lib.hid (sB_take hkR b)
        have Hal : ∀ m, m = rs[k].2.2.length → m ≤ 2000 → Hid (∀ j (h : j < rs.length), j < k + 1 → rs[j].2.2.length ≤ 2000) := fun m hm h2 j h hj => by
          by_cases hjk : j = k
          · subst hjk
            omega
          · exact hall j h (by omega)
        clear hcp hall
        generalize rs[k] = r at *
        obtain ⟨ao', c', bs⟩ := r
        simp only [bval] at hps hr
        have Hal := Hal _ rfl
        simp only at Hal Htk
        generalize sB ((rs.take k).map fun r => r.2.2) b = us at *
        obtain ⟨hr1, hr2⟩ := hr
        have t1 : decide ((k : Int) < rs.length) = true := by simpa using hkR
        have hx := hps _ hwr.1
        by_cases hbl : bs.length ≤ 2000
        · have d2 : decide ((2000 : Int) < bs.length) = false := by simp; omega
          have hbl' := Lib.hid hbl
          have Hal := Lib.hid (Hal hbl)
          obtain ⟨v1, hw0, h5, hnext⟩ := hwr.wr
          have hsu : us.length ≤ 40100 := by omega
          go_wp2_with fail
          refine (wbytes_any B v1 _ _ bs _ hw0 (by simp; omega) (hr1.new hwr.1) (by omega) (fun hm k hk hkL => by have := Src.lt hr1 (by decide) hm k hk; have := h5 k hkL; omega)).mono ?_
          rintro e w2 ⟨rfl, v2, k1, k2, k3⟩
          have hwr2 := hnext _ _ _ k1 k2 k3
          clear hw0 h5 hnext k1 k2 k3 hwr
          obtain ⟨v3, hw0, h5, hnext⟩ := hwr2.wr
          go_wp2_with fail
          refine (wflag_any B v3 _ b _ hw0 (by simp [be_len]; omega)).mono ?_
          rintro e w3 ⟨rfl, v4, k1, k2, k3⟩
          have hwr3 := hnext _ _ _ k1 k2 k3
          clear hw0 h5 hnext k1 k2 k3 hwr2
          have hx := hps _ hwr3.1
          go_wp2_with fail
          refine (rfbytes_any _ _ _ bs _ hwr3.2.1 (hr1.new hwr3.1) (by simp; omega) (by omega)).mono fun e w4 hq => ?_
          obtain ⟨ys, a1, q1, Hys, rfl, g1, g2, g3⟩ := hq.name
          clear hq
          have hwr4 := hwr3.ref g1 g2 g3
          clear g1 g2 g3 hwr3 hx
          have hyl : ys.length ≤ 50000 := by rw [Hys.out]; simp [be_len]; omega
          go_wp2_with fail
          refine (rfflag_any _ _ b _ hwr4.2.1 (by omega)).mono fun e w5 hq => ?_
          obtain ⟨zs, a2, q2, Hzs, rfl, g1, g2, g3⟩ := hq.name
          clear hq
          have hwr5 := hwr4.ref g1 g2 g3
          clear g1 g2 g3 hwr4
          go_wp2
          go_roundw
          case rel =>
            have e : zs = N ++ (us ++ rw1 bs b) := by rw [Hzs.out, Hys.out]; simp [rw1]
            have e2 : N ++ us ++ be bs.length 4 ++ bs ++ [if b then 1 else 0] = zs := by rw [e]; simp [rw1]
            rw [e2] at hwr5
            refine ⟨k + 1, rfl, rfl, by omega, Hal.out, ?_, ?_⟩
            · rw [Htk.out, List.length_append, rw1_len]
              have := hbl'.out
              omega
            · rw [Htk.out, ← e]
              exact hwr5
          case measure => simp [intOf]; omega
        · have d2 : decide ((2000 : Int) < bs.length) = true := by simp; omega
          go_wp2_with fail
          go_ret
          exact ⟨rfl, hwr.1.below (Nat.le_refl _) (by simp)⟩
      · have e : k = rs.length := by omega
        subst e
        rw [List.take_length] at hsl hwr
        have hall2 := Lib.hid (fun j h => hall j h h : ∀ j (h : j < rs.length), rs[j].2.2.length ≤ 2000)
        clear hall
        have t1 : decide ((rs.length : Int) < rs.length) = false := by simp
        obtain ⟨us, hus⟩ : ∃ us, us = sB (rs.map fun r => r.2.2) b := ⟨_, rfl⟩
        rw [← hus] at hsl hwr
        have Hus := Lib.hid hus
        clear hus
        obtain ⟨M, hM⟩ : ∃ M, M = N ++ us := ⟨_, rfl⟩
        rw [← hM] at hwr
        have hMl : M.length ≤ 50000 := by rw [hM]; simp; omega
        have HM := Lib.hid hM
        clear hM
        obtain ⟨v1, hw0, h5, hnext⟩ := hwr.wr
        clear h5 hnext
        go_wp2_with fail
        refine (wdone_any B v1 _ _ hw0 (by omega)).mono ?_
        rintro e w2 ⟨v, rfl, g1, g2, g3⟩
        obtain ⟨a2, c2, rfl⟩ := own_slice g1
        have hrf := hwr.2.1.new g3
        obtain ⟨a3, c3, rfl⟩ := hrf.slice
        have ho2 := hwr.1.trans g3
        clear hw0 hwr g2 g3
        have s1 := run_str (P := Try.prog) (w := w2) (S := 22) (T := 9) Try.underlying22 Try.underlying5 Try.underlying9 (own_rd g1) rfl
        have s2 := run_str (P := Try.prog) (w := w2) (S := 22) (T := 9) Try.underlying22 Try.underlying5 Try.underlying9 hrf rfl
        have hnq : (!((strOfNums M).toList == (strOfNums M).toList)) = false := by simp
        have hMb : Byt M := by
          rw [HM.out, ← hN.out, Hus.out]
          refine (nB_byt _ _ _).app (sB_byt (fun r hr => ?_) b)
          obtain ⟨q, hq, rfl⟩ := List.mem_map.1 hr
          exact (br q hq).2
        have hMn : Hid (M = nR ns sz K 0 ++ us) := by
          have := nB_nR ns sz K 0
          rw [Nat.zero_add, hN.out] at this
          rw [HM.out, ← this]
          rfl
        go_wp2_with fail
        refine (rread_any _ _ _ _).mono ?_
        rintro e w3 ⟨rfl, rfl⟩
        clear s1 s2 hnq
        have hR := heap_alloc_new w2 (.cells #[.slice a2 M.length c2, .bool false] 87)
        have hoV : Only w2 (w2.alloc (.cells #[.slice a2 M.length c2, .bool false] 87)) [] := Only.alloc w2 _ []
        have hsz := ho2.size
        have hsr := (own_rd g1).new hoV
        have hoV := ho2.trans hoV
        clear g1 hrf
        generalize w2.alloc (.cells #[.slice a2 M.length c2, .bool false] 87) = V at *
        generalize w2.heap.size = R at *
        have r0 : RS R (.slice a2 M.length c2) M false V V := ⟨⟨_, rfl, hR, hsr, hMb⟩, Only.refl _ _⟩
        clear hR hsr ho2
        go_upto_block 4 with fail
        go_cut [16, 17, 18] from 104 to 138 (fun _ _ _ wr => RS R (.slice a2 M.length c2) us false V wr)
        case first =>
          go_wp2_with fail
          go_loopw [16, 17, 18] (fun i _ _ wr => ∃ k : Nat, i = .int .i64 k ∧ k ≤ K ∧ RS R (.slice a2 M.length c2) (nR ns sz (K - k) k ++ us) false V wr) (fun i _ _ _ => K - (intOf i).toNat)
          case atStart => exact ⟨0, rfl, Nat.zero_le _, by rw [Nat.sub_zero, ← hMn.out]; exact r0⟩
          case round =>
            clear r0
            obtain ⟨k, rfl, hk, hrs⟩ := hrel
            by_cases hkK : k < K
            · have hkn : k < ns.length := by omega
              have hkz : k < sz.length := by omega
              obtain ⟨bn', on', rfl, hcn⟩ := src_new hn hkn
              obtain ⟨bz', oz', rfl, hcz⟩ := src_new hz hkz
              have ho := hoV.new hrs.2 (by simp; omega)
              have hx := hcn _ ho k (.int .u64 ns[k]) (by simp)
              have hy := hcz _ ho k (.int .u8 sz[k]) (by simp)
              have bx := bn ns[k] (List.getElem_mem _)
              have by_ := bz sz[k] (List.getElem_mem _)
              have gx := gtI_get hkn
              have gy := gtI_get hkz
              rw [← gx] at hx bx
              rw [← gy] at hy by_
              clear hcn hcz gx gy
              have t1 : decide ((k : Int) < ns.length) = true := by simpa using hkn
              have t2 : decide ((k : Int) < sz.length) = true := by simpa using hkz
              obtain ⟨⟨p', hp', hR'⟩, hoR⟩ := hrs
              have hRl : Hid ((nR ns sz (K - k) k ++ us).length ≤ 1000000) := by
                have h1 := nR_len ns sz (K - k) k
                show (nR ns sz (K - k) k ++ us).length ≤ 1000000
                rw [List.length_append]
                omega
              rw [show K - k = (K - (k + 1)) + 1 by omega, nR] at hR' hRl
              generalize gtI ns k = x at *
              generalize gtI sz k = y at *
              obtain ⟨bx0, bx1⟩ := bx
              obtain ⟨by0, by1⟩ := by_
              obtain ⟨m, hm⟩ : ∃ m : Nat, y % 9 = m := ⟨(y % 9).toNat, by omega⟩
              have hm8 : m ≤ 8 := by omega
              rw [hm] at hR' hRl
              simp only [Int.toNat_natCast] at hR' hRl
              have q0 : bits .and .u64 x 0 = 0 := by have := msk x 0 bx0 bx1 (by decide); simpa using this
              have q1 : bits .and .u64 x 255 = x % 256 := msk x 8 bx0 bx1 (by decide)
              have q2 : bits .and .u64 x 65535 = x % 65536 := msk x 16 bx0 bx1 (by decide)
              have q3 : bits .and .u64 x 16777215 = x % 16777216 := msk x 24 bx0 bx1 (by decide)
              have q4 : bits .and .u64 x 4294967295 = x % 4294967296 := msk x 32 bx0 bx1 (by decide)
              have q5 : bits .and .u64 x 1099511627775 = x % 1099511627776 := msk x 40 bx0 bx1 (by decide)
              have q6 : bits .and .u64 x 281474976710655 = x % 281474976710656 := msk x 48 bx0 bx1 (by decide)
              have q7 : bits .and .u64 x 72057594037927935 = x % 72057594037927936 := msk x 56 bx0 bx1 (by decide)
              have q8 : x % 18446744073709551616 = x := Int.emod_eq_of_lt bx0 bx1
              rcases (by omega : m = 0 ∨ m = 1 ∨ m = 2 ∨ m = 3 ∨ m = 4 ∨ m = 5 ∨ m = 6 ∨ m = 7 ∨ m = 8) with rfl | rfl | rfl | rfl | rfl | rfl | rfl | rfl | rfl
              · go_wp2_with fail
                refine (rnum_ok R p' _ 0 _ hR' (by have := hRl.out; omega) (by decide) (by simp [be_len])).mono ?_
                rintro e w4 ⟨rfl, ⟨p2, hp2, hR2⟩, ho4⟩
                rw [List.append_assoc, List.take_append_of_le_length (by simp [be_len]), List.take_of_length_le (by simp [be_len]), ofbe_be x _ bx0]
                rw [List.append_assoc, List.drop_append_of_le_length (by simp [be_len]), List.drop_of_length_le (by simp [be_len]), List.nil_append] at hR2
                clear hx hy hR' hRl
                go_wp2_with fail
                refine ⟨⟨k + 1, rfl, by omega, ⟨p2, hp2.trans hp', hR2⟩, hoR.trans ho4⟩, by simp [intOf]; omega⟩
              · go_wp2_with fail
                refine (rnum_ok R p' _ 1 _ hR' (by have := hRl.out; omega) (by decide) (by simp [be_len])).mono ?_
                rintro e w4 ⟨rfl, ⟨p2, hp2, hR2⟩, ho4⟩
                rw [List.append_assoc, List.take_append_of_le_length (by simp [be_len]), List.take_of_length_le (by simp [be_len]), ofbe_be x _ bx0]
                rw [List.append_assoc, List.drop_append_of_le_length (by simp [be_len]), List.drop_of_length_le (by simp [be_len]), List.nil_append] at hR2
                clear hx hy hR' hRl
                go_wp2_with fail
                refine ⟨⟨k + 1, rfl, by omega, ⟨p2, hp2.trans hp', hR2⟩, hoR.trans ho4⟩, by simp [intOf]; omega⟩
              · go_wp2_with fail
                refine (rnum_ok R p' _ 2 _ hR' (by have := hRl.out; omega) (by decide) (by simp [be_len])).mono ?_
                rintro e w4 ⟨rfl, ⟨p2, hp2, hR2⟩, ho4⟩
                rw [List.append_assoc, List.take_append_of_le_length (by simp [be_len]), List.take_of_length_le (by simp [be_len]), ofbe_be x _ bx0]
                rw [List.append_assoc, List.drop_append_of_le_length (by simp [be_len]), List.drop_of_length_le (by simp [be_len]), List.nil_append] at hR2
                clear hx hy hR' hRl
                go_wp2_with fail
                refine ⟨⟨k + 1, rfl, by omega, ⟨p2, hp2.trans hp', hR2⟩, hoR.trans ho4⟩, by simp [intOf]; omega⟩
              · go_wp2_with fail
                refine (rnum_ok R p' _ 3 _ hR' (by have := hRl.out; omega) (by decide) (by simp [be_len])).mono ?_
                rintro e w4 ⟨rfl, ⟨p2, hp2, hR2⟩, ho4⟩
                rw [List.append_assoc, List.take_append_of_le_length (by simp [be_len]), List.take_of_length_le (by simp [be_len]), ofbe_be x _ bx0]
                rw [List.append_assoc, List.drop_append_of_le_length (by simp [be_len]), List.drop_of_length_le (by simp [be_len]), List.nil_append] at hR2
                clear hx hy hR' hRl
                go_wp2_with fail
                refine ⟨⟨k + 1, rfl, by omega, ⟨p2, hp2.trans hp', hR2⟩, hoR.trans ho4⟩, by simp [intOf]; omega⟩
              · go_wp2_with fail
                refine (rnum_ok R p' _ 4 _ hR' (by have := hRl.out; omega) (by decide) (by simp [be_len])).mono ?_
                rintro e w4 ⟨rfl, ⟨p2, hp2, hR2⟩, ho4⟩
                rw [List.append_assoc, List.take_append_of_le_length (by simp [be_len]), List.take_of_length_le (by simp [be_len]), ofbe_be x _ bx0]
                rw [List.append_assoc, List.drop_append_of_le_length (by simp [be_len]), List.drop_of_length_le (by simp [be_len]), List.nil_append] at hR2
                clear hx hy hR' hRl
                go_wp2_with fail
                refine ⟨⟨k + 1, rfl, by omega, ⟨p2, hp2.trans hp', hR2⟩, hoR.trans ho4⟩, by simp [intOf]; omega⟩
              · go_wp2_with fail
                refine (rnum_ok R p' _ 5 _ hR' (by have := hRl.out; omega) (by decide) (by simp [be_len])).mono ?_
                rintro e w4 ⟨rfl, ⟨p2, hp2, hR2⟩, ho4⟩
                rw [List.append_assoc, List.take_append_of_le_length (by simp [be_len]), List.take_of_length_le (by simp [be_len]), ofbe_be x _ bx0]
                rw [List.append_assoc, List.drop_append_of_le_length (by simp [be_len]), List.drop_of_length_le (by simp [be_len]), List.nil_append] at hR2
                clear hx hy hR' hRl
                go_wp2_with fail
                refine ⟨⟨k + 1, rfl, by omega, ⟨p2, hp2.trans hp', hR2⟩, hoR.trans ho4⟩, by simp [intOf]; omega⟩
              · go_wp2_with fail
                refine (rnum_ok R p' _ 6 _ hR' (by have := hRl.out; omega) (by decide) (by simp [be_len])).mono ?_
                rintro e w4 ⟨rfl, ⟨p2, hp2, hR2⟩, ho4⟩
                rw [List.append_assoc, List.take_append_of_le_length (by simp [be_len]), List.take_of_length_le (by simp [be_len]), ofbe_be x _ bx0]
                rw [List.append_assoc, List.drop_append_of_le_length (by simp [be_len]), List.drop_of_length_le (by simp [be_len]), List.nil_append] at hR2
                clear hx hy hR' hRl
                go_wp2_with fail
                refine ⟨⟨k + 1, rfl, by omega, ⟨p2, hp2.trans hp', hR2⟩, hoR.trans ho4⟩, by simp [intOf]; omega⟩
              · go_wp2_with fail
                refine (rnum_ok R p' _ 7 _ hR' (by have := hRl.out; omega) (by decide) (by simp [be_len])).mono ?_
                rintro e w4 ⟨rfl, ⟨p2, hp2, hR2⟩, ho4⟩
                rw [List.append_assoc, List.take_append_of_le_length (by simp [be_len]), List.take_of_length_le (by simp [be_len]), ofbe_be x _ bx0]
                rw [List.append_assoc, List.drop_append_of_le_length (by simp [be_len]), List.drop_of_length_le (by simp [be_len]), List.nil_append] at hR2
                clear hx hy hR' hRl
                go_wp2_with fail
                refine ⟨⟨k + 1, rfl, by omega, ⟨p2, hp2.trans hp', hR2⟩, hoR.trans ho4⟩, by simp [intOf]; omega⟩
              · go_wp2_with fail
                refine (rnum_ok R p' _ 8 _ hR' (by have := hRl.out; omega) (by decide) (by simp [be_len])).mono ?_
                rintro e w4 ⟨rfl, ⟨p2, hp2, hR2⟩, ho4⟩
                rw [List.append_assoc, List.take_append_of_le_length (by simp [be_len]), List.take_of_length_le (by simp [be_len]), ofbe_be x _ bx0]
                rw [List.append_assoc, List.drop_append_of_le_length (by simp [be_len]), List.drop_of_length_le (by simp [be_len]), List.nil_append] at hR2
                clear hx hy hR' hRl
                go_wp2_with fail
                refine ⟨⟨k + 1, rfl, by omega, ⟨p2, hp2.trans hp', hR2⟩, hoR.trans ho4⟩, by simp [intOf]; omega⟩
            · have e : k = K := by omega
              subst e
              rw [Nat.sub_self] at hrs
              by_cases hkn : k < ns.length
              · have t1 : decide ((k : Int) < ns.length) = true := by simpa using hkn
                have t2 : decide ((k : Int) < sz.length) = false := by simp; omega
                go_wp2_with fail
                go_meet
                exact hrs
              · have t1 : decide ((k : Int) < ns.length) = false := by simp; omega
                go_wp2_with fail
                go_meet
                exact hrs
        case rest =>
          clear r0
          have r1 := hcut
          clear hcut
          have hul : us.length ≤ 50000 := by have := HM.out; rw [this] at hMl; simp at hMl; omega
          go_wp2_with fail
          go_loopw [19] (fun i wr => ∃ k : Nat, i = .int .i64 k ∧ k ≤ rs.length ∧ (sB ((rs.drop k).map fun r => r.2.2) b).length ≤ 50000 ∧ RS R (.slice a2 M.length c2) (sB ((rs.drop k).map fun r => r.2.2) b) false V wr) (fun i _ => rs.length - (intOf i).toNat)
          case atStart => exact ⟨0, rfl, Nat.zero_le _, by rw [List.drop_zero, ← Hus.out]; exact hul, by rw [List.drop_zero, ← Hus.out]; exact r1⟩
          case round =>
            clear r1
            obtain ⟨k, rfl, hk, hl, hrs⟩ := hrel
            by_cases hkR : k < rs.length
            · obtain ⟨bp', op', rfl, hcp⟩ := src_new hp hkR
              have ho := hoV.new hrs.2 (by simp; omega)
              obtain ⟨⟨p', hp', hR'⟩, hoR⟩ := hrs
              have hbl := hall2.out k hkR
              rw [List.drop_eq_getElem_cons hkR, List.map_cons, sB_cons] at hR' hl
              have hps := fun w' ho => hcp w' ho k (bval rs[k]) (by rw [List.getElem?_map, List.getElem?_eq_getElem hkR]; rfl)
              have hr := br rs[k] (List.getElem_mem _)
              clear hcp
              generalize rs[k] = r at *
              obtain ⟨ao', c', bs⟩ := r
              simp only [bval] at hps hr
              simp only at hR' hbl hl
              obtain ⟨Z, hZ⟩ : ∃ Z, Z = sB ((rs.drop (k + 1)).map fun r => r.2.2) b := ⟨_, rfl⟩
              rw [← hZ] at hR' hl
              have HZ := Lib.hid hZ
              clear hZ
              have hR2 : IsR 87 R p' (be bs.length 4 ++ bs ++ ([if b then 1 else 0] ++ Z)) false wr := by simpa [rw1] using hR'
              rw [List.length_append, rw1_len] at hl
              clear hR'
              have t1 : decide ((k : Int) < rs.length) = true := by simpa using hkR
              have hx := hps _ ho
              have hnq : (!((strOfNums bs).toList == (strOfNums bs).toList)) = false := by simp
              have s0 := run_str (P := Try.prog) (S := 22) (T := 9) Try.underlying22 Try.underlying5 Try.underlying9 (hr.1.new ho) rfl
              have s0d := run_str (P := Try.prog) (S := 22) (T := 9) Try.underlying22 Try.underlying5 Try.underlying9 (Src.drew (hr.1.new ho)) rfl
              have hxd := hps wr.drew (ho.trans (Only.drew _ []))
              go_wp2_with fail
              go_region_with (first | (go_at_call 17; refine (rback_any R p' bs ([if b then 1 else 0] ++ Z) 2000 wr.drew ⟨hR2.1, hR2.2.1.drew, hR2.2.2⟩ (by simp [be_len]; omega) (by omega)).mono ?_; rintro e w7 ⟨va, rfl, hva, hsa, ⟨⟨p7, hp7, hR7⟩, ho7⟩⟩; obtain ⟨aa2, ca2, rfl⟩ := own_slice hva; have hr7 : Only w w7 [] := (ho.trans (Only.drew _ [])).new ho7 (by simp; omega); have hst1 := run_str (P := Try.prog) (S := 22) (T := 9) Try.underlying22 Try.underlying5 Try.underlying9 (own_src hva) rfl; have hst2 := run_str (P := Try.prog) (S := 22) (T := 9) Try.underlying22 Try.underlying5 Try.underlying9 (hr.1.new hr7) rfl; have hx7 := hps _ hr7) | (go_at_call 26; refine (rflag_back R p7 Z b _ hR7 (by simp; omega)).mono ?_; rintro e w8 ⟨rfl, ⟨⟨p8, hp8, hR8⟩, ho8⟩⟩; have hr8 : Only w w8 [] := hr7.new ho8 (by simp; omega); have hst3 := run_str (P := Try.prog) (S := 22) (T := 9) Try.underlying22 Try.underlying5 Try.underlying9 (hr.1.new hr8) rfl; have hx8 := hps _ hr8))
              all_goals go_wp2_with fail
              all_goals exact ⟨⟨k + 1, rfl, by omega, by rw [← HZ.out]; omega, by rw [← HZ.out]; exact ⟨⟨p8, hp8.trans (hp7.trans hp'), hR8⟩, ((hoR.trans (Only.drew _ [R])).trans ho7).trans ho8⟩⟩, by simp [intOf]; omega⟩
            · have e : k = rs.length := by omega
              subst e
              have t1 : decide ((rs.length : Int) < rs.length) = false := by simp
              rw [List.drop_length] at hrs
              have ho := hoV.new hrs.2 (by simp; omega)
              obtain ⟨⟨p', hp', hR'⟩, hoR⟩ := hrs
              have hR2 : IsR 87 R p' [] false wr := hR'
              clear hR' hl
              go_wp2_with (first | (go_at_call 30; refine (rend_any R p' _ _ _ hR2).mono ?_; rintro e w' ⟨rfl, rfl⟩) | (go_at_call 28; refine (rbad_any R p' _ _ _ hR2).mono ?_; rintro e w' ⟨rfl, rfl⟩) | (go_at_call 29; refine (rleft_any R p' _ _ _ hR2).mono ?_; rintro e w' ⟨rfl, rfl⟩))
              go_ret
              exact ⟨rfl, ho.below (Nat.le_refl _) (by simp)⟩

set_option maxRecDepth 100000 in
set_option maxHeartbeats 6400000 in
theorem writes_bail (an az ap : Option Addr) (ln lz lp cn cz cp : Nat) (b : Bool) (w : World) (h : 40 < ln ∨ (ln ≤ 40 ∧ 20 < lp)) :
    Calls Try.prog 8 #[.slice an ln cn, .slice az lz cz, .slice ap lp cp, .bool b] w fun e w' => e = .returned (.bool true) ∧ Below w.heap.size w w' := by
  rcases h with h | ⟨h1, h2⟩
  · have d0 : decide ((40 : Int) < ln) = true := by simp; omega
    clear h
    go_enter Try.func8, Try.ntmps8
    go_wp2_with fail
    refine (awake9 _).mono ?_
    rintro e w1 ⟨rfl, h1⟩
    go_wp2_with fail
    refine (awake9 _).mono ?_
    rintro e w2 ⟨rfl, h2⟩
    go_wp2_with fail
    go_ret
    exact ⟨rfl, (h1.trans h2).below (Nat.le_refl _) (by simp)⟩
  · have d0 : decide ((40 : Int) < ln) = false := by simp; omega
    have d1 : decide ((20 : Int) < lp) = true := by simp; omega
    clear h1 h2
    go_enter Try.func8, Try.ntmps8
    go_wp2_with fail
    refine (awake9 _).mono ?_
    rintro e w1 ⟨rfl, h1⟩
    go_wp2_with fail
    refine (awake9 _).mono ?_
    rintro e w2 ⟨rfl, h2⟩
    go_wp2_with fail
    go_ret
    exact ⟨rfl, (h1.trans h2).below (Nat.le_refl _) (by simp)⟩

theorem u64_rng {xs : List Int} (h : ∀ x ∈ xs, (Lit.int .u64 x).wf = true) : ∀ x ∈ xs, 0 ≤ x ∧ x < 18446744073709551616 := fun x hx => by
  have := h x hx
  simp [Lit.wf, IntKind.min, IntKind.max, IntKind.signed, IntKind.bits] at this
  omega

theorem wireWrites_holds : Rows.WireWritesSaid := wireWrites.said fun H enc base W v0 v1 v2 v3 d0 p0 d1 p1 d2 p2 d3 p3 h0 t0 h1 t1 h2 t2 h3 t3 => by
  obtain ⟨an, cn, ns, rfl, hn, bn⟩ := open_src Try.underlying63 Try.underlying55 (by kernel_rfl) h0 t0
  obtain ⟨az, cz, sz, rfl, hz, bz⟩ := open_bytes Try.underlying22 Try.underlying5 (by kernel_rfl) h1 t1
  obtain ⟨fuel, hf⟩ := t2
  obtain ⟨ap', len', cap', rfl⟩ := Go.WideShapes.okWide_slice Try.underlying64 h2
  obtain ⟨ap, cp, rs, e, hp, hr⟩ := reads_rows Try.underlying64 Try.underlying22 Try.underlying5 (by kernel_rfl) (by kernel_rfl) ⟨H, enc, fuel, _, hf⟩
  obtain ⟨b, rfl, _⟩ := Go.RowKit.open_bool Try.underlying4 h3 t3
  have e : [Value.slice ap' len' cap'] = [.slice ap rs.length cp] := e
  injection e with e
  rw [e]
  by_cases hc : ns.length ≤ 40 ∧ rs.length ≤ 20
  · have hzl : sz.length ≤ 9223372036854775807 := by
      obtain ⟨ao, c, _, k1, k2, _⟩ := id hz
      unfold maxLen at k2
      omega
    exact writes_walk an az ap cn cz cp ns sz rs b W hn hz hp (u64_rng bn) bz (fun r hr' => ⟨(hr r hr').1, (hr r hr').2⟩) hc.1 hc.2 hzl
  · exact writes_bail an az ap _ _ _ cn cz cp b W (by omega)
end Go.Proofs.Ytemlpjfngaemdaa
