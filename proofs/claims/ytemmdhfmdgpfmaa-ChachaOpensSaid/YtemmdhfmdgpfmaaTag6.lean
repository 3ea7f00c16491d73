/- The contract of Tag of layer 5 (chacha): the walk. -/
import Derived.Test.YtemmdhfmdgpfmaaTag5
import Derived.Deep.Cut
import Derived.Deep.CutBlock
import Derived.StillTailTactics
namespace Go.Proofs.Ytemmdhfmdgpfmaa
open Go.RowKit Go.Pw
set_option linter.unusedVariables false

theorem Sep.drop1 {w0 w : World} {a b : Res} {rs : List Res} (h : Sep w0 w (a :: b :: rs)) : Sep w0 w (a :: rs) :=
  (h.up 1 (by simp)).tail
set_option maxRecDepth 100000 in
set_option maxHeartbeats 3200000 in
theorem tag_any (key p : Value) (ks xs : List Int) (w : World) (hk : Src w key 1 ks.length (ks.map (Value.int .u8))) (hkb : ∀ x ∈ ks, 0 ≤ x ∧ x < 256)
    (hp : Src w p 1 xs.length (xs.map (Value.int .u8))) (hxb : ∀ x ∈ xs, 0 ≤ x ∧ x < 256) (hxl : xs.length ≤ 1000000000) :
    Calls Try.prog 9 #[key, p] w (Fresh (tagL ks xs) w) := by
  obtain ⟨i0, hi, hz0, hz1, hz2⟩ := info_parts Try.info5
  go_enter Try.func9, Try.ntmps9
  go_wp2_with fail
  refine (fit_any key ks 32 w hk (by decide)).mono ?_
  rintro e w1 hf
  obtain ⟨gK, cK, rfl, kc1, kc2, hsK⟩ := hf.row 32 (fitL_len _ _) (by decide)
  have s1 := hsK (Sep.nil w)
  have hb1 := Lib.hid (fitL_byt hkb 32)
  have hl1 := Lib.hid (fitL_len ks 32)
  obtain ⟨K, hKe⟩ : ∃ K, K = fitL ks 32 := ⟨_, rfl⟩
  rw [← hKe] at s1 hb1 hl1
  have HK := Lib.hid hKe
  clear hf hsK hKe hk
  have hKs : Src w1 (.slice (some ⟨gK, 0, none⟩) 32 cK) 1 K.length (K.map (Value.int .u8)) := by rw [hl1.out]; exact own_src s1.head
  go_wp2_with fail
  refine (fit_any _ K 16 w1 hKs (by decide)).mono ?_
  rintro e w2 hf
  obtain ⟨gR, cR, rfl, rc1, rc2, hsR⟩ := hf.row 16 (fitL_len _ _) (by decide)
  have s2 := hsR s1
  have hb2 := Lib.hid (fitL_byt hb1.out 16)
  have hl2 := Lib.hid (fitL_len K 16)
  obtain ⟨R, hRe⟩ : ∃ R, R = fitL K 16 := ⟨_, rfl⟩
  rw [← hRe] at s2 hb2 hl2
  have HR := Lib.hid hRe
  clear hf hsR hRe hKs s1
  go_wp2_with fail
  have s3 := ((s2.box [.int .i64 3, .int .i64 7, .int .i64 11, .int .i64 15] 3).up 1 (by simp))
  generalize hLA : w2.heap.size = LA at *
  clear hLA s2
  go_loopw [21] (fun u21 wr => ∃ (j : Nat), u21 = .int .i64 j ∧ j ≤ 4 ∧ Sep w wr [row 5 1 (.slice (some ⟨gR, 0, none⟩) 16 cR) 16 ((clA R j).map (.int .u8)), blk LA [.int .i64 3, .int .i64 7, .int .i64 11, .int .i64 15] 3, row 5 1 (.slice (some ⟨gK, 0, none⟩) 32 cK) 32 (K.map (.int .u8))]) (fun u21 _ => 4 - (intOf u21).toNat)
  case atStart => exact ⟨0, rfl, by omega, s3⟩
  case round =>
    clear s3
    obtain ⟨j, rfl, hj, hs⟩ := hrel
    by_cases hj4 : j < 4
    · have hL1 : wr.heap[LA]? = some (.cells #[.int .i64 3, .int .i64 7, .int .i64 11, .int .i64 15] 3 (0, 0)) := hs.tail.head
      have cj : wr.cell? ⟨LA, j, none⟩ = some (.int .i64 ((4 * j + 3 : Nat) : Int)) := by
        rw [cell_in hL1 j]
        rcases (by omega : j = 0 ∨ j = 1 ∨ j = 2 ∨ j = 3) with rfl | rfl | rfl | rfl <;> rfl
      obtain ⟨at_, hat⟩ : ∃ q, q = 4 * j + 3 := ⟨_, rfl⟩
      have hR1 : wr.ownsRow 0 5 1 (.slice (some ⟨gR, 0, none⟩) 16 cR) 16 ((clA R j).map (.int .u8)) := hs.head
      have hlen : (clA R j).length = 16 := (clA_len _ _).trans hl2.out
      have cr := hR1.cellAt at_ (by omega)
      rw [List.getElem?_map, List.getElem?_eq_getElem (by omega), ← gtI_get (by omega)] at cr
      have fr := hR1.frozenAt at_
      have hby := clA_byt hb2.out j (by rw [hl2.out]; omega) _ (gtI_mem (k := at_) (by omega))
      have hmask := and15 (gtI (clA R j) at_) hby.1 hby.2
      have hset := Sep.rset hs at_ (.int .u8 (gtI (clA R j) at_ % 16))
      rw [← List.map_set] at hset
      have hcl : (clA R j).set at_ (gtI (clA R j) at_ % 16) = clA R (j + 1) := by rw [hat]; rfl
      rw [hcl] at hset
      rw [← hat] at cj
      have at16 : at_ < 16 := by omega
      simp only [Option.map_some] at cr
      clear hL1 hR1 hcl hlen hat hs
      generalize gtI (clA R j) at_ = x at *
      go_wp2_with fail
      exact ⟨⟨j + 1, by simp, by omega, hset⟩, by simp [intOf]; omega⟩
    · obtain rfl : j = 4 := by omega
      have s2 : Sep w wr [row 5 1 (.slice (some ⟨gR, 0, none⟩) 16 cR) 16 ((clA R 4).map (.int .u8)), row 5 1 (.slice (some ⟨gK, 0, none⟩) 32 cK) 32 (K.map (.int .u8))] := Sep.drop1 hs
      clear hs
      have hb3 := Lib.hid (clA_byt hb2.out 4 (by rw [hl2.out]; decide))
      go_wp2_with fail
      have s3 := ((s2.box [.int .i64 4, .int .i64 8, .int .i64 12] 3).up 1 (by simp))
      generalize hLB : wr.heap.size = LB at *
      clear hLB s2
      go_loopw [34] (fun u34 wr => ∃ (j : Nat), u34 = .int .i64 j ∧ j ≤ 3 ∧ Sep w wr [row 5 1 (.slice (some ⟨gR, 0, none⟩) 16 cR) 16 ((clB (clA R 4) j).map (.int .u8)), blk LB [.int .i64 4, .int .i64 8, .int .i64 12] 3, row 5 1 (.slice (some ⟨gK, 0, none⟩) 32 cK) 32 (K.map (.int .u8))]) (fun u34 _ => 3 - (intOf u34).toNat)
      case atStart => exact ⟨0, rfl, by omega, s3⟩
      case round =>
        clear s3
        obtain ⟨j, rfl, hj, hs⟩ := hrel
        by_cases hj4 : j < 3
        · have hL1 : wr.heap[LB]? = some (.cells #[.int .i64 4, .int .i64 8, .int .i64 12] 3 (0, 0)) := hs.tail.head
          have cj : wr.cell? ⟨LB, j, none⟩ = some (.int .i64 ((4 * j + 4 : Nat) : Int)) := by
            rw [cell_in hL1 j]
            rcases (by omega : j = 0 ∨ j = 1 ∨ j = 2) with rfl | rfl | rfl <;> rfl
          obtain ⟨at_, hat⟩ : ∃ q, q = 4 * j + 4 := ⟨_, rfl⟩
          have hR1 : wr.ownsRow 0 5 1 (.slice (some ⟨gR, 0, none⟩) 16 cR) 16 ((clB (clA R 4) j).map (.int .u8)) := hs.head
          have hlen : (clB (clA R 4) j).length = 16 := (clB_len _ _).trans ((clA_len _ _).trans hl2.out)
          have cr := hR1.cellAt at_ (by omega)
          rw [List.getElem?_map, List.getElem?_eq_getElem (by omega), ← gtI_get (by omega)] at cr
          have fr := hR1.frozenAt at_
          have hby := clB_byt hb3.out j (by rw [clA_len, hl2.out]; omega) _ (gtI_mem (k := at_) (by omega))
          have hmask := and252 (gtI (clB (clA R 4) j) at_) hby.1 hby.2
          have hset := Sep.rset hs at_ (.int .u8 (gtI (clB (clA R 4) j) at_ - gtI (clB (clA R 4) j) at_ % 4))
          rw [← List.map_set] at hset
          have hcl : (clB (clA R 4) j).set at_ (gtI (clB (clA R 4) j) at_ - gtI (clB (clA R 4) j) at_ % 4) = clB (clA R 4) (j + 1) := by rw [hat]; rfl
          rw [hcl] at hset
          rw [← hat] at cj
          have at16 : at_ < 16 := by omega
          simp only [Option.map_some] at cr
          clear hL1 hR1 hcl hlen hat hs
          generalize gtI (clB (clA R 4) j) at_ = x at *
          go_wp2_with fail
          exact ⟨⟨j + 1, by simp, by omega, hset⟩, by simp [intOf]; omega⟩
        · obtain rfl : j = 3 := by omega
          have s2 : Sep w wr [row 5 1 (.slice (some ⟨gR, 0, none⟩) 16 cR) 16 ((clB (clA R 4) 3).map (.int .u8)), row 5 1 (.slice (some ⟨gK, 0, none⟩) 32 cK) 32 (K.map (.int .u8))] := Sep.drop1 hs
          clear hs
          obtain ⟨C, hCe⟩ : ∃ C, C = clB (clA R 4) 3 := ⟨_, rfl⟩
          have hcb : ∀ x ∈ C, 0 ≤ x ∧ x < 256 := by rw [hCe]; exact clB_byt hb3.out 3 (by rw [clA_len, hl2.out]; decide)
          have hcl : C.length = 16 := by rw [hCe, clB_len, clA_len]; exact hl2.out
          rw [← hCe] at s2
          have hCs : Src wr (.slice (some ⟨gR, 0, none⟩) 16 cR) 1 C.length (C.map (Value.int .u8)) := by rw [hcl]; exact own_src s2.head
          have hrv : Hid (lv 256 C = rOf ks) := by
            show _ = _
            rw [hCe, HR.out, HK.out]; rfl
          have hcl := Lib.hid hcl
          clear hCe
          go_wp2_with fail
          refine (parts_any _ C wr hCs hcb (by rw [hcl.out]; decide) (by rw [hcl.out]; intro h; omega)).mono ?_
          rintro e w4 ⟨ho4, b0, b1, b2, b3, b4, rfl, hBv, m0, m1, m2, m3, m4, m5, m6, m7, m8, m9⟩
          have hBv := Lib.hid (hBv.trans hrv.out)
          have HM : Hid ((0 ≤ b0 ∧ b0 ≤ 268436480) ∧ (0 ≤ b1 ∧ b1 ≤ 268436480) ∧ (0 ≤ b2 ∧ b2 ≤ 268436480) ∧ (0 ≤ b3 ∧ b3 ≤ 268436480) ∧ (0 ≤ b4 ∧ b4 ≤ 268436480)) := ⟨⟨m0, m1⟩, ⟨m2, m3⟩, ⟨m4, m5⟩, ⟨m6, m7⟩, ⟨m8, m9⟩⟩
          have s4 := s2.quiet ho4
          clear m0 m1 m2 m3 m4 m5 m6 m7 m8 m9 ho4 s2 hCs hcb hrv hb2 hb3 hl2 HR
          go_wp2_with fail
          have s5 := (s4.box [.int .u64 b0, .int .u64 b1, .int .u64 b2, .int .u64 b3, .int .u64 b4] 39).box [.int .u64 0, .int .u64 0, .int .u64 0, .int .u64 0, .int .u64 0] 39
          simp only [World.size_alloc] at s5
          generalize hBY : w4.heap.size = BY at *
          generalize hSB : BY + 1 = SB at *
          clear hBY hSB s4
          have s6 : Sep w _ [blk SB ([0, 0, 0, 0, 0].map (.int .u64)) 39, blk BY [.int .u64 b0, .int .u64 b1, .int .u64 b2, .int .u64 b3, .int .u64 b4] 39, row 5 1 (.slice (some ⟨gK, 0, none⟩) 32 cK) 32 (K.map (.int .u8))] := ((s5.up 2 (by simp)).tail)
          clear s5
          go_loopw [1] (fun u1 wr => ∃ (v : Value) (q s : List Int) (f : Nat), u1 = v ∧ Src w v 1 q.length (q.map (.int .u8)) ∧ (∀ x ∈ q, 0 ≤ x ∧ x < 256) ∧ q.length ≤ 1000000000 ∧ s.length = 5 ∧ (∀ j, j < 5 → 0 ≤ gtI s j ∧ gtI s j < 67108870) ∧ q.length ≤ f ∧ polyV (rOf ks) f (lv B26 s % P130) q = polyV (rOf ks) xs.length 0 xs ∧ Sep w wr [blk SB (s.map (.int .u64)) 39, blk BY [.int .u64 b0, .int .u64 b1, .int .u64 b2, .int .u64 b3, .int .u64 b4] 39, row 5 1 (.slice (some ⟨gK, 0, none⟩) 32 cK) 32 (K.map (.int .u8))]) (fun u1 _ => slen u1)
          case atStart => exact ⟨p, xs, [0, 0, 0, 0, 0], xs.length, rfl, hp, hxb, hxl, rfl, fun j hj => by
            rcases (by omega : j = 0 ∨ j = 1 ∨ j = 2 ∨ j = 3 ∨ j = 4) with rfl | rfl | rfl | rfl | rfl <;> simp [gtI], Nat.le_refl _, rfl, s6⟩
          case round =>
            clear s6
            obtain ⟨v, q, s, f, rfl, hq, hqb, hql, hs0, hsb, hf, hpv, hs⟩ := hrel
            by_cases hq0 : 0 < q.length
            · obtain ⟨aq, cq, rfl, qc1, qc2, _⟩ := id hq
              obtain ⟨n, hn⟩ : ∃ n, n = min 16 q.length := ⟨_, rfl⟩
              have hmin : min (16 : Int) (q.length : Int) = (n : Int) := by omega
              have hn16 : n ≤ 16 := by omega
              have hnq : n ≤ q.length := by omega
              have hn0 : 0 < n := by omega
              obtain ⟨f', rfl, hpe, hpf⟩ := polyV_step (rOf ks) (lv B26 s % P130) f q hq0 hf
              have htk : q.take 16 = q.take n := by
                rcases (by omega : n = 16 ∨ (n = q.length ∧ q.length ≤ 16)) with h | ⟨h, h'⟩
                · rw [h]
                · rw [h, List.take_of_length_le h', List.take_length]
              have hdr : q.drop 16 = q.drop n := by
                rcases (by omega : n = 16 ∨ (n = q.length ∧ q.length ≤ 16)) with h | ⟨h, h'⟩
                · rw [h]
                · rw [h, List.drop_of_length_le h', List.drop_length]
              rw [htk, hdr] at hpe
              rw [hdr] at hpf
              rw [hpe] at hpv
              have Hpv := Lib.hid hpv
              have Hn := Lib.hid hn
              have hqb := Lib.hid hqb
              clear hpe hpv htk hdr hn hf
              have hsl := slice_ex aq q.length cq n (q.length - n) (by omega)
              have hsl := Lib.hid hsl
              go_wp2_with fail
              refine (fit_any _ q n wr (hs.src hq) (by omega)).mono ?_
              rintro e w5 hf
              obtain ⟨gF, cF, rfl, fc1, fc2, hsF⟩ := hf.row n (fitL_len _ _) hn0
              have s7 := hsF hs
              rw [fitL_same hnq] at s7
              have s8 := s7.quiet (Only.alloc w5 (.cells #[.int .u8 1] 5) [])
              have hs6 := src_one w5 (.int .u8 1) 5
              have hown : (w5.alloc (.cells #[.int .u8 1] 5)).ownsRow 0 5 1 (.slice (some ⟨gF, 0, none⟩) n cF) n ((q.take n).map (.int .u8)) := s8.head
              clear hf hsF s7
              go_wp2_with (at_builtin; refine wpList_append_src rfl _ _ 22 rfl 5 i0 (.int .u8 0) 1 1 Try.underlying22 hi hz0 hz1 hz2 rfl (by decide) (.slice (some ⟨gF, 0, none⟩) n cF) n ((q.take n).map (.int .u8)) rfl hown _ 1 _ rfl hs6 (by simp [Value.oneCell']) (by unfold maxLen; omega) (by omega) ?_; intro v7 w7 g1 g2 g3; obtain ⟨a7, c7, rfl⟩ := own_slice g1)
              have s9 := s8.app g1 g2 g3
              have hQl : (q.take n ++ [1]).length = n + 1 := by simp; omega
              have hQ : Src w7 (.slice a7 (n + 1) c7) 1 (q.take n ++ [1]).length ((q.take n ++ [1]).map (Value.int .u8)) := by rw [hQl, List.map_append]; exact own_src s9.head
              have hQb : ∀ x ∈ q.take n ++ [1], 0 ≤ x ∧ x < 256 := fun x hx => by
                rcases List.mem_append.1 hx with hx | hx
                · exact hqb.out x (List.mem_of_mem_take hx)
                · obtain rfl : x = 1 := by simpa using hx
                  decide
              have hQ16 : 16 < (q.take n ++ [1]).length → gtI (q.take n ++ [1]) 16 ≤ 3 := fun h => by
                have h16 : n = 16 := by omega
                have hl16 : (q.take 16).length = 16 := by simp; omega
                rw [h16]
                simp [gtI, List.getD_eq_getElem?_getD, List.getElem?_append_right (Nat.le_of_eq hl16), hl16]
              clear s8 hs6 hown g1 g2 g3
              go_wp2_with fail
              refine (parts_any _ (q.take n ++ [1]) w7 hQ hQb (by omega) hQ16).mono ?_
              rintro e w8 ⟨ho8, e0, e1, e2, e3, e4, rfl, hEv, m0, m1, m2, m3, m4, m5, m6, m7, m8, m9⟩
              have s10 := (s9.quiet ho8).tail
              have hEv := Lib.hid hEv
              have hEb : Hid (∀ j, j < 5 → 0 ≤ gtI [e0, e1, e2, e3, e4] j ∧ gtI [e0, e1, e2, e3, e4] j ≤ 268436480) := fun j hj => by
                rcases (by omega : j = 0 ∨ j = 1 ∨ j = 2 ∨ j = 3 ∨ j = 4) with rfl | rfl | rfl | rfl | rfl <;> simp [gtI] <;> constructor <;> assumption
              clear s9 hQ hQb hQ16 ho8 m0 m1 m2 m3 m4 m5 m6 m7 m8 m9
              have hiE := Lib.hid (idx5 e0 e1 e2 e3 e4)
              have hs0 := Lib.hid hs0
              have hsb := Lib.hid hsb
              go_wp2_with fail
              go_loopw [59] (fun u59 wr => ∃ (i : Nat) (o : List Int), u59 = .int .i64 i ∧ i ≤ 5 ∧ o.length = 5 ∧ (∀ j, j < 5 → gtI o j = gtI s j + (if j < i then gtI [e0, e1, e2, e3, e4] j else 0)) ∧ Sep w wr [blk SB (o.map (.int .u64)) 39, blk BY [.int .u64 b0, .int .u64 b1, .int .u64 b2, .int .u64 b3, .int .u64 b4] 39, row 5 1 (.slice (some ⟨gK, 0, none⟩) 32 cK) 32 (K.map (.int .u8))]) (fun u59 _ => 5 - (intOf u59).toNat)
              case atStart => exact ⟨0, s, rfl, by omega, hs0.out, fun j hj => by simp, s10⟩
              case round =>
                clear s10
                obtain ⟨i, o, rfl, hi5, ho0, hov, hs⟩ := hrel
                by_cases hil : i < 5
                · have hA : A5 SB o wr := ⟨hs.head, ho0⟩
                  have c1 := hA.cell i hil
                  have f1 := hA.free i
                  have bb1 := hov i hil
                  rw [if_neg (by omega), Int.add_zero] at bb1
                  have bb2 := hsb.out i hil
                  have bb3 := hEb.out i hil
                  rw [← bb1] at bb2
                  clear bb1
                  have hix := hiE.out i hil
                  have hset := hs.put i (.int .u64 (gtI o i + gtI [e0, e1, e2, e3, e4] i))
                  rw [← List.map_set] at hset
                  have hL : Hid ((o.set i (gtI o i + gtI [e0, e1, e2, e3, e4] i)).length = 5) := by show List.length _ = 5; rw [List.length_set]; exact ho0
                  have hN : Hid (∀ j, j < 5 → gtI (o.set i (gtI o i + gtI [e0, e1, e2, e3, e4] i)) j = gtI s j + (if j < i + 1 then gtI [e0, e1, e2, e3, e4] j else 0)) := fun j hj => by
                    by_cases e : j = i
                    · subst e
                      rw [gtI_set_same (by omega), if_pos (by omega)]
                      have := hov j hj
                      rw [if_neg (by omega)] at this
                      omega
                    · rw [gtI_set_ne (fun h => e h.symm), hov j hj]
                      congr 1
                      by_cases h : j < i
                      · rw [if_pos h, if_pos (by omega)]
                      · rw [if_neg h, if_neg (by omega)]
                  clear hA hov ho0 hs
                  generalize o.set i (gtI o i + gtI [e0, e1, e2, e3, e4] i) = o2 at *
                  generalize gtI [e0, e1, e2, e3, e4] i = x at *
                  generalize gtI o i = y at *
                  go_wp2_with fail
                  exact ⟨⟨i + 1, o2, by simp, by omega, hL.out, hN.out, hset⟩, by simp [intOf]; omega⟩
                · obtain rfl : i = 5 := by omega
                  obtain ⟨t0, t1, t2, t3, t4, rfl⟩ := list5 s hs0.out
                  obtain ⟨o0, o1, o2, o3, o4, rfl⟩ := list5 o ho0
                  have v0 := hov 0 (by omega)
                  have v1 := hov 1 (by omega)
                  have v2 := hov 2 (by omega)
                  have v3 := hov 3 (by omega)
                  have v4 := hov 4 (by omega)
                  have x0 := hsb.out 0 (by omega)
                  have x1 := hsb.out 1 (by omega)
                  have x2 := hsb.out 2 (by omega)
                  have x3 := hsb.out 3 (by omega)
                  have x4 := hsb.out 4 (by omega)
                  have z0 := hEb.out 0 (by omega)
                  have z1 := hEb.out 1 (by omega)
                  have z2 := hEb.out 2 (by omega)
                  have z3 := hEb.out 3 (by omega)
                  have z4 := hEb.out 4 (by omega)
                  simp [gtI] at v0 v1 v2 v3 v4 x0 x1 x2 x3 x4 z0 z1 z2 z3 z4
                  have hlo : Hid (lv B26 [o0, o1, o2, o3, o4] = lv B26 [t0, t1, t2, t3, t4] + lv 256 (q.take n ++ [1])) := by
                    show _ = _
                    rw [← hEv.out, v0, v1, v2, v3, v4]
                    simp only [lv, B26]
                    omega
                  have n0 : 0 ≤ o0 ∧ o0 ≤ 536870912 := by omega
                  have n1 : 0 ≤ o1 ∧ o1 ≤ 536870912 := by omega
                  have n2 : 0 ≤ o2 ∧ o2 ≤ 536870912 := by omega
                  have n3 : 0 ≤ o3 ∧ o3 ≤ 536870912 := by omega
                  have n4 : 0 ≤ o4 ∧ o4 ≤ 536870912 := by omega
                  clear v0 v1 v2 v3 v4 x0 x1 x2 x3 x4 z0 z1 z2 z3 z4 hov ho0
                  have hS1 : wr.heap[SB]? = some (.cells #[.int .u64 o0, .int .u64 o1, .int .u64 o2, .int .u64 o3, .int .u64 o4] 39 (0, 0)) := hs.head
                  have hB1 : wr.heap[BY]? = some (.cells #[.int .u64 b0, .int .u64 b1, .int .u64 b2, .int .u64 b3, .int .u64 b4] 39 (0, 0)) := hs.tail.head
                  have z0 := cell_in hS1 0
                  have z1 := cell_in hS1 1
                  have z2 := cell_in hS1 2
                  have z3 := cell_in hS1 3
                  have z4 := cell_in hS1 4
                  have y0 := cell_in hB1 0
                  have y1 := cell_in hB1 1
                  have y2 := cell_in hB1 2
                  have y3 := cell_in hB1 3
                  have y4 := cell_in hB1 4
                  clear hS1 hB1
                  have n0 := Lib.hid n0
                  have n1 := Lib.hid n1
                  have n2 := Lib.hid n2
                  have n3 := Lib.hid n3
                  have n4 := Lib.hid n4
                  go_wp2_with fail
                  refine (mul_any o0 o1 o2 o3 o4 b0 b1 b2 b3 b4 wr n0.out n1.out n2.out n3.out n4.out ⟨HM.out.1.1, by have := HM.out.1.2; omega⟩ ⟨HM.out.2.1.1, by have := HM.out.2.1.2; omega⟩ ⟨HM.out.2.2.1.1, by have := HM.out.2.2.1.2; omega⟩ ⟨HM.out.2.2.2.1.1, by have := HM.out.2.2.2.1.2; omega⟩ ⟨HM.out.2.2.2.2.1, by have := HM.out.2.2.2.2.2; omega⟩).mono ?_
                  rintro e w9 ⟨ho9, c0, c1, c2, c3, c4, qq, rfl, hcv, m0, m1, m2, m3, m4, m5, m6, m7, m8, m9⟩
                  have s11 := hs.quiet ho9
                  have hS1 : w9.heap[SB]? = some (.cells #[.int .u64 o0, .int .u64 o1, .int .u64 o2, .int .u64 o3, .int .u64 o4] 39 (0, 0)) := s11.head
                  have s12 : Sep w _ [blk SB ([c0, c1, c2, c3, c4].map (.int .u64)) 39, blk BY [.int .u64 b0, .int .u64 b1, .int .u64 b2, .int .u64 b3, .int .u64 b4] 39, row 5 1 (.slice (some ⟨gK, 0, none⟩) 32 cK) 32 (K.map (.int .u8))] := ((((s11.put 0 (.int .u64 c0)).put 1 (.int .u64 c1)).put 2 (.int .u64 c2)).put 3 (.int .u64 c3)).put 4 (.int .u64 c4)
                  have hcb : Hid (∀ j, j < 5 → 0 ≤ gtI [c0, c1, c2, c3, c4] j ∧ gtI [c0, c1, c2, c3, c4] j < 67108870) := fun j hj => by
                    rcases (by omega : j = 0 ∨ j = 1 ∨ j = 2 ∨ j = 3 ∨ j = 4) with rfl | rfl | rfl | rfl | rfl <;> simp [gtI] <;> omega
                  have hpn : Hid (polyV (rOf ks) f' (lv B26 [c0, c1, c2, c3, c4] % P130) (q.drop n) = polyV (rOf ks) xs.length 0 xs) := by
                    show _ = _
                    rw [hlo.out, hBv.out] at hcv
                    rw [poly_round hcv]
                    exact Hpv.out
                  clear m0 m1 m2 m3 m4 m5 m6 m7 m8 m9 hcv s11 z0 z1 z2 z3 z4 y0 y1 y2 y3 y4 n0 n1 n2 n3 n4 ho9
                  have z0 := cell_in hS1 0
                  have z1 := cell_in hS1 1
                  have z2 := cell_in hS1 2
                  have z3 := cell_in hS1 3
                  have z4 := cell_in hS1 4
                  have g0 := free_in hS1 0
                  have g1 := free_in hS1 1
                  have g2 := free_in hS1 2
                  have g3 := free_in hS1 3
                  have g4 := free_in hS1 4
                  clear hS1
                  obtain ⟨ao', c', hsl1, hsl2⟩ := hsl.out
                  have hq2 := Lib.hid (hsl2 _ _ hq)
                  have hdl : Hid ((q.drop n).length = q.length - n) := by show _ = _; simp
                  clear hsl2
                  go_wp2_with fail
                  exact ⟨⟨_, q.drop n, [c0, c1, c2, c3, c4], f', rfl, by rw [hdl.out, List.map_drop]; exact hq2.out, fun x hx => hqb.out x (List.mem_of_mem_drop hx), by rw [hdl.out]; omega, rfl, hcb.out, hpf, hpn.out, s12⟩, by show q.length - n < q.length; omega⟩
            · have hq00 : q = [] := by simpa using hq0
              subst hq00
              obtain ⟨aq, cq, rfl, _⟩ := id hq
              rw [polyV_nil] at hpv
              obtain ⟨t0, t1, t2, t3, t4, rfl⟩ := list5 s hs0
              have x0 := hsb 0 (by omega)
              have x1 := hsb 1 (by omega)
              have x2 := hsb 2 (by omega)
              have x3 := hsb 3 (by omega)
              have x4 := hsb 4 (by omega)
              simp [gtI] at x0 x1 x2 x3 x4
              have hb5 : Hid (0 ≤ t0 ∧ t0 < 67108870 ∧ 0 ≤ t1 ∧ t1 < 67108870 ∧ 0 ≤ t2 ∧ t2 < 67108870 ∧ 0 ≤ t3 ∧ t3 < 67108870 ∧ 0 ≤ t4 ∧ t4 < 67108870) := by
                refine ⟨x0.1, x0.2, x1.1, x1.2, x2.1, x2.2, x3.1, x3.2, x4.1, x4.2⟩
              clear x0 x1 x2 x3 x4 hsb hq hqb hf
              have hpv := Lib.hid hpv
              obtain ⟨ao', c', hsl1, hsl2⟩ := slice_ex (some ⟨gK, 0, none⟩) 32 cK 16 16 rfl
              have hsl1 : ∀ w, (Instr.sliceAt 22 (.slice (some ⟨gK, 0, none⟩) 32 cK) (some (.int .i64 16)) none none).run Try.prog w = .ok (.slice ao' 16 c') w := hsl1
              go_upto_region 24 with fail
              have hs := hs.quiet (Only.drew wr [])
              have hS1 : wr.drew.heap[SB]? = some (.cells #[.int .u64 t0, .int .u64 t1, .int .u64 t2, .int .u64 t3, .int .u64 t4] 39 (0, 0)) := hs.head
              have z0 := cell_in hS1 0
              have z1 := cell_in hS1 1
              have z2 := cell_in hS1 2
              have z3 := cell_in hS1 3
              have z4 := cell_in hS1 4
              have hK2 : Src wr.drew (.slice ao' 16 c') 1 (K.drop 16).length ((K.drop 16).map (Value.int .u8)) := by
                rw [List.length_drop, hl1.out, List.map_drop]
                exact hsl2 _ _ (own_src hs.tail.tail.head)
              have hK2 := Lib.hid hK2
              clear hsl2
              go_still_tail 3, (by kernel_rfl)
              change wpList _ _ _ _ _ wr.drew
              generalize wr.drew = w9 at *
              go_wp2_with fail
              have ho := Lib.hid hs.only
              refine (end_any t0 t1 t2 t3 t4 (.slice ao' 16 c') (K.drop 16) w9 hb5.out hK2.out (fun x hx => hb1.out x (List.mem_of_mem_drop hx)) (by rw [List.length_drop, hl1.out])).mono ?_
              rintro e w10 ⟨v, rfl, k1, k2, k3⟩
              have hfin : dg 256 (lv B26 [t0, t1, t2, t3, t4] % P130 + lv 256 (K.drop 16)) 16 = tagL ks xs := by
                rw [hpv.out, HK.out]; rfl
              rw [hfin] at k1
              have k1 := Lib.hid k1
              have k2 := Lib.hid k2
              have k3 := Lib.hid k3
              clear hS1 z0 z1 z2 z3 z4 hfin hs
              go_wp2_with fail
              go_ret
              exact ⟨_, rfl, k1.out, k2.out.weaken ho.out.size, ho.out.trans k3.out⟩
end Go.Proofs.Ytemmdhfmdgpfmaa
