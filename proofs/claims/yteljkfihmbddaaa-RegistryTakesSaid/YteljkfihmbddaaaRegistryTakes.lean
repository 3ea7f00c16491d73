/- RegistryTakes returns true for every two bytes: of a device's bundles each prekey for once is told once, the oldest first; then that without, again and again. No condition. -/
import Derived.Test.YteljkfihmbddaaaRgU
import Derived.Test.YteljkfihmbddaaaOpenS
import Derived.Test.YteljkfihmbddaaaSRegistryTakes
namespace Go.Proofs.Yteljkfihmbddaaa
open Go.RowKit Go.Pw
set_option linter.unusedVariables false

/-- Bundles with prekeys for once, by number. -/
def Hs (hs : List Bu) : Prop := ∀ (i : Nat) (hi : i < hs.length), hs[i].has = true ∧ hs[i].on = i ∧ hs[i].u = 3 ∧ hs[i].d = 1
theorem hs_snoc {hs : List Bu} (h : Hs hs) {b : Bu} (h1 : b.has = true) (h2 : b.on = hs.length) (h3 : b.u = 3) (h4 : b.d = 1) : Hs (hs ++ [b]) := fun i hi => by
  by_cases e : i < hs.length
  · rw [List.getElem_append_left e]; exact h i e
  · simp at hi
    obtain rfl : i = hs.length := by omega
    simp [h1, h2, h3, h4]
theorem fold_hs {hs : List Bu} (h : Hs hs) (b : Bu) : ∀ j, j ≤ hs.length → (hs.take j).foldl pubS (b, []) = (b, hs.take (min j 16))
  | 0, _ => by simp
  | j + 1, hj => by
    have ih := fold_hs h b j (by omega)
    have hlt : j < hs.length := by omega
    rw [List.take_succ_eq_append_getElem hlt, foldl_snoc, ih]
    obtain ⟨q1, q2, _, _⟩ := h j hlt
    have hfi : ¬ (hs.take (min j 16)).findIdx (fun x => x.on == hs[j].on) < (hs.take (min j 16)).length := fun hc => by
      have h0 := List.findIdx_getElem (w := hc)
      rw [List.getElem_take] at h0
      have hb : (hs.take (min j 16)).findIdx (fun x => x.on == hs[j].on) < j := by rw [List.length_take] at hc; omega
      have h1 := (h _ (show (hs.take (min j 16)).findIdx (fun x => x.on == hs[j].on) < hs.length by omega)).2.1
      have h3 := eq_of_beq h0
      have h4 := h1.symm.trans (h3.trans q2)
      omega
    simp only [pubS, q1, Bool.true_eq_false, if_false, hfi]
    by_cases h16 : j < 16
    · rw [if_pos (by rw [List.length_take]; omega), show min j 16 = j by omega, show min (j + 1) 16 = j + 1 by omega, List.take_succ_eq_append_getElem hlt]
    · rw [if_neg (by rw [List.length_take]; omega), show min j 16 = 16 by omega, show min (j + 1) 16 = 16 by omega]

theorem takes_fold {hs : List Bu} (h : Hs hs) {b : Bu} (h1 : b.has = false) (h2 : b.sg = 99) : (b :: hs).foldl pubS (b0, []) = (b, hs.take 16) := by
  have := fold_hs h b hs.length (Nat.le_refl _)
  rw [List.take_length] at this
  rw [List.foldl_cons, show pubS (b0, []) b = (b, []) by simp [pubS, h1, h2, b0], this]
  by_cases e : hs.length ≤ 16
  · rw [Nat.min_eq_left e, List.take_length, List.take_of_length_le e]
  · rw [Nat.min_eq_right (by omega)]

theorem found_one (x : Li) (h1 : x.u = 3) (h2 : x.d = 1) : foundL [x] 3 1 = true ∧ placeL [x] 3 1 = 0 := by
  obtain ⟨u, d, on, b, v, os, ok⟩ := x
  simp only at h1 h2
  subst h1 h2
  exact ⟨rfl, rfl⟩

set_option maxRecDepth 100000 in
set_option maxHeartbeats 8000000 in
theorem takes_walk (n m : Int) (hn : 0 ≤ n ∧ n < 256) (hm : 0 ≤ m ∧ m < 256) (w0 : World) :
    Calls Try.prog 4 #[.int .u8 n, .int .u8 m] w0 fun e w' => e = .returned (.bool true) ∧ Below w0.heap.size w0 w' := by
  obtain ⟨i0, hi, hz0, hz1, hz2⟩ := info_parts bun_info
  obtain ⟨kk, hkk, hk20⟩ : ∃ kk : Nat, n % 20 = (kk : Int) ∧ kk < 20 := ⟨(n % 20).toNat, by omega, by omega⟩
  obtain ⟨mm, hmm, hm4⟩ : ∃ mm : Nat, m % 4 = (mm : Int) ∧ mm < 4 := ⟨(m % 4).toNat, by omega, by omega⟩
  have e1 : n.tmod 20 = (kk : Int) := by rw [Int.tmod_eq_emod_of_nonneg hn.1]; exact hkk
  have e2 : m.tmod 4 = (mm : Int) := by rw [Int.tmod_eq_emod_of_nonneg hm.1]; exact hmm
  have e3 : IntKind.i64.wrap n = n := by rw [IntKind.wrap_i64]; omega
  have e4 : IntKind.i64.wrap m = m := by rw [IntKind.wrap_i64]; omega
  clear hkk hmm
  go_enter Try.func4, Try.ntmps4
  go_wp2_with fail
  refine (awake_any _).mono ?_
  rintro e w ⟨rfl, oA⟩
  go_wp2_with fail
  refine (new_any _).mono ?_
  rintro e w1 ⟨rfl, rfl⟩
  have s1 := regs_nil ((Sep.nil w).box [.slice none 0 0] 72)
  generalize w.heap.size = B at *
  generalize w.alloc (.cells [Value.slice none 0 0].toArray 72) = w1 at *
  go_wp2_with (first
    | (refine wpList_alloc_new rfl 30 rfl (.agg #[.int .i64 0, .int .i64 0]) (fun _ => by kernel_rfl) ?_; intro Z wZ oZ hZl hZ)
    | (refine wpList_store_blk rfl 30 _ _ rfl Z [.int .i64 3, .int .i64 1] rfl rfl hZ rfl (by kernel_rfl) (by simp [Value.oneCell']) ?_; intro wY oY hY; have s2 := s1.add (b := blk Z [.int .i64 3, .int .i64 1] 30) (oZ.new oY (fun i hi => by simp only [List.mem_singleton] at hi; omega)) hY (fun k hk => by simp [blk] at hk; omega); have hz0' := cell_two0 hY; have hz1' := cell_two1 hY; clear s1 hZ oZ oY))
  refine (bundle_no 3 1 99 (by decide) (by decide) _).mono ?_
  rintro e w2 ⟨b, rfl, o2, f1, f2, f3, f4, f5⟩
  have s3 := s2.quiet o2
  clear s2 o2 hY hz0' hz1'
  go_wp2_with (refine wpList_buildSlice_one rfl 42 _ rfl 40 i0 _ (bc b) rfl Try.underlying42 hi hz0 (by rw [hz1, bc_len]) (by rw [bc_len]; rfl) (by rw [bc_len]; decide) (by rw [bc_len]; decide) ?_; intro Y4 w4 o4 hY4l hY4; have s4 := s3.add (b := row 40 10 (.slice (some ⟨Y4, 0, none⟩) 1 1) ([] : List Bu).length.succ (fl bc [b])) o4 (blk_row (cs := fl bc [b]) (by simpa [fl] using hY4) (by simp [fl, bc_len]) (by simp [maxLen])) (fun k hk => by simp [row, Value.ownBlock] at hk; omega); clear s3 o4 hY4)
  go_loopw [8, 9] (fun y z wr => ∃ (j : Nat) (hs : List Bu) (a : Option Addr) (c : Nat), y = .slice a (j + 1) c ∧ z = .int .i64 j ∧ j ≤ kk ∧ hs.length = j ∧ Hs hs ∧ Pw.Sep w wr (row 40 10 (.slice a (j + 1) c) (j + 1) (fl bc (b :: hs)) :: blk Z [.int .i64 3, .int .i64 1] 30 :: regR B (.slice none 0 0) [] [])) (fun _ z _ => kk - (intOf z).toNat)
  case atStart => exact ⟨0, [], _, _, rfl, rfl, Nat.zero_le _, rfl, fun i hi => by simp at hi, s4⟩
  case round =>
    clear s4
    obtain ⟨j, hs, a, c, rfl, rfl, hj, hhl, hhs, st⟩ := hrel
    have HH := Lib.hid hhs
    clear hhs
    have hZ : wr.heap[Z]? = some (.cells #[.int .i64 3, .int .i64 1] 30 (0, 0)) := (st.sel 2 [1]).head
    have hz0' := cell_two0 hZ
    have hz1' := cell_two1 hZ
    by_cases hlt : j < kk
    · have d1 : decide ((j : Int) < kk) = true := by simpa using hlt
      have ew : IntKind.u8.wrap (j : Int) = j := by rw [IntKind.wrap_u8]; omega
      have Hhl := Lib.hid hhl
      clear hhl
      go_wp2_with fail
      refine (bundle_yes 3 1 j (by omega) (by omega) _).mono ?_
      rintro e w5 ⟨b1, rfl, o5, k1, k2, k3, k4, k5⟩
      have s5 := st.quiet o5
      clear st o5 hZ hz0' hz1'
      have Hsn := Lib.hid (hs_snoc HH.out k4 (by rw [k5, Hhl.out]; rfl) k1 k2)
      have hfs : Hid (fl bc (b :: hs) ++ bc b1 = fl bc (b :: (hs ++ [b1]))) := by show _ = _; rw [fl_cons, fl_cons, fl_snoc, List.append_assoc]
      go_wp2_with (first
        | (refine wpList_buildSlice_one rfl 42 _ rfl 40 i0 _ (bc b1) rfl Try.underlying42 hi hz0 (by rw [hz1, bc_len]) (by rw [bc_len]; rfl) (by rw [bc_len]; decide) (by rw [bc_len]; decide) ?_; intro Y6 w6 o6 hY6l hY6; have s6 := s5.quiet o6; clear s5 o6)
        | (at_builtin; refine wpList_append_sep rfl _ _ 42 rfl 40 i0 _ 10 152 Try.underlying42 hi hz0 hz1 hz2 rfl (by decide) (.slice a (j + 1) c) (j + 1) _ rfl s6 _ 1 (bc b1) rfl (src_blk hY6 (by rw [bc_len])) (bc_one b1) (by unfold maxLen; omega) (by omega) ?_; intro a7 c7 w7 o7 s7; rw [hfs.out] at s7))
      exact ⟨⟨j + 1, hs ++ [b1], a7, c7, rfl, by simp, by omega, by simp [Hhl.out], Hsn.out, s7⟩, by simp [intOf]; omega⟩
    · obtain rfl : j = kk := by omega
      have d1 : decide ((j : Int) < j) = false := by simp
      have sB : Pw.Sep w wr (regR B (.slice none 0 0) [] (row 40 10 (.slice a (j + 1) c) (b :: hs).length (fl bc (b :: hs)) :: blk Z [.int .i64 3, .int .i64 1] 30 :: [])) := by
        rw [show (b :: hs).length = j + 1 by rw [List.length_cons, hhl]]
        exact st.sel 5 [2, 3, 4, 0, 1]
      have hno : (b :: hs).any (other 3 1) = false := by
        rw [List.any_eq_false]
        intro y hy
        rcases List.mem_cons.1 hy with rfl | hy
        · simp [other, f1, f2]
        · obtain ⟨i, hi, rfl⟩ := List.mem_iff_getElem.1 hy
          obtain ⟨_, _, q3, q4⟩ := HH.out i hi
          simp [other, q3, q4]
      have Hno := Lib.hid hno
      have Hfold := Lib.hid (takes_fold HH.out f4 f3)
      have Hbl : Hid ((b :: hs).length ≤ 1000000) := by show _ ≤ _; rw [List.length_cons, hhl]; omega
      have Hany : Hid ((b :: hs).any (fun x => !x.has) = true) := by show _ = _; simp [f4]
      obtain ⟨os, hos⟩ : ∃ os, os = hs.take 16 := ⟨_, rfl⟩
      have hol : os.length = min j 16 := by rw [hos, List.length_take, hhl, Nat.min_comm]
      have hoq : Hid (∀ (i : Nat) (hi : i < os.length), os[i].has = true ∧ os[i].on = i) := fun i hi => by
        have hi2 : i < hs.length := by rw [hol] at hi; omega
        have := HH.out i hi2
        subst hos
        rw [List.getElem_take]
        exact ⟨this.1, this.2.1⟩
      rw [← hos] at Hfold
      obtain ⟨q, hq⟩ : ∃ q, q = min j 16 := ⟨_, rfl⟩
      rw [← hq] at hol
      have hq16 : q ≤ 16 := by omega
      have Hq := Lib.hid hq
      have hfl2 : (b :: hs).foldl pubS (b0, []) = (b, os) := Hfold.out
      clear hos hno st hq hhl Hfold
      have hZB : wr.heap[Z]? = some (.cells #[.int .i64 3, .int .i64 1] 30 (0, 0)) := hZ
      go_wp2_with fail
      refine (add_ok B [] _ 3 1 _ (b :: hs) _ sB (by simp) Hbl.out rise_nil rfl Hany.out Hno.out rfl).mono ?_
      rintro e w3 ⟨rfl, v3, x1, g1, g2, g3, g4, g5, s5⟩
      rw [hfl2] at g4
      have s6 : Pw.Sep w w3 (regR B v3 [x1] (blk Z [.int .i64 3, .int .i64 1] 30 :: [])) := s5.sel 5 [0, 1, 2, 4]
      have hxb : Hid (x1.b = b ∧ x1.os = os) := by have := Prod.mk.inj g4; exact this
      clear sB s5 g4 hfl2 hz0' hz1' hZ hZB
      by_cases h16 : 16 < j
      · have d16 : decide ((16 : Int) < j) = true := by simp; omega
        obtain rfl : q = 16 := by have := Hq.out; omega
        clear h16
        go_wp2_with fail
        go_loopw [10] (fun y wr => ∃ (i : Nat) (x : Li) (v : Value), y = .int .i64 i ∧ i ≤ 16 + 1 + mm ∧ x.u = 3 ∧ x.d = 1 ∧ x.on = true ∧ x.b = b ∧ x.os = os.drop i ∧ Pw.Sep w wr (regR B v [x] (blk Z [.int .i64 3, .int .i64 1] 30 :: []))) (fun y _ => 16 + 1 + mm - (intOf y).toNat)
        case atStart => exact ⟨0, x1, v3, rfl, Nat.zero_le _, g1, g2, g3, hxb.out.1, hxb.out.2, s6⟩
        case round =>
          clear s6 hxb
          obtain ⟨i, x, v, rfl, hi2, xu, xd, xo, xb, xs, st⟩ := hrel
          obtain ⟨hf, hp⟩ := found_one x xu xd
          have hZ : ∀ w', Only _ w' [] → w'.heap[Z]? = some (.cells #[.int .i64 3, .int .i64 1] 30 (0, 0)) := fun w' o => o.at (st.sel 4 [3]).head (by simp)
          have hz0' := cell_two0 (hZ _ (Only.refl _ _))
          have hz1' := cell_two1 (hZ _ (Only.refl _ _))
          by_cases hlt : i < 16 + 1 + mm
          · have d1 : decide ((i : Int) < (16 : Int) + 1 + mm) = true := by simp; omega
            by_cases hiq : i < 16
            · have dq : decide ((i : Int) < (16 : Int)) = true := by simp; omega
              have hiol : i < os.length := by omega
              obtain ⟨q1, q2⟩ := hoq.out i hiol
              have hcons : os.drop i = os[i] :: os.drop (i + 1) := List.drop_eq_getElem_cons hiol
              have eu : IntKind.u32.wrap (i : Int) = i := by simp [IntKind.wrap, IntKind.bits, IntKind.signed]; omega
              generalize os[i] = y at *
              have g4 : (bc y).toArray[4]? = some (.int .u32 y.sg) := rfl
              have g7 : (bc y).toArray[7]? = some (.bool y.has) := rfl
              have g8 : (bc y).toArray[8]? = some (.int .u32 y.on) := rfl
              rw [q1] at g7
              rw [q2] at g8
              have Hc := Lib.hid (xs.trans hcons)
              have Hp := Lib.hid hp
              have Hf := Lib.hid hf
              have Hx := Lib.hid (And.intro xu (And.intro xd (And.intro xo xb)))
              clear hcons q1 q2 xs xu xd xo xb hp hf hZ hi2 f1 f2 f3 f4 f5
              go_wp2_with fail
              refine (take_once B [x] v 3 1 0 x _ st (by simp) (rise_one _) Hf.out Hp.out (by simp) rfl Hx.out.2.2.1 y (os.drop (i + 1)) Hc.out (by rw [List.length_drop]; omega) (st.only.size)).mono ?_
              rintro e w5 ⟨rfl, x', r1, r2, r3, r4, r5, s7⟩
              have s8 : Pw.Sep w w5 (regR B v [x'] (blk Z [.int .i64 3, .int .i64 1] 30 :: [])) := s7
              have Hr := Lib.hid (And.intro (r1.trans Hx.out.1) (And.intro (r2.trans Hx.out.2.1) (And.intro r3 (And.intro (r4.trans Hx.out.2.2.2) r5))))
              clear st s7 r1 r2 r3 r4 r5 hz0' hz1'
              go_wp2_with (first
                | (refine wpList_alloc_new rfl 40 rfl (.agg (bc b0).toArray) (fun _ => by kernel_rfl) ?_; intro X wX oX hXl hX)
                | (refine wpList_store_blk rfl 40 _ _ rfl X (bc y) rfl rfl hX rfl (by rw [bc_len]; kernel_rfl) (bc_arr y) ?_; intro wU oU hU; have oN := oX.new oU (fun i hi => by simp only [List.mem_singleton] at hi; omega); have c2 := (cell_in hU 4).trans g4; have c5 := (cell_in hU 7).trans g7; have c6 := (cell_in hU 8).trans g8; clear hX oX oU hU))
              exact ⟨⟨i + 1, x', v, by simp, by omega, Hr.out.1, Hr.out.2.1, Hr.out.2.2.1, Hr.out.2.2.2.1, Hr.out.2.2.2.2, s8.quiet oN⟩, by simp [intOf]; omega⟩
            · have dq : decide ((i : Int) < (16 : Int)) = false := by simp; omega
              have hnil : os.drop i = [] := List.drop_of_length_le (by omega)
              have hnil2 : os.drop (i + 1) = [] := List.drop_of_length_le (by omega)
              have g4 : (bc b).toArray[4]? = some (.int .u32 b.sg) := rfl
              have g7 : (bc b).toArray[7]? = some (.bool b.has) := rfl
              have g8 : (bc b).toArray[8]? = some (.int .u32 b.on) := rfl
              rw [f4] at g7
              rw [f3] at g4
              have Hc := Lib.hid (xs.trans hnil)
              have Hc2 := Lib.hid ((xs.trans hnil).trans hnil2.symm)
              have Hp := Lib.hid hp
              have Hf := Lib.hid hf
              have Hx := Lib.hid (And.intro xu (And.intro xd (And.intro xo xb)))
              have hT := take_last B [x] v 3 1 0 x _ st (by simp) (rise_one _) hf hp (by simp) rfl xo Hc.out
              rw [xb] at hT
              clear hnil hnil2 xs xu xd xo xb hp hf hZ hi2 f1 f2 f3 f4 f5
              go_wp2_with fail
              refine hT.mono ?_
              rintro e w5 ⟨rfl, o5⟩
              have s8 := st.quiet o5
              clear st o5 hT hz0' hz1'
              go_wp2_with (first
                | (refine wpList_alloc_new rfl 40 rfl (.agg (bc b0).toArray) (fun _ => by kernel_rfl) ?_; intro X wX oX hXl hX)
                | (refine wpList_store_blk rfl 40 _ _ rfl X (bc b) rfl rfl hX rfl (by rw [bc_len]; kernel_rfl) (bc_arr b) ?_; intro wU oU hU; have oN := oX.new oU (fun i hi => by simp only [List.mem_singleton] at hi; omega); have c2 := (cell_in hU 4).trans g4; have c5 := (cell_in hU 7).trans g7; have c6 := (cell_in hU 8).trans g8; clear hX oX oU hU))
              exact ⟨⟨i + 1, x, v, by simp, by omega, Hx.out.1, Hx.out.2.1, Hx.out.2.2.1, Hx.out.2.2.2, Hc2.out, s8.quiet oN⟩, by simp [intOf]; omega⟩
          · obtain rfl : i = 16 + 1 + mm := by omega
            have d1 : decide (((16 + 1 + mm : Nat) : Int) < (16 : Int) + 1 + mm) = false := by simp
            have hlf := left_any B [x] v 3 1 0 x _ st (by simp) (rise_one _) hf hp (by simp) rfl xo
            have hz : x.os.length = 0 := by rw [xs, List.length_drop]; omega
            rw [hz] at hlf
            have oS := st.only
            clear hz xs xu xd xo xb hp hf hZ st
            go_wp2_with fail
            refine hlf.mono ?_
            rintro e w5 ⟨rfl, o5⟩
            have oF := (oA.trans oS).trans o5
            clear hlf oS o5
            go_wp2_with fail
            go_ret
            exact ⟨rfl, oF.below (Nat.le_refl _) (by simp)⟩
      · have d16 : decide ((16 : Int) < j) = false := by simp; omega
        obtain rfl : q = j := by have := Hq.out; omega
        clear h16
        go_wp2_with fail
        go_loopw [10] (fun y wr => ∃ (i : Nat) (x : Li) (v : Value), y = .int .i64 i ∧ i ≤ q + 1 + mm ∧ x.u = 3 ∧ x.d = 1 ∧ x.on = true ∧ x.b = b ∧ x.os = os.drop i ∧ Pw.Sep w wr (regR B v [x] (blk Z [.int .i64 3, .int .i64 1] 30 :: []))) (fun y _ => q + 1 + mm - (intOf y).toNat)
        case atStart => exact ⟨0, x1, v3, rfl, Nat.zero_le _, g1, g2, g3, hxb.out.1, hxb.out.2, s6⟩
        case round =>
          clear s6 hxb
          obtain ⟨i, x, v, rfl, hi2, xu, xd, xo, xb, xs, st⟩ := hrel
          obtain ⟨hf, hp⟩ := found_one x xu xd
          have hZ : ∀ w', Only _ w' [] → w'.heap[Z]? = some (.cells #[.int .i64 3, .int .i64 1] 30 (0, 0)) := fun w' o => o.at (st.sel 4 [3]).head (by simp)
          have hz0' := cell_two0 (hZ _ (Only.refl _ _))
          have hz1' := cell_two1 (hZ _ (Only.refl _ _))
          by_cases hlt : i < q + 1 + mm
          · have d1 : decide ((i : Int) < (q : Int) + 1 + mm) = true := by simp; omega
            by_cases hiq : i < q
            · have dq : decide ((i : Int) < (q : Int)) = true := by simp; omega
              have hiol : i < os.length := by omega
              obtain ⟨q1, q2⟩ := hoq.out i hiol
              have hcons : os.drop i = os[i] :: os.drop (i + 1) := List.drop_eq_getElem_cons hiol
              have eu : IntKind.u32.wrap (i : Int) = i := by simp [IntKind.wrap, IntKind.bits, IntKind.signed]; omega
              generalize os[i] = y at *
              have g4 : (bc y).toArray[4]? = some (.int .u32 y.sg) := rfl
              have g7 : (bc y).toArray[7]? = some (.bool y.has) := rfl
              have g8 : (bc y).toArray[8]? = some (.int .u32 y.on) := rfl
              rw [q1] at g7
              rw [q2] at g8
              have Hc := Lib.hid (xs.trans hcons)
              have Hp := Lib.hid hp
              have Hf := Lib.hid hf
              have Hx := Lib.hid (And.intro xu (And.intro xd (And.intro xo xb)))
              clear hcons q1 q2 xs xu xd xo xb hp hf hZ hi2 f1 f2 f3 f4 f5
              go_wp2_with fail
              refine (take_once B [x] v 3 1 0 x _ st (by simp) (rise_one _) Hf.out Hp.out (by simp) rfl Hx.out.2.2.1 y (os.drop (i + 1)) Hc.out (by rw [List.length_drop]; omega) (st.only.size)).mono ?_
              rintro e w5 ⟨rfl, x', r1, r2, r3, r4, r5, s7⟩
              have s8 : Pw.Sep w w5 (regR B v [x'] (blk Z [.int .i64 3, .int .i64 1] 30 :: [])) := s7
              have Hr := Lib.hid (And.intro (r1.trans Hx.out.1) (And.intro (r2.trans Hx.out.2.1) (And.intro r3 (And.intro (r4.trans Hx.out.2.2.2) r5))))
              clear st s7 r1 r2 r3 r4 r5 hz0' hz1'
              go_wp2_with (first
                | (refine wpList_alloc_new rfl 40 rfl (.agg (bc b0).toArray) (fun _ => by kernel_rfl) ?_; intro X wX oX hXl hX)
                | (refine wpList_store_blk rfl 40 _ _ rfl X (bc y) rfl rfl hX rfl (by rw [bc_len]; kernel_rfl) (bc_arr y) ?_; intro wU oU hU; have oN := oX.new oU (fun i hi => by simp only [List.mem_singleton] at hi; omega); have c2 := (cell_in hU 4).trans g4; have c5 := (cell_in hU 7).trans g7; have c6 := (cell_in hU 8).trans g8; clear hX oX oU hU))
              exact ⟨⟨i + 1, x', v, by simp, by omega, Hr.out.1, Hr.out.2.1, Hr.out.2.2.1, Hr.out.2.2.2.1, Hr.out.2.2.2.2, s8.quiet oN⟩, by simp [intOf]; omega⟩
            · have dq : decide ((i : Int) < (q : Int)) = false := by simp; omega
              have hnil : os.drop i = [] := List.drop_of_length_le (by omega)
              have hnil2 : os.drop (i + 1) = [] := List.drop_of_length_le (by omega)
              have g4 : (bc b).toArray[4]? = some (.int .u32 b.sg) := rfl
              have g7 : (bc b).toArray[7]? = some (.bool b.has) := rfl
              have g8 : (bc b).toArray[8]? = some (.int .u32 b.on) := rfl
              rw [f4] at g7
              rw [f3] at g4
              have Hc := Lib.hid (xs.trans hnil)
              have Hc2 := Lib.hid ((xs.trans hnil).trans hnil2.symm)
              have Hp := Lib.hid hp
              have Hf := Lib.hid hf
              have Hx := Lib.hid (And.intro xu (And.intro xd (And.intro xo xb)))
              have hT := take_last B [x] v 3 1 0 x _ st (by simp) (rise_one _) hf hp (by simp) rfl xo Hc.out
              rw [xb] at hT
              clear hnil hnil2 xs xu xd xo xb hp hf hZ hi2 f1 f2 f3 f4 f5
              go_wp2_with fail
              refine hT.mono ?_
              rintro e w5 ⟨rfl, o5⟩
              have s8 := st.quiet o5
              clear st o5 hT hz0' hz1'
              go_wp2_with (first
                | (refine wpList_alloc_new rfl 40 rfl (.agg (bc b0).toArray) (fun _ => by kernel_rfl) ?_; intro X wX oX hXl hX)
                | (refine wpList_store_blk rfl 40 _ _ rfl X (bc b) rfl rfl hX rfl (by rw [bc_len]; kernel_rfl) (bc_arr b) ?_; intro wU oU hU; have oN := oX.new oU (fun i hi => by simp only [List.mem_singleton] at hi; omega); have c2 := (cell_in hU 4).trans g4; have c5 := (cell_in hU 7).trans g7; have c6 := (cell_in hU 8).trans g8; clear hX oX oU hU))
              exact ⟨⟨i + 1, x, v, by simp, by omega, Hx.out.1, Hx.out.2.1, Hx.out.2.2.1, Hx.out.2.2.2, Hc2.out, s8.quiet oN⟩, by simp [intOf]; omega⟩
          · obtain rfl : i = q + 1 + mm := by omega
            have d1 : decide (((q + 1 + mm : Nat) : Int) < (q : Int) + 1 + mm) = false := by simp
            have hlf := left_any B [x] v 3 1 0 x _ st (by simp) (rise_one _) hf hp (by simp) rfl xo
            have hz : x.os.length = 0 := by rw [xs, List.length_drop]; omega
            rw [hz] at hlf
            have oS := st.only
            clear hz xs xu xd xo xb hp hf hZ st
            go_wp2_with fail
            refine hlf.mono ?_
            rintro e w5 ⟨rfl, o5⟩
            have oF := (oA.trans oS).trans o5
            clear hlf oS o5
            go_wp2_with fail
            go_ret
            exact ⟨rfl, oF.below (Nat.le_refl _) (by simp)⟩
set_option maxRecDepth 100000 in
theorem registryTakes_holds : Rows.RegistryTakesSaid := registryTakes.said fun H enc base W v0 v1 d0 p0 d1 p1 h0 h1 h2 h3 => by
  obtain ⟨n, rfl, _, _, hn⟩ := Go.ChangeShapes.open_int Try.underlying5 h0 h1
  obtain ⟨m, rfl, _, _, hm⟩ := Go.ChangeShapes.open_int Try.underlying5 h2 h3
  exact takes_walk n m (u8_wf hn) (u8_wf hm) W
end Go.Proofs.Yteljkfihmbddaaa
