/- ChachaOpens returns true for every key, nonce and bytes: any bytes are opened just if they are sealed so. No condition. -/
import Derived.Test.YtemmdhfmdgpfmaaAwk5
import Derived.Test.YtemmdhfmdgpfmaaRSeal
import Derived.Test.YtemmdhfmdgpfmaaOpenS
import Derived.Test.YtemmdhfmdgpfmaaSChachaOpens
namespace Go.Proofs.Ytemmdhfmdgpfmaa
open Go.RowKit Go.Pw
set_option linter.unusedVariables false

theorem cells_u8' : Try.prog.cellsOf 5 = 1 := by kernel_rfl

def SQ (sl : Bool) (n : Nat) : Bool := sl && decide (16 ≤ n)
theorem seal_take (ks ns ws xs : List Int) : (sealL ks ns ws xs).take xs.length = streamL ks 1 ns xs ∧ (sealL ks ns ws xs).drop xs.length = tagM ks ns ws (streamL ks 1 ns xs) := by
  have hl := stream_len ks 1 ns xs
  constructor
  · rw [sealL, List.take_append_of_le_length (by omega), List.take_of_length_le (by omega)]
  · rw [sealL, ← hl, List.drop_left]
theorem open_seal {ks ns ws xs : List Int} (h : ∀ x ∈ xs, 0 ≤ x ∧ x < 256) : openB ks ns ws (sealL ks ns ws xs) = true ∧ openL ks ns ws (sealL ks ns ws xs) = xs := by
  have hb : openB ks ns ws (sealL ks ns ws xs) = true := by
    unfold openB
    rw [sealL_len, Nat.add_sub_cancel, (seal_take ks ns ws xs).1, (seal_take ks ns ws xs).2]
    simp
  refine ⟨hb, ?_⟩
  unfold openL
  rw [hb, if_pos rfl, sealL_len, Nat.add_sub_cancel, (seal_take ks ns ws xs).1]
  exact stream_twice h

set_option maxRecDepth 100000 in
set_option maxHeartbeats 3200000 in
theorem law_walk (ak an aw ap : Option Addr) (ck cn cw cp : Nat) (ks ns ws xs : List Int) (sl : Bool) (w : World) (hk : Pw.Src w (.slice ak ks.length ck) 1 ks.length (ks.map (Value.int .u8))) (hkb : ∀ x ∈ ks, 0 ≤ x ∧ x < 256)
    (hn : Pw.Src w (.slice an ns.length cn) 1 ns.length (ns.map (Value.int .u8))) (hnb : ∀ x ∈ ns, 0 ≤ x ∧ x < 256) (hw : Pw.Src w (.slice aw ws.length cw) 1 ws.length (ws.map (Value.int .u8))) (hwb : ∀ x ∈ ws, 0 ≤ x ∧ x < 256)
    (hp : Pw.Src w (.slice ap xs.length cp) 1 xs.length (xs.map (Value.int .u8))) (hxb : ∀ x ∈ xs, 0 ≤ x ∧ x < 256) :
    Calls Try.prog 6 #[.slice ak ks.length ck, .slice an ns.length cn, .slice aw ws.length cw, .slice ap xs.length cp, .bool sl] w fun e w' => e = .returned (.bool true) ∧ Below w.heap.size w w' := by
  obtain ⟨inf, hi0, hz0, hz1, hz2⟩ := info_parts Try.info5
  have hbel : ∀ w', Only w w' [] → Below w.heap.size w w' := fun w' h => h.below (Nat.le_refl _) (by simp)
  by_cases hl : 100 < ks.length ∨ 100 < ns.length ∨ 300 < ws.length ∨ 300 < xs.length
  · go_enter Try.func6, Try.ntmps6
    go_wp2_with fail
    refine (awake5 _).mono ?_
    rintro e w1 ⟨rfl, h1⟩
    by_cases hl0 : 100 < ks.length
    · have d0 : decide ((100 : Int) < ks.length) = true := by simp; omega
      go_wp2_with fail
      refine (awake5 _).mono ?_
      rintro e w2 ⟨rfl, h2⟩
      go_wp2_with fail
      go_ret
      exact ⟨rfl, hbel _ (h1.trans h2)⟩
    · have d0 : decide ((100 : Int) < ks.length) = false := by simp; omega
      by_cases hl1 : 100 < ns.length
      · have d1 : decide ((100 : Int) < ns.length) = true := by simp; omega
        go_wp2_with fail
        refine (awake5 _).mono ?_
        rintro e w2 ⟨rfl, h2⟩
        go_wp2_with fail
        go_ret
        exact ⟨rfl, hbel _ (h1.trans h2)⟩
      · have d1 : decide ((100 : Int) < ns.length) = false := by simp; omega
        by_cases hl2 : 300 < ws.length
        · have d2 : decide ((300 : Int) < ws.length) = true := by simp; omega
          go_wp2_with fail
          refine (awake5 _).mono ?_
          rintro e w2 ⟨rfl, h2⟩
          go_wp2_with fail
          go_ret
          exact ⟨rfl, hbel _ (h1.trans h2)⟩
        · have d2 : decide ((300 : Int) < ws.length) = false := by simp; omega
          have d3 : decide ((300 : Int) < xs.length) = true := by simp; omega
          go_wp2_with fail
          refine (awake5 _).mono ?_
          rintro e w2 ⟨rfl, h2⟩
          go_wp2_with fail
          go_ret
          exact ⟨rfl, hbel _ (h1.trans h2)⟩
  · have d1 : decide ((100 : Int) < ks.length) = false := by simp; omega
    have d2 : decide ((100 : Int) < ns.length) = false := by simp; omega
    have d3 : decide ((300 : Int) < ws.length) = false := by simp; omega
    have d4 : decide ((300 : Int) < xs.length) = false := by simp; omega
    have hwl : ws.length ≤ 10000 := by omega
    have hxl : xs.length ≤ 300 := by omega
    go_enter Try.func6, Try.ntmps6
    go_wp2_with fail
    refine (awake5 _).mono ?_
    rintro e w1 ⟨rfl, h1⟩
    go_upto_region 3 with fail
    go_cut [46] from 41 to 46 (fun u46 wx => u46 = .bool (SQ sl xs.length) ∧ w1 = wx)
    case first =>
      by_cases h16 : 16 ≤ xs.length
      · have e16 : decide ((16 : Int) ≤ xs.length) = true := by simp; omega
        have e17 : decide (16 ≤ xs.length) = true := by simp; omega
        cases sl with
        | true =>
          go_wp2_with fail
          go_meet
          case rel => exact ⟨by simp [SQ, e17], rfl⟩
        | false =>
          go_wp2_with fail
          go_meet
          case rel => exact ⟨rfl, rfl⟩
      · have e16 : decide ((16 : Int) ≤ xs.length) = false := by simp; omega
        have e17 : decide (16 ≤ xs.length) = false := by simp; omega
        cases sl with
        | true =>
          go_wp2_with fail
          go_meet
          case rel => exact ⟨by simp [SQ, e17], rfl⟩
        | false =>
          go_wp2_with fail
          go_meet
          case rel => exact ⟨rfl, rfl⟩
    case rest =>
    obtain ⟨rfl, rfl⟩ := hcut
    go_upto_if 46 with fail
    go_cut [3] from 41 to 68 (fun u3 wx => ∃ (bq : Option Addr) (cq : Nat) (qs : List Int), u3 = .slice bq qs.length cq ∧ Pw.Src wx (.slice bq qs.length cq) 1 qs.length (qs.map (.int .u8)) ∧ (∀ x ∈ qs, 0 ≤ x ∧ x < 256) ∧ qs.length ≤ 300 ∧ Only w wx [])
    case first =>
      have hp0 := hp.off h1 (fun _ _ _ => by simp)
      have hk0 := hk.off h1 (fun _ _ _ => by simp)
      have hn0 := hn.off h1 (fun _ _ _ => by simp)
      have hw0 := hw.off h1 (fun _ _ _ => by simp)
      by_cases hsq : sl = true ∧ 16 ≤ xs.length
      · obtain ⟨rfl, h16⟩ := hsq
        have e17 : SQ true xs.length = true := by simp [SQ]; omega
        rw [e17]
        obtain ⟨n, hn9⟩ : ∃ n, xs.length = n + 16 := ⟨xs.length - 16, by omega⟩
        have hcq : xs.length ≤ cp := by
          obtain ⟨_, _, he, k1, _⟩ := id hp
          simp only [Value.slice.injEq] at he
          omega
        obtain ⟨ah, hsl1, hsl2⟩ := slice_to8 ap xs.length cp n (by omega) hcq
        have hH := hsl2 _ _ hp0
        rw [← List.map_take] at hH
        obtain ⟨H, hH0⟩ : ∃ H, H = xs.take n := ⟨_, rfl⟩
        rw [← hH0] at hH
        have hHl : Hid (H.length = n) := by show _ = _; rw [hH0]; simp; omega
        have hHb : Hid (∀ x ∈ H, 0 ≤ x ∧ x < 256) := by show ∀ _, _; rw [hH0]; exact fun x hx => hxb x (List.mem_of_mem_take hx)
        have hn3 : n ≤ 284 := by omega
        have i1 : IntKind.i64.wrap ((xs.length : Int) - 16) = (n : Int) := by rw [IntWalk.i64_in _ (by omega)]; omega
        have HN9 := Lib.hid hn9
        clear hn9
        have s0 := Sep.rown (Sep.nil w1) 5 1
        have hown : w1.ownsRow 0 5 1 (.slice none 0 0) 0 [] := s0.head
        clear hsl2 hH0 h16
        go_upto_region 7 with (at_builtin; refine wpList_append_src rfl _ _ 22 rfl 5 inf (.int .u8 0) 1 1 Try.underlying22 hi0 hz0 hz1 hz2 rfl (by decide) (.slice none 0 0) 0 [] rfl hown _ n _ rfl hH (one_ints _ _) (by unfold maxLen; omega) (by omega) ?_; intro v7 w7 g1 g2 g3; obtain ⟨a7, c7, rfl⟩ := own_slice g1)
        have s2 : Pw.Sep w1 w7 [row 5 1 (.slice a7 n c7) n (H.map (.int .u8))] := by
          have := Sep.app s0 g1 g2 g3
          simp only [Nat.zero_add, List.nil_append] at this
          exact this
        have hq0 : Pw.Src w7 (.slice a7 n c7) 1 H.length (H.map (.int .u8)) := by rw [hHl.out]; exact own_src s2.head
        have hq0 := Lib.hid hq0
        clear g1 g2 g3 s0 hown hH
        go_wp2_with fail
        refine (rstream_any _ _ _ ks ns H 1 w7 (s2.src hk0) hkb (s2.src hn0) hnb (by unfold W32; omega) hq0.out hHb.out (by rw [hHl.out]; omega)).mono ?_
        rintro e w3 ⟨v3, rfl, k1, k2, k3⟩
        have s3 := s2.quiet k3
        have k1s := own_src k1
        have hfb := Lib.hid (sealL_len ks ns ws (streamL ks 1 ns H))
        go_wp2_with fail
        refine (rseal_any _ _ _ aw cw ks ns ws (streamL ks 1 ns H) w3 (s3.src hk0) hkb (s3.src hn0) hnb (s3.src hw0) hwb k1s (stream_byt hHb.out) hwl (by rw [stream_len, hHl.out]; omega)).mono ?_
        rintro e w4 ⟨v4, rfl, l1, l2, l3⟩
        have s4 := s3.quiet l3
        have hFl : (sealL ks ns ws (streamL ks 1 ns H)).length = n + 16 := by rw [hfb.out, stream_len, hHl.out]
        obtain ⟨F, hF0⟩ : ∃ F, F = sealL ks ns ws (streamL ks 1 ns H) := ⟨_, rfl⟩
        rw [← hF0] at hFl l1
        have hFb : Hid (∀ x ∈ F, 0 ≤ x ∧ x < 256) := by show ∀ _, _; rw [hF0]; exact sealL_byt (stream_byt hHb.out)
        rw [hFl] at l1
        obtain ⟨a4, c4, rfl⟩ := own_slice l1
        obtain ⟨ad, cd, hsl3, hsl4⟩ := slice_ex a4 (n + 16) c4 n 16 (by omega)
        have hD := hsl4 _ _ (own_src l1)
        rw [← List.map_drop] at hD
        have hDl : Hid ((F.drop n).length = 16) := by show _ = _; rw [List.length_drop, hFl]; omega
        have hDb : Hid (∀ x ∈ F.drop n, 0 ≤ x ∧ x < 256) := fun x hx => hFb.out x (List.mem_of_mem_drop hx)
        have hown : w4.ownsRow 0 5 1 (.slice a7 n c7) n (H.map (.int .u8)) := s4.head
        clear hF0 hFl hsl4 k1s l1 l2 k1 k2 s2 s3 hfb
        generalize F.drop n = D at *
        go_wp2_with (at_builtin; refine wpList_append_src rfl _ _ 22 rfl 5 inf (.int .u8 0) 1 1 Try.underlying22 hi0 hz0 hz1 hz2 rfl (by decide) (.slice a7 n c7) n (H.map (.int .u8)) rfl hown _ 16 _ rfl hD (one_ints _ _) (by unfold maxLen; omega) (by omega) ?_; intro v7 w7 g1 g2 g3; obtain ⟨a7, c7, rfl⟩ := own_slice g1)
        have s5 := Sep.app s4 g1 g2 g3
        have hql : (H ++ D).length = n + 16 := by rw [List.length_append, hHl.out, hDl.out]
        have s6 : Pw.Sep w1 w7 [row 5 1 (.slice a7 (n + 16) c7) (H ++ D).length ((H ++ D).map (.int .u8))] := by
          rw [hql, List.map_append]; exact s5
        have hsr := own_src (show w7.ownsRow 0 5 1 (.slice a7 (n + 16) c7) (H ++ D).length ((H ++ D).map (.int .u8)) from s6.head)
        have hsr := Lib.hid hsr
        have hql := Lib.hid hql
        have o7 := Lib.hid (h1.trans s6.only)
        clear g1 g2 g3 s4 s5 s6 hown hD
        go_wp2_with fail
        go_meet
        case rel => exact ⟨_, _, H ++ D, by rw [hql.out], by rw [hql.out]; have := hsr.out; rw [hql.out] at this; exact this, app_byt hHb.out hDb.out, by rw [hql.out]; omega, o7.out⟩
      · cases sl with
        | true =>
          have e17 : SQ true xs.length = false := by
            have h16 : ¬ 16 ≤ xs.length := fun h => hsq ⟨rfl, h⟩
            simp only [SQ, Bool.true_and, decide_eq_false_iff_not]
            omega
          rw [e17]
          go_wp2_with fail
          go_meet
          case rel => exact ⟨ap, cp, xs, rfl, hp0, hxb, hxl, h1⟩
        | false =>
          have e17 : SQ false xs.length = false := rfl
          rw [e17]
          go_wp2_with fail
          go_meet
          case rel => exact ⟨ap, cp, xs, rfl, hp0, hxb, hxl, h1⟩
    case rest =>
      clear h1 d4 hxl hp hxb hl
      obtain ⟨bq, cq, qs, rfl, hq, hqb, hql, h1⟩ := hcut
      go_wp2_with fail
      refine (copen_any _ _ aw bq cw cq ks ns ws qs wc (hk.off h1 (fun _ _ _ => by simp)) hkb (hn.off h1 (fun _ _ _ => by simp)) hnb (hw.off h1 (fun _ _ _ => by simp)) hwb hq hqb hwl (by omega)).mono ?_
      rintro e w5 ⟨o3, a3, c3, rfl, hU⟩
      obtain ⟨bb, hbb⟩ : ∃ b, b = openB ks ns ws qs := ⟨_, rfl⟩
      obtain ⟨us, hus⟩ : ∃ l, l = openL ks ns ws qs := ⟨_, rfl⟩
      rw [← hus] at hU ⊢
      rw [← hbb]
      have HB := Lib.hid hbb
      have HU := Lib.hid hus
      have hU := Lib.hid hU
      have hqv := Lib.hid (hq.off o3 (fun _ _ _ => by simp))
      have h2 := h1.trans o3
      clear hbb hus
      go_upto_if 79 with fail
      go_cut [16, 17] from 77 to 96 (fun u16 u17 wx => ∃ (bp : Option Addr) (cpl : Nat) (pl : List Int), u16 = .bool bb ∧ u17 = .slice bp pl.length cpl ∧ Pw.Src wx (.slice bp pl.length cpl) 1 pl.length (pl.map (.int .u8)) ∧ (bb = true → pl = us) ∧ Only w5 wx [])
      case first =>
        by_cases h16 : 16 ≤ qs.length
        · have e16 : decide ((16 : Int) ≤ qs.length) = true := by simp; omega
          obtain ⟨n, hn9⟩ : ∃ n, qs.length = n + 16 := ⟨qs.length - 16, by omega⟩
          have hcq : qs.length ≤ cq := by
            obtain ⟨_, _, he, k1, _⟩ := id hq
            simp only [Value.slice.injEq] at he
            omega
          obtain ⟨ah, hsl1, hsl2⟩ := slice_to8 bq qs.length cq n (by omega) hcq
          have hH := hsl2 _ _ hqv.out
          rw [← List.map_take] at hH
          obtain ⟨H, hH0⟩ : ∃ H, H = qs.take n := ⟨_, rfl⟩
          obtain ⟨D, hD0⟩ : ∃ D, D = qs.drop n := ⟨_, rfl⟩
          rw [← hH0] at hH
          have hHl : Hid (H.length = n) := by show _ = _; rw [hH0]; simp; omega
          have hHb : Hid (∀ x ∈ H, 0 ≤ x ∧ x < 256) := by show ∀ _, _; rw [hH0]; exact fun x hx => hqb x (List.mem_of_mem_take hx)
          have hqs : Hid (qs = H ++ D) := by show _ = _; rw [hH0, hD0, List.take_append_drop]
          have hbd : Hid (bb = decide (tagM ks ns ws H = D)) := by
            show _ = _
            rw [HB.out]
            unfold openB
            rw [show qs.length - 16 = n by omega, ← hH0, ← hD0]
            simp only [decide_eq_decide]
            exact ⟨fun h => h.2, fun h => ⟨by omega, h⟩⟩
          have hud : Hid (bb = true → us = streamL ks 1 ns H) := fun h => by
            rw [HU.out]
            unfold openL
            rw [← HB.out, if_pos h, show qs.length - 16 = n by omega, ← hH0]
          have hn3 : n ≤ 284 := by omega
          have i1 : IntKind.i64.wrap ((qs.length : Int) - 16) = (n : Int) := by rw [IntWalk.i64_in _ (by omega)]; omega
          have HN9 := Lib.hid hn9
          clear hn9
          have hH2 : Pw.Src w5 (.slice ah n cq) 1 H.length (H.map (.int .u8)) := by rw [hHl.out]; exact hH
          have hH2 := Lib.hid hH2
          clear hsl2 hH0 hD0 hH hcq
          go_wp2_with fail
          refine (rstream_any _ _ _ ks ns H 1 w5 (hk.off h2 (fun _ _ _ => by simp)) hkb (hn.off h2 (fun _ _ _ => by simp)) hnb (by unfold W32; omega) hH2.out hHb.out (by rw [hHl.out]; omega)).mono ?_
          rintro e w4 hf
          obtain ⟨Pl, a4, c4, HPl, rfl, o4, g4, t4⟩ := hf.str
          have hPlb : Hid (∀ x ∈ Pl, 0 ≤ x ∧ x < 256) := by show ∀ _, _; rw [HPl.out]; exact stream_byt hHb.out
          have hPll : Pl.length ≤ 284 := by rw [HPl.out, stream_len, hHl.out]; omega
          go_upto_region 15 with fail
          have h4d := (h2.trans o4).trans (Only.drew w4 [])
          have hk1 := Lib.hid (hk.off h4d (fun _ _ _ => by simp))
          have hn1 := Lib.hid (hn.off h4d (fun _ _ _ => by simp))
          have hw1 := Lib.hid (hw.off h4d (fun _ _ _ => by simp))
          have hx1 := Lib.hid (hqv.out.off (o4.trans (Only.drew w4 [])) (fun _ _ _ => by simp))
          have hPl0 := Lib.hid (own_src g4)
          have hPl := Lib.hid ((own_src g4).off (Only.drew w4 []) (fun _ _ _ => by simp))
          clear hf
          refine wp_region_held_drew (S := fun w' => Only w4.drew w' []) (by kernel_rfl) (Only.refl _ _) (fun hHeld => ?_)
          refine' wpAnyH_take (i := 0) (v := _) (op_at rfl) (by kernel_rfl) (by kernel_rfl) (by kernel_rfl) (fun _ _ _ h => h) (Or.inl ⟨by rfl, ?hy29⟩) (by assumption) ?rest29
          case hy29 =>
            intro w' hS
            go_simp
            try with_reducible rfl
          try simp only [Act.put, List.setIfInBounds_toArray, List.set_cons_zero, List.set_cons_succ]
          refine' wpAnyH_take (i := 1) (v := _) (op_at rfl) (by kernel_rfl) (by kernel_rfl) (by kernel_rfl) (fun _ _ _ h => h) (Or.inl ⟨by rfl, ?hy30⟩) (by assumption) ?rest30
          case hy30 =>
            intro w' hS
            go_simp
            try with_reducible rfl
          try simp only [Act.put, List.setIfInBounds_toArray, List.set_cons_zero, List.set_cons_succ]
          refine' wpAnyH_take (i := 2) (v := _) (op_at rfl) (by kernel_rfl) (by kernel_rfl) (by kernel_rfl) (fun _ _ _ h => h) (Or.inl ⟨by rfl, ?hy31⟩) (by assumption) ?rest31
          case hy31 =>
            intro w' hS
            go_simp
            try with_reducible rfl
          try simp only [Act.put, List.setIfInBounds_toArray, List.set_cons_zero, List.set_cons_succ]
          refine' wpAnyH_take (i := 3) (v := _) (op_at rfl) (by kernel_rfl) (by kernel_rfl) (by kernel_rfl) (fun _ _ _ h => h) (Or.inl ⟨by rfl, ?hy32⟩) (by assumption) ?rest32
          case hy32 =>
            intro w' hS
            go_simp
            try with_reducible rfl
          try simp only [Act.put, List.setIfInBounds_toArray, List.set_cons_zero, List.set_cons_succ]
          refine' wpAnyH_take (i := 6) (v := _) (op_at rfl) (by kernel_rfl) (by kernel_rfl) (by kernel_rfl) (fun _ _ _ h => h) (Or.inl ⟨by rfl, ?hy33⟩) (by assumption) ?rest33
          case hy33 =>
            intro w' hS
            go_simp
            try with_reducible rfl
          try simp only [Act.put, List.setIfInBounds_toArray, List.set_cons_zero, List.set_cons_succ]
          refine' wpAnyH_take (i := 7) (v := _) (op_at rfl) (by kernel_rfl) (by kernel_rfl) (by kernel_rfl) (fun _ _ _ h => h) (Or.inl ⟨by rfl, ?hy34⟩) (by assumption) ?rest34
          case hy34 =>
            intro w' hS
            have hs_ := run_str (P := Try.prog) (w := w') (S := 22) (T := 9) Try.underlying22 Try.underlying5 Try.underlying9 (Pw.Src.off hx1.out hS (fun _ _ _ => by simp)) rfl
            go_simp
            try with_reducible rfl
          try simp only [Act.put, List.setIfInBounds_toArray, List.set_cons_zero, List.set_cons_succ]
          refine wpAnyH_ready (rs := [4]) (by kernel_rfl) (by simp) (AllReadyH.cons (op_at rfl) (fun K hK => ?_) AllReadyH.nil)
          go_simp
          refine (rseal_any _ _ _ aw cw ks ns ws Pl _ hk1.out hkb hn1.out hnb hw1.out hwb hPl.out hPlb.out hwl (by omega)).mono fun e w6 hq => ?_
          obtain ⟨zs, a6, c6, Hzs, rfl, o6, g6, t6⟩ := hq.str
          clear hq
          go_wp2_with fail
          refine hK.out _ _ (o6) (fun hHeld => ?_)
          clear hK K
          try simp only [Act.put, List.setIfInBounds_toArray, List.set_cons_zero, List.set_cons_succ]
          refine wpAnyH_more (S' := fun w' => Only w6 w' []) (fun w' h => Only.trans o6 h) _ _ _ _ ?_
          clear hHeld
          have hHeld : Only w6 w6 [] := Only.refl _ _
          have hx1 := Lib.hid (Pw.Src.off hx1.out o6 (fun _ _ _ => by simp))
          refine' wpAnyH_take (i := 5) (v := _) (op_at rfl) (by kernel_rfl) (by kernel_rfl) (by kernel_rfl) (fun _ _ _ h => h) (Or.inl ⟨by rfl, ?hy35⟩) (by assumption) ?rest35
          case hy35 =>
            intro w' hS
            have hs_ := t6 w' hS
            go_simp
            try with_reducible rfl
          try simp only [Act.put, List.setIfInBounds_toArray, List.set_cons_zero, List.set_cons_succ]
          refine' wpAnyH_take (i := 8) (v := _) (op_at rfl) (by kernel_rfl) (by kernel_rfl) (by kernel_rfl) (fun _ _ _ h => h) (Or.inl ⟨by rfl, ?hy36⟩) (by assumption) ?rest36
          case hy36 =>
            intro w' hS
            go_simp
            try with_reducible rfl
          try simp only [Act.put, List.setIfInBounds_toArray, List.set_cons_zero, List.set_cons_succ]
          refine' wpAnyH_take (i := 9) (v := _) (op_at rfl) (by kernel_rfl) (by kernel_rfl) (by kernel_rfl) (fun _ _ _ h => h) (Or.inl ⟨by rfl, ?hy37⟩) (by assumption) ?rest37
          case hy37 =>
            intro w' hS
            go_simp
            try with_reducible rfl
          try simp only [Act.put, List.setIfInBounds_toArray, List.set_cons_zero, List.set_cons_succ]
          refine wpAnyH_done (by kernel_rfl) ?_ _
          have hzb : ∀ x ∈ zs, 0 ≤ x ∧ x < 256 := by rw [Hzs.out]; exact sealL_byt hPlb.out
          have hsb := str_beq hzb hqb
          have hdec : decide (zs = qs) = bb := by
            rw [hbd.out, Hzs.out, HPl.out, hqs.out]
            have e : sealL ks ns ws (streamL ks 1 ns H) = H ++ tagM ks ns ws H := by
              unfold sealL
              rw [stream_twice hHb.out]
            rw [e]
            simp
          rw [hdec] at hsb
          rw [hsb]
          have hfin := Lib.hid (hPl0.out.off ((Only.drew w4 []).trans o6) (fun _ _ _ => by simp))
          have oo := Lib.hid (o4.trans ((Only.drew w4 []).trans o6))
          clear hsb hdec hzb t6 g6 hHeld
          go_wp2_with fail
          go_meet
          case rel => exact ⟨a4, c4, Pl, rfl, rfl, hfin.out, fun h => HPl.out.trans (hud.out h).symm, oo.out⟩
        · have e16 : decide ((16 : Int) ≤ qs.length) = false := by simp; omega
          have hbf : bb = false := by rw [HB.out]; simp [openB]; omega
          subst hbf
          go_wp2_with fail
          go_meet
          case rel => exact ⟨none, 0, [], rfl, rfl, src_nil _, fun h => by simp at h, Only.refl _ _⟩
      case rest =>
        obtain ⟨bp, cpl, pl, rfl, rfl, hPs, hpu, o8⟩ := hcut
        have hU8 := hU.out.off o8 (fun _ _ _ => by simp)
        have ofin := h2.trans o8
        have sA := run_str (P := Try.prog) (w := wc) (S := 22) (T := 9) Try.underlying22 Try.underlying5 Try.underlying9 hU8 rfl
        cases bb with
        | true =>
          have e := hpu rfl
          subst e
          have sB := run_str (P := Try.prog) (w := wc) (S := 22) (T := 9) Try.underlying22 Try.underlying5 Try.underlying9 hPs rfl
          go_wp2_with fail
          go_ret
          exact ⟨rfl, hbel _ ofin⟩
        | false =>
          have e : us = [] := by rw [HU.out]; unfold openL; rw [← HB.out]; rfl
          subst e
          rw [show ([] : List Int).length = 0 from rfl] at sA ⊢
          have sB := run_str (P := Try.prog) (w := wc) (S := 22) (T := 9) Try.underlying22 Try.underlying5 Try.underlying9 (src_nil wc) rfl
          go_wp2_with fail
          go_ret
          exact ⟨rfl, hbel _ ofin⟩

theorem chachaOpens_holds : Rows.ChachaOpensSaid := chachaOpens.said fun H enc base W v0 v1 v2 v3 v4 d0 p0 d1 p1 d2 p2 d3 p3 d4 p4 h0 t0 h1 t1 h2 t2 h3 t3 h4 t4 => by
  obtain ⟨ak, ck, ks, rfl, hk, hkb⟩ := open_bytes Try.underlying22 Try.underlying5 cells_u8' h0 t0
  obtain ⟨an, cn, ns, rfl, hn, hnb⟩ := open_bytes Try.underlying22 Try.underlying5 cells_u8' h1 t1
  obtain ⟨aw, cw, ws, rfl, hw, hwb⟩ := open_bytes Try.underlying22 Try.underlying5 cells_u8' h2 t2
  obtain ⟨ap, cp, xs, rfl, hp, hxb⟩ := open_bytes Try.underlying22 Try.underlying5 cells_u8' h3 t3
  obtain ⟨sl, rfl⟩ := Go.WideShapes.okWide_bool Try.underlying4 h4
  exact law_walk ak an aw ap ck cn cw cp ks ns ws xs sl W hk hkb hn hnb hw hwb hp hxb
end Go.Proofs.Ytemmdhfmdgpfmaa
