/- Layer 5 (chacha): the contracts of pad and tag. -/
import Derived.Test.YtemmdhfmdgpfmaaZer
import Derived.Test.YtemmdhfmdgpfmaaRTag
import Derived.Test.YtemmdhfmdgpfmaaStr1
import Derived.Deep.Cut
import Derived.Deep.CutBlock
import Derived.StillTailTactics
namespace Go.Proofs.Ytemmdhfmdgpfmaa
open Go.RowKit Go.Pw
set_option linter.unusedVariables false

def padL (l : List Int) : List Int := l ++ List.replicate ((16 - l.length % 16) % 16) 0
theorem padL_len (l : List Int) : (padL l).length = l.length + (16 - l.length % 16) % 16 := by simp [padL]
theorem padL_byt {l : List Int} (h : ∀ x ∈ l, 0 ≤ x ∧ x < 256) : ∀ x ∈ padL l, 0 ≤ x ∧ x < 256 := fun x hx => by
  rcases List.mem_append.1 hx with hx | hx
  · exact h x hx
  · rw [List.eq_of_mem_replicate hx]; decide
def tagB (ws cs : List Int) : List Int := padL (padL ws ++ cs) ++ dg 256 ws.length 8 ++ dg 256 cs.length 8
theorem app_byt {a b : List Int} (ha : ∀ x ∈ a, 0 ≤ x ∧ x < 256) (hb : ∀ x ∈ b, 0 ≤ x ∧ x < 256) : ∀ x ∈ a ++ b, 0 ≤ x ∧ x < 256 := fun x hx => by
  rcases List.mem_append.1 hx with hx | hx
  · exact ha x hx
  · exact hb x hx
theorem tagB_byt {ws cs : List Int} (hw : ∀ x ∈ ws, 0 ≤ x ∧ x < 256) (hc : ∀ x ∈ cs, 0 ≤ x ∧ x < 256) : ∀ x ∈ tagB ws cs, 0 ≤ x ∧ x < 256 :=
  app_byt (app_byt (padL_byt (app_byt (padL_byt hw) hc)) (dg_bd (by decide) _ _)) (dg_bd (by decide) _ _)
theorem tagB_len (ws cs : List Int) : (tagB ws cs).length ≤ ws.length + cs.length + 64 := by
  simp only [tagB, List.length_append, padL_len, dg_len]
  omega
def tagM (ks ns ws cs : List Int) : List Int := tagL ((blockL ks 0 ns).take 32) (tagB ws cs)
theorem tagL_len (ks xs : List Int) : (tagL ks xs).length = 16 := dg_len _ _ _
theorem tagL_byt (ks xs : List Int) : ∀ x ∈ tagL ks xs, 0 ≤ x ∧ x < 256 := dg_bd (by decide) _ _

set_option maxHeartbeats 800000 in
theorem pad_any {w0 : World} {rs : List Res} (ao : Option Addr) (c : Nat) (xs : List Int) (w : World) (h : Sep w0 w (row 5 1 (.slice ao xs.length c) xs.length (xs.map (.int .u8)) :: rs)) (hl : xs.length ≤ 1000000) :
    Calls Try.prog 41 #[.slice ao xs.length c] w fun e w' => ∃ a' c', e = .returned (.slice a' (padL xs).length c') ∧ Sep w0 w' (row 5 1 (.slice a' (padL xs).length c') (padL xs).length ((padL xs).map (.int .u8)) :: rs) := by
  obtain ⟨inf, hi0, hz0, hz1, hz2⟩ := info_parts Try.info5
  obtain ⟨k, hk⟩ : ∃ k, k = (16 - xs.length % 16) % 16 := ⟨_, rfl⟩
  have hk16 : k < 16 := by omega
  obtain ⟨v', w', hr, g1, g2, g3⟩ := Pw.run_append_zeros (P := Try.prog) w 22 3 22 5 inf (.int .u8 0) .i64 Try.underlying22 Try.underlying3 hi0 hz0 hz1 hz2 rfl rfl (.slice ao xs.length c) xs.length (xs.map (.int .u8)) h.head k (by omega)
  obtain ⟨a7, c7, rfl⟩ := own_slice g1
  have s2 := Sep.app h (m := k) (news := List.replicate k (.int .u8 0)) g1 g2 g3
  have e1 : padL xs = xs ++ List.replicate k 0 := by rw [hk]; rfl
  have e2 : (padL xs).map (Value.int .u8) = xs.map (.int .u8) ++ List.replicate k (.int .u8 0) := by rw [e1]; simp
  have e3 : (padL xs).length = xs.length + k := by rw [padL_len, hk]
  have s3 : Sep w0 w' (row 5 1 (.slice a7 (padL xs).length c7) (padL xs).length ((padL xs).map (.int .u8)) :: rs) := by rw [e2, e3]; exact s2
  rw [← e3] at hr
  have t1 : (xs.length : Int).tmod 16 = ((xs.length % 16 : Nat) : Int) := by rw [Int.tmod_eq_emod_of_nonneg (by omega)]; omega
  have t2 : (xs.length : Int) % 16 = ((xs.length % 16 : Nat) : Int) := by omega
  obtain ⟨r, hrr⟩ : ∃ r, r = xs.length % 16 := ⟨_, rfl⟩
  rw [← hrr] at t1 t2
  have t3 : IntKind.i64.wrap (16 - (r : Int)) = 16 - (r : Int) := IntWalk.i64_in _ (by omega)
  have t4 : (16 - (r : Int)).tmod 16 = (k : Int) := by rw [Int.tmod_eq_emod_of_nonneg (by omega)]; omega
  have t5 : (16 - (r : Int)) % 16 = (k : Int) := by omega
  clear hrr hk e1 e2 e3 s2 g1 g2 g3
  go_enter Try.func41, Try.ntmps41
  go_wp2_with (at_builtin; refine Lib.wpList_append_run _ rfl _ _ _ _ rfl _ _ rfl rfl _ _ hr ?_)
  go_ret
  exact ⟨_, _, rfl, s3⟩

/-- A slice's first bytes. -/
theorem slice_to8 (ao : Option Addr) (n c l : Nat) (hl : l ≤ n) (hc : n ≤ c) : ∃ ao', (∀ w, (Instr.sliceAt 22 (.slice ao n c) none (some (.int .i64 (l : Int))) none).run Try.prog w = .ok (.slice ao' l c) w) ∧ ∀ w cs, Pw.Src w (.slice ao n c) 1 n cs → Pw.Src w (.slice ao' l c) 1 l (cs.take l) := by
  obtain ⟨i0, hi, hz0, hz1, hz2⟩ := info_parts Try.info5
  refine ⟨if c = 0 then ao else ao.map (·.add (0 * 1)), fun w => ?_, fun w cs h => ?_⟩
  · have hu : Try.prog.underlying 22 = some (.slice (Try.prog.elem 22)) := by kernel_rfl
    have he : Try.prog.elem 22 = 5 := by kernel_rfl
    rw [run_sliceAt_slice (h := hu), run_slice_h (ht := hu) (kh := .i64) (h := (l : Int)) (h0 := by omega) (h2 := by omega), he]
    have hs : (sizeOf 5).run Try.prog w = .ok 1 w := by simp [sizeOf, typeInfo, hi, hz1]
    rw [hs]
    simp only [Result.andThen, sliced, Int.toNat_natCast, Nat.sub_zero]
  · obtain ⟨ao', c', he, h1, h2, h3, h4, h5⟩ := h
    simp only [Value.slice.injEq] at he
    obtain ⟨rfl, _, rfl⟩ := he
    refine ⟨_, _, rfl, by omega, h2, by simp [h3]; omega, fun hn => ?_, fun b hb j u hj => ?_⟩
    · cases ao with
      | none => have := h4 rfl; omega
      | some a => split at hn <;> simp at hn
    · cases ao with
      | none => simp at hb
      | some a =>
        have e : a.add (0 * 1) = a := by simp [Addr.add]
        simp only [Option.map_some, e, ite_self, Option.some.injEq] at hb
        subst hb
        rw [List.getElem?_take] at hj
        split at hj
        · exact h5 _ rfl j u hj
        · simp at hj

def nJ (ws cs : List Int) (j : Nat) : Nat := if j = 0 then ws.length else cs.length
def leB (B ws cs : List Int) : Nat → List Int
  | 0 => B
  | j + 1 => leB B ws cs j ++ dg 256 (nJ ws cs j) 8

set_option maxRecDepth 100000 in
set_option maxHeartbeats 3200000 in
theorem ctag_any (key nonce : Value) (aw ac : Option Addr) (cw cc : Nat) (ks ns ws cs : List Int) (w : World) (hk : Pw.Src w key 1 ks.length (ks.map (Value.int .u8))) (hkb : ∀ x ∈ ks, 0 ≤ x ∧ x < 256)
    (hn : Pw.Src w nonce 1 ns.length (ns.map (Value.int .u8))) (hnb : ∀ x ∈ ns, 0 ≤ x ∧ x < 256) (hw : Pw.Src w (.slice aw ws.length cw) 1 ws.length (ws.map (Value.int .u8))) (hwb : ∀ x ∈ ws, 0 ≤ x ∧ x < 256)
    (hc : Pw.Src w (.slice ac cs.length cc) 1 cs.length (cs.map (Value.int .u8))) (hcb : ∀ x ∈ cs, 0 ≤ x ∧ x < 256) (hwl : ws.length ≤ 10000) (hcl : cs.length ≤ 10000) :
    Calls Try.prog 32 #[key, nonce, .slice aw ws.length cw, .slice ac cs.length cc] w (Fresh (tagM ks ns ws cs) w) := by
  obtain ⟨inf, hi0, hz0, hz1, hz2⟩ := info_parts Try.info5
  go_enter Try.func32, Try.ntmps32
  go_wp2_with fail
  refine (fit_any _ ws ws.length w hw (by omega)).mono ?_
  rintro e w1 ⟨v, rfl, h1, h2, h3⟩
  have ef : fitL ws ws.length = ws := by rw [fitL_same (Nat.le_refl _), List.take_length]
  rw [ef] at h1
  obtain ⟨a1, c1, rfl⟩ := own_slice h1
  have s1 := (Sep.nil w).row0 h1 h2 h3
  clear h1 h2 h3 ef
  go_wp2_with fail
  refine (pad_any a1 c1 ws w1 s1 (by omega)).mono ?_
  rintro e w2 ⟨a2, c2, rfl, s2⟩
  have hown : w2.ownsRow 0 5 1 (.slice a2 (padL ws).length c2) (padL ws).length ((padL ws).map (.int .u8)) := s2.head
  have hcs := s2.src hc
  have hpb : (padL ws).length ≤ 10016 := by rw [padL_len]; omega
  clear s1
  go_wp2_with (at_builtin; refine wpList_append_src rfl _ _ 22 rfl 5 inf (.int .u8 0) 1 1 Try.underlying22 hi0 hz0 hz1 hz2 rfl (by decide) (.slice a2 (padL ws).length c2) (padL ws).length ((padL ws).map (.int .u8)) rfl hown _ cs.length _ rfl hcs (one_ints _ _) (by unfold maxLen; omega) (by omega) ?_; intro v7 w7 g1 g2 g3; obtain ⟨a7, c7, rfl⟩ := own_slice g1)
  obtain ⟨P1, hP1⟩ : ∃ l, l = padL ws ++ cs := ⟨_, rfl⟩
  have hPl : Hid (P1.length = (padL ws).length + cs.length) := by show _ = _; rw [hP1, List.length_append]
  have hPb : P1.length ≤ 30000 := by have := hPl.out; omega
  have s3 : Pw.Sep w w7 [row 5 1 (.slice a7 P1.length c7) P1.length (P1.map (.int .u8))] := by
    rw [hPl.out, hP1, List.map_append]; exact s2.app g1 g2 g3
  have HP1 := Lib.hid hP1
  rw [← hPl.out]
  clear g1 g2 g3 s2 hown hcs hP1
  go_wp2_with fail
  refine (pad_any a7 c7 P1 w7 s3 (by omega)).mono ?_
  rintro e w4 ⟨a4, c4, rfl, s4⟩
  have hBl : (padL P1).length ≤ 100000 := by rw [padL_len]; omega
  have htB : Hid (leB (padL P1) ws cs 2 = tagB ws cs) := by show _ = _; rw [HP1.out]; rfl
  obtain ⟨B, hB⟩ : ∃ B, B = padL P1 := ⟨_, rfl⟩
  rw [← hB] at s4 hBl htB ⊢
  clear hB s3
  have s5 := (s4.box [.int .i64 (ws.length : Int), .int .i64 (cs.length : Int)] 3).up 1 (by simp)
  have s5 : Pw.Sep w _ [row 5 1 (.slice a4 (leB B ws cs 0).length c4) (leB B ws cs 0).length ((leB B ws cs 0).map (.int .u8)), blk w4.heap.size [.int .i64 (ws.length : Int), .int .i64 (cs.length : Int)] 3] := s5
  go_wp2_with fail
  generalize hLN : w4.heap.size = LN at *
  clear hLN s4
  go_loopw [9, 28] (fun u9 u28 wr => ∃ (j : Nat) (av : Option Addr) (cv : Nat), u9 = .slice av (leB B ws cs j).length cv ∧ u28 = .int .i64 j ∧ j ≤ 2 ∧ Pw.Sep w wr [row 5 1 (.slice av (leB B ws cs j).length cv) (leB B ws cs j).length ((leB B ws cs j).map (.int .u8)), blk LN [.int .i64 (ws.length : Int), .int .i64 (cs.length : Int)] 3]) (fun _ u28 _ => 2 - (intOf u28).toNat)
  case atStart => exact ⟨0, a4, c4, rfl, rfl, by omega, s5⟩
  case round =>
    clear s5
    obtain ⟨j, av, cv, rfl, rfl, hj, hs⟩ := hrel
    by_cases hj2 : j < 2
    · have d0 : decide ((j : Int) < 2) = true := by simp; omega
      obtain ⟨n, hn9⟩ : ∃ n, n = nJ ws cs j := ⟨_, rfl⟩
      have hn4 : n ≤ 10000 := by rw [hn9]; unfold nJ; split <;> assumption
      have hL1 : wr.heap[LN]? = some (.cells #[.int .i64 (ws.length : Int), .int .i64 (cs.length : Int)] 3 (0, 0)) := hs.tail.head
      have cj : wr.cell? ⟨LN, j, none⟩ = some (.int .i64 (n : Int)) := by
        rw [cell_in hL1 j, hn9]
        rcases (by omega : j = 0 ∨ j = 1) with rfl | rfl <;> rfl
      have hlb : Hid (leB B ws cs (j + 1) = leB B ws cs j ++ dg 256 n 8) := by show _ = _; rw [hn9]; rfl
      have hbl : (leB B ws cs j).length ≤ 100016 := by
        rcases (by omega : j = 0 ∨ j = 1) with rfl | rfl
        · show B.length ≤ _; omega
        · show (B ++ dg 256 (nJ ws cs 0) 8).length ≤ _; rw [List.length_append, dg_len]; omega
      have j0 : (0 : Int) ≤ (j : Int) := by omega
      have j1 : (j : Int) < 2 := by omega
      obtain ⟨M, hM⟩ : ∃ M, M = leB B ws cs j := ⟨_, rfl⟩
      rw [← hM] at hs hlb hbl
      have HM := Lib.hid hM
      rw [← hM]
      have s6 : Pw.Sep w wr [row 5 1 (.slice av (M.length + 0) cv) (M.length + 0) ((M ++ (dg 256 n 8).take 0).map (.int .u8)), blk LN [.int .i64 (ws.length : Int), .int .i64 (cs.length : Int)] 3] := by
        rw [List.take_zero, List.append_nil]; exact hs
      clear hL1 hn9 hM hs
      go_wp2_with fail
      go_loopw [9, 32] (fun u9 u32 wr => ∃ (i : Nat) (av : Option Addr) (cv : Nat), u9 = .slice av (M.length + i) cv ∧ u32 = .int .i64 i ∧ i ≤ 8 ∧ Pw.Sep w wr [row 5 1 (.slice av (M.length + i) cv) (M.length + i) ((M ++ (dg 256 n 8).take i).map (.int .u8)), blk LN [.int .i64 (ws.length : Int), .int .i64 (cs.length : Int)] 3]) (fun _ u32 _ => 8 - (intOf u32).toNat)
      case atStart => exact ⟨0, av, cv, rfl, rfl, by omega, s6⟩
      case round =>
        clear s6
        obtain ⟨i, av, cv, rfl, rfl, hi8, hs5⟩ := hrel
        by_cases hi4 : i < 8
        · have k1 : IntKind.i64.wrap (8 * (i : Int)) = 8 * (i : Int) := IntWalk.i64_in _ (by omega)
          have k2 : (8 * (i : Int)).toNat = 8 * i := by omega
          have k3 : 0 ≤ 8 * (i : Int) := by omega
          have hF : Hid ((M ++ (dg 256 n 8).take (i + 1)).map (Value.int .u8) = (M ++ (dg 256 n 8).take i).map (.int .u8) ++ [.int .u8 ((n : Int) / 2 ^ (8 * i) % 256)]) := by
            show _ = _
            rw [take_succ_gt (by rw [dg_len]; exact hi4), ← List.append_assoc, List.map_append]
            congr 2
            rw [dg_at _ _ hi4, pow8]; rfl
          have u1 := hs5.quiet (Only.alloc wr (.cells #[.int .u8 (IntKind.u8.wrap ((n : Int) / 2 ^ (8 * i)))] 5) [])
          have hs6 := src_one wr (.int .u8 (IntKind.u8.wrap ((n : Int) / 2 ^ (8 * i)))) 5
          have hown : (wr.alloc (.cells #[.int .u8 (IntKind.u8.wrap ((n : Int) / 2 ^ (8 * i)))] 5)).ownsRow 0 5 1 (.slice av (M.length + i) cv) (M.length + i) ((M ++ (dg 256 n 8).take i).map (.int .u8)) := u1.head
          go_wp2_with (at_builtin; refine wpList_append_src rfl _ _ 22 rfl 5 inf (.int .u8 0) 1 1 Try.underlying22 hi0 hz0 hz1 hz2 rfl (by decide) (.slice av (M.length + i) cv) (M.length + i) ((M ++ (dg 256 n 8).take i).map (.int .u8)) rfl hown _ 1 _ rfl hs6 (by simp [Value.oneCell']) (by unfold maxLen; omega) (by omega) ?_; intro v7 w7 g1 g2 g3; obtain ⟨a7, c7, rfl⟩ := own_slice g1)
          have u2 := u1.app g1 g2 g3
          clear g1 g2 g3 u1 hs6 hown
          have hwr : Hid (IntKind.u8.wrap ((n : Int) / 2 ^ (8 * i)) = (n : Int) / 2 ^ (8 * i) % 256) := by
            show _ = _
            simp [IntKind.wrap, IntKind.bits, IntKind.signed]
          rw [hwr.out, ← hF.out] at u2
          go_wp2_with fail
          exact ⟨⟨i + 1, a7, c7, rfl, by simp, by omega, u2⟩, by simp [intOf]; omega⟩
        · obtain rfl : i = 8 := by omega
          rw [show ((8 : Nat) : Int) = 8 from rfl]
          have e8 : leB B ws cs (j + 1) = M ++ (dg 256 n 8).take 8 := by rw [List.take_of_length_le (by rw [dg_len]; exact Nat.le_refl _)]; exact hlb.out
          have e9 : Hid ((leB B ws cs (j + 1)).length = M.length + 8) := by show _ = _; rw [hlb.out, List.length_append, dg_len]
          have u2 : Pw.Sep w wr [row 5 1 (.slice av (leB B ws cs (j + 1)).length cv) (leB B ws cs (j + 1)).length ((leB B ws cs (j + 1)).map (.int .u8)), blk LN [.int .i64 (ws.length : Int), .int .i64 (cs.length : Int)] 3] := by
            rw [e9.out, e8]; exact hs5
          clear hs5 e8
          go_wp2_with fail
          exact ⟨⟨j + 1, av, cv, by rw [e9.out], by simp, by omega, u2⟩, by simp [intOf]; omega⟩
    · obtain rfl : j = 2 := by omega
      rw [show ((2 : Nat) : Int) = 2 from rfl]
      rw [htB.out] at hs ⊢
      have hbb := Lib.hid (tagB_byt hwb hcb)
      have htl := tagB_len ws cs
      obtain ⟨M, hM⟩ : ∃ M, M = tagB ws cs := ⟨_, rfl⟩
      rw [← hM] at hs hbb htl ⊢
      have HM := Lib.hid hM
      clear hM htB
      go_wp2_with fail
      refine (block_any key nonce ks ns 0 wr (hs.src hk) hkb (hs.src hn) hnb (by unfold W32; omega)).mono ?_
      rintro e w5 hf
      obtain ⟨g, c, rfl, kc1, kc2, hsB⟩ := hf.row 64 (block_len _ _ _) (by decide)
      have s7 := hsB hs
      obtain ⟨ao', hsl1, hsl2⟩ := slice_to8 (some ⟨g, 0, none⟩) 64 c 32 (by decide) kc1
      have hsl1 : ∀ w, (Instr.sliceAt 22 (.slice (some ⟨g, 0, none⟩) 64 c) none (some (.int .i64 32)) none).run Try.prog w = .ok (.slice ao' 32 c) w := hsl1
      have hbl : ((blockL ks 0 ns).take 32).length = 32 := by rw [List.length_take, block_len]; rfl
      have hK : Pw.Src w5 (.slice ao' 32 c) 1 ((blockL ks 0 ns).take 32).length (((blockL ks 0 ns).take 32).map (Value.int .u8)) := by
        rw [hbl, List.map_take]
        exact hsl2 _ _ (own_src s7.head)
      have hMs : Pw.Src w5 (.slice av M.length cv) 1 M.length (M.map (.int .u8)) := own_src s7.tail.head
      have hK := Lib.hid hK
      have hMs := Lib.hid hMs
      have ho := Lib.hid s7.only
      clear hf hsB hs hsl2 s7 hbl
      go_wp2_with fail
      refine (tag_any _ _ ((blockL ks 0 ns).take 32) M w5 hK.out (fun x hx => block_byt _ _ _ x (List.mem_of_mem_take hx)) hMs.out hbb.out (by omega)).mono ?_
      rintro e w9 ⟨v, rfl, k1, k2, k3⟩
      have hfin : tagL ((blockL ks 0 ns).take 32) M = tagM ks ns ws cs := by rw [HM.out]; rfl
      rw [hfin] at k1
      have k1 := Lib.hid k1
      have k2 := Lib.hid k2
      have k3 := Lib.hid k3
      clear hfin
      go_wp2_with fail
      go_ret
      exact ⟨_, rfl, k1.out, k2.out.weaken ho.out.size, ho.out.trans k3.out⟩
end Go.Proofs.Ytemmdhfmdgpfmaa
