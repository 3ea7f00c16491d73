/- ModelOnce returns true for every two bytes and every text: a message comes to each of its devices once. No condition. -/
import Derived.Test.YtjhhlgfbocpniaaMoA
import Derived.Test.YtjhhlgfbocpniaaOpenS
import Derived.Test.YtjhhlgfbocpniaaSModelOnce
namespace Go.Proofs.Ytjhhlgfbocpniaa
open Go.RowKit Go.Pw
set_option linter.unusedVariables false

def allK (k : Nat) : List (Int × Int) := (List.range k).map fun j : Nat => ((1 : Int), (j : Int) + 1)
def onK (k : Nat) : List (Int × Int) := ((0 : Int), (1 : Int)) :: allK k
def csK (k : Nat) : List Int := [1, k, 0, 0, 0, 0, 0, 0]
theorem allK_len (k : Nat) : (allK k).length = k := by simp [allK]
theorem allK_succ (k : Nat) : allK k ++ [((1 : Int), (k : Int) + 1)] = allK (k + 1) := by simp [allK, List.range_succ]
theorem onK_succ (k : Nat) : onK k ++ [((1 : Int), (k : Int) + 1)] = onK (k + 1) := by simp [onK, ← allK_succ]
theorem csK_succ (k : Nat) : (csK k).set 1 ((k : Int) + 1) = csK (k + 1) := by simp [csK]
theorem onK_len (k : Nat) : (onK k).length = k + 1 := by simp [onK, allK_len]
theorem allK_at (k i : Nat) (h : i < (allK k).length) : (allK k)[i] = ((1 : Int), (i : Int) + 1) := by simp [allK]
theorem cmpW_up (u d u' d' : Int) (h : u' < u ∨ u = u' ∧ d' ≤ d) : 0 ≤ cmpW u d u' d' := by
  simp only [cmpW, orL, cmpI]
  repeat' split
  all_goals simp_all
  all_goals omega
theorem up_onK (k : Nat) : Up (onK k) := fun i hi => by
  have hi' : i < (allK k).length := by simpa [onK] using hi
  have e1 : (onK k)[i + 1] = ((1 : Int), (i : Int) + 1) := by
    show (allK k)[i] = _
    exact allK_at k i hi'
  rw [e1]
  cases i with
  | zero => exact cmpW_up _ _ _ _ (by simp [onK])
  | succ j =>
    have e2 : (onK k)[j + 1]'(by omega) = ((1 : Int), (j : Int) + 1) := by
      show (allK k)[j]'(by omega) = _
      exact allK_at k j (by omega)
    rw [e2]
    exact cmpW_up _ _ _ _ (by simp; omega)
theorem small (k : Nat) (h : k ≤ 4) : k = 0 ∨ k = 1 ∨ k = 2 ∨ k = 3 ∨ k = 4 := by omega
theorem few_onK (k : Nat) (h : k < 4) : ((onK k).filter fun p => p.1 == 1).length < 4 := by
  rcases small k (by omega) with rfl | rfl | rfl | rfl | rfl <;> first | decide | omega
theorem aud_onK (k : Nat) (h : k ≤ 4) : allK k = (onK k).filter (aud 0 1 1) := by
  rcases small k h with rfl | rfl | rfl | rfl | rfl <;> decide
theorem users_onK (k : Nat) (h : k ≤ 4) (h0 : 0 < k) : (onK k).filter (fun p => p.1 == 1) ≠ [] := by
  rcases small k h with rfl | rfl | rfl | rfl | rfl <;> first | decide | omega
theorem lack_K (k j : Nat) (h : k ≤ 4) (hj : j ≤ k) : ((allK k).filter (lack (onK k) (allK j))).length = k - j := by
  rcases small k h with rfl | rfl | rfl | rfl | rfl <;> rcases small j (by omega) with rfl | rfl | rfl | rfl | rfl <;> first | decide | omega
theorem has_allK (k i : Nat) : hasW (allK k) 1 ((i : Int) + 1) = decide (i < k) := by
  unfold hasW
  rw [decide_eq_decide]
  simp only [allK, List.mem_map, List.mem_range, Prod.mk.injEq, true_and]
  constructor
  · rintro ⟨a, ha, h⟩; omega
  · intro h; exact ⟨i, h, rfl⟩
theorem has_onK (k i : Nat) (h : i < k) : hasW (onK k) 1 ((i : Int) + 1) = true := by
  have := has_allK k i
  rw [decide_eq_true h] at this
  unfold hasW at *
  simp only [decide_eq_true_eq] at *
  exact List.mem_cons_of_mem _ this
theorem has_on0 (k : Nat) : hasW (onK k) 0 1 = true := by simp [hasW, onK]
theorem has_all0 (k : Nat) : hasW (allK k) 0 1 = false := by simp [hasW, allK]

theorem come_none_at {w0 : World} {rs : List Res} (B g k : Nat) (on all came : List (Int × Int)) (cs : List Int) (v : Value) (u d : Int) (x : No) (tv : Value) (xs : List Int) (w : World) (h : Sep w0 w (comeR B v on cs g k x all came xs rs)) (hc8 : cs.length = 8) (hl : on.length ≤ 1000) (hal : all.length ≤ 1000) (hcl : came.length ≤ 1000)
    (his : hasW on u d = true) (hiA : hasW all u d = false) (ht : Pw.Src w0 tv 1 xs.length (xs.map (Value.int .u8))) (fu fd to n : Int) (h1 : x.fu = fu) (h2 : x.fd = fd) (h3 : x.to = to) (h4 : x.n = n) :
    Calls Try.prog 10 #[.pointer (some ⟨B, 0, none⟩), .agg #[.int .i64 u, .int .i64 d], .agg #[.int .i64 fu, .int .i64 fd, .int .i64 to, .int .u32 n, tv]] w (fun e w' => e = .returned (.int .i64 2) ∧ Only w w' []) := by
  subst h1 h2 h3 h4
  exact come_none B g k on all came cs v u d x tv xs w h hc8 hl hal hcl his hiA ht
theorem come_used_at {w0 : World} {rs : List Res} (B g k : Nat) (on all came : List (Int × Int)) (cs : List Int) (v : Value) (u d : Int) (x : No) (tv : Value) (xs : List Int) (w : World) (h : Sep w0 w (comeR B v on cs g k x all came xs rs)) (hc8 : cs.length = 8) (hl : on.length ≤ 1000) (hal : all.length ≤ 1000) (hcl : came.length ≤ 1000)
    (his : hasW on u d = true) (hiA : hasW all u d = true) (hiC : hasW came u d = true) (ht : Pw.Src w0 tv 1 xs.length (xs.map (Value.int .u8))) (fu fd to n : Int) (h1 : x.fu = fu) (h2 : x.fd = fd) (h3 : x.to = to) (h4 : x.n = n) :
    Calls Try.prog 10 #[.pointer (some ⟨B, 0, none⟩), .agg #[.int .i64 u, .int .i64 d], .agg #[.int .i64 fu, .int .i64 fd, .int .i64 to, .int .u32 n, tv]] w (fun e w' => e = .returned (.int .i64 8) ∧ Only w w' []) := by
  subst h1 h2 h3 h4
  exact come_used B g k on all came cs v u d x tv xs w h hc8 hl hal hcl his hiA hiC ht
theorem come_ok_at {w0 : World} {rs : List Res} (B g k : Nat) (on all came : List (Int × Int)) (cs : List Int) (v : Value) (u d : Int) (x : No) (tv : Value) (xs : List Int) (w : World) (h : Sep w0 w (comeR B v on cs g k x all came xs rs)) (hc8 : cs.length = 8) (hl : on.length ≤ 1000) (hal : all.length ≤ 1000) (hcl : came.length ≤ 1000)
    (his : hasW on u d = true) (hiA : hasW all u d = true) (hiC : hasW came u d = false) (ht : Pw.Src w0 tv 1 xs.length (xs.map (Value.int .u8))) (fu fd to n : Int) (h1 : x.fu = fu) (h2 : x.fd = fd) (h3 : x.to = to) (h4 : x.n = n) :
    Calls Try.prog 10 #[.pointer (some ⟨B, 0, none⟩), .agg #[.int .i64 u, .int .i64 d], .agg #[.int .i64 fu, .int .i64 fd, .int .i64 to, .int .u32 n, tv]] w (Comes w0 rs B g k on cs v x all (came ++ [(u, d)]) xs) := by
  subst h1 h2 h3 h4
  exact come_ok B g k on all came cs v u d x tv xs w h hc8 hl hal hcl his hiA hiC ht

set_option maxRecDepth 100000 in
set_option maxHeartbeats 2000000 in
theorem once_walk (n m : Int) (hn : 0 ≤ n ∧ n < 256) (ao : Option Addr) (c : Nat) (xs : List Int) (w0 : World) (ht : Pw.Src w0 (.slice ao xs.length c) 1 xs.length (xs.map (Value.int .u8))) :
    Calls Try.prog 3 #[.int .u8 n, .int .u8 m, .slice ao xs.length c] w0 fun e w' => e = .returned (.bool true) ∧ Below w0.heap.size w0 w' := by
  obtain ⟨kk, hkk, hk4⟩ : ∃ kk : Nat, n % 4 = (kk : Int) ∧ kk < 4 := ⟨(n % 4).toNat, by omega, by omega⟩
  obtain ⟨k, hk⟩ : ∃ k : Nat, k = kk + 1 := ⟨_, rfl⟩
  have e1 : n.tmod 4 = (kk : Int) := by rw [Int.tmod_eq_emod_of_nonneg hn.1]; exact hkk
  have e3 : IntKind.i64.wrap n = n := by rw [IntKind.wrap_i64]; omega
  have E1 := Lib.hid e1
  have E3 := Lib.hid e3
  have E2 : Hid ((1 : Int) + (kk : Int) = (k : Int)) := by show _ = _; omega
  have hk5 : k ≤ 4 := by omega
  have hk0 : 0 < k := by omega
  clear hkk e1 e3 hk hn
  have h1c : ([.int .i64 0, .int .i64 1] : List Value).toArray.all (·.oneCell') = true := by simp [Value.oneCell']
  have hgc : ([.int .i64 0, .int .i64 1, .int .i64 1, .int .u32 1, .slice ao xs.length c] : List Value).toArray.all (·.oneCell') = true := by simp [Value.oneCell']
  go_enter Try.func3, Try.ntmps3
  go_wp2_with fail
  refine (awake_any _).mono ?_
  rintro e w ⟨rfl, oA⟩
  by_cases hlong : 256 < xs.length
  · have d1 : decide ((256 : Int) < (xs.length : Int)) = true := by simp; omega
    go_wp2_with fail
    refine (awake_any _).mono ?_
    rintro e w1 ⟨rfl, o1⟩
    go_wp2_with fail
    go_ret
    exact ⟨rfl, (oA.trans o1).below (Nat.le_refl _) (by simp)⟩
  · have d1 : decide ((256 : Int) < (xs.length : Int)) = false := by simp; omega
    have hT := Lib.hid (ht.off oA (fun _ _ _ => by simp))
    clear ht
    go_wp2_with fail
    clear d1
    refine (new_any _).mono ?_
    rintro e w1 ⟨rfl, s1⟩
    generalize w.heap.size = B at *
    go_wp2_with (first
      | (refine wpList_alloc_new rfl 27 rfl (.agg #[.int .i64 0, .int .i64 0]) (fun _ => by kernel_rfl) ?_; intro X wX oX hXl hX)
      | (refine wpList_store_blk rfl 27 _ _ rfl X [.int .i64 0, .int .i64 1] rfl rfl hX rfl (by kernel_rfl) h1c ?_; intro wY oY hY; have s2 := s1.add (b := blk X [.int .i64 0, .int .i64 1] 27) (oX.new oY (fun i hi => by simp only [List.mem_singleton] at hi; omega)) hY (fun k hk => by simp [blk] at hk; omega); have hx0 := cell_two0 hY; have hx1 := cell_two1 hY; clear s1 hX oX oY hY))
    have s3 : Sep w wY (modR B (.slice none 0 0) [] (List.replicate 8 0) (.slice none 0 0) [] [blk X [.int .i64 0, .int .i64 1] 27]) := s2.sel 4 [1, 2, 3, 0]
    refine (link_at B [] _ _ _ [] 0 0 0 1 _ s3 (by simp) (by simp) (by decide) rfl (by decide) rfl rfl (by simp) up_one).mono ?_
    rintro e w2 ⟨rfl, a2, c2, s4⟩
    have s5 : Sep w w2 (modR B (.slice a2 1 c2) (onK 0) (csK 0) (.slice none 0 0) [] [blk X [.int .i64 0, .int .i64 1] 27]) := s4
    have e1 := E1.out
    have e2 := E2.out
    have e3 := E3.out
    clear s2 s3 s4 hx0 hx1 hXl
    go_wp2_with fail
    clear e1 e2 e3
    go_loopw [10] (fun y wr => ∃ (j : Nat) (v : Value), y = .int .i64 j ∧ j ≤ k ∧ Pw.Sep w wr (modR B v (onK j) (csK j) (.slice none 0 0) [] [blk X [.int .i64 0, .int .i64 1] 27])) (fun y _ => k - (intOf y).toNat)
    case atStart => exact ⟨0, _, rfl, Nat.zero_le _, s5⟩
    case round =>
      clear s5
      obtain ⟨j, v, rfl, hj, st⟩ := hrel
      by_cases hlt : j < k
      · have d1 : decide ((j : Int) < (k : Int)) = true := by simpa using hlt
        go_wp2_with fail
        refine (link_at B (onK j) (csK j) v _ [] 1 (j : Int) 1 ((j : Int) + 1) _ st rfl (by rw [onK_len]; omega) (by decide) rfl (by omega) rfl rfl (few_onK j (by omega)) (by rw [onK_succ]; exact up_onK _)).mono ?_
        rintro e w3 ⟨rfl, a3, c3, s6⟩
        rw [onK_succ, csK_succ] at s6
        have S6 := Lib.hid s6
        clear st s6
        go_wp2_with fail
        exact ⟨⟨j + 1, _, by simp, by omega, S6.out⟩, by simp [intOf]; omega⟩
      · obtain rfl : j = k := by omega
        have d1 : decide ((j : Int) < (j : Int)) = false := by simp
        have hX : wr.heap[X]? = some (.cells #[.int .i64 0, .int .i64 1] 27 (0, 0)) := (st.sel 4 [3]).head
        have hx0 := cell_two0 hX
        have hx1 := cell_two1 hX
        clear hX hlt
        go_wp2_with fail
        refine (send_ok B (onK j) (csK j) v _ 0 1 1 _ xs _ st rfl (by rw [onK_len]; omega) (has_on0 j) (by decide) (st.src hT.out) (by omega)).mono ?_
        rintro e w4 ⟨rfl, a4, c4, g, q, x, x1, x2, x3, x4, x5, x6, x7, x8, x9, s8⟩
        have hX : w4.heap[X]? = some (.cells #[.int .i64 0, .int .i64 1] 27 (0, 0)) := (s8.sel 5 [4]).head
        clear hx0 hx1 st
        have hx0 := cell_two0 hX
        have hx1 := cell_two1 hX
        have X1 := Lib.hid x1
        have X2 := Lib.hid x2
        have X3 := Lib.hid x3
        have X4 := Lib.hid x4
        have X5 := Lib.hid x5
        have X6 := Lib.hid x6
        have X7 := Lib.hid x7
        have X9 := Lib.hid x9
        clear hX x1 x2 x3 x4 x5 x6 x7 x8 x9
        go_wp2_with fail
        refine (take_ok B g q (onK j) (allK j) (csK j) _ 0 1 1 x _ s8 rfl (by rw [onK_len]; omega) X1.out X2.out X3.out X6.out X7.out (has_on0 j) (by rw [X4.out]; exact aud_onK j hk5) (by intro e; have := congrArg List.length e; rw [allK_len] at this; simp at this; omega) (by rw [X4.out]; exact users_onK j hk5 hk0)).mono ?_
        rintro e w5 ⟨a5, c5, a6, c6, rfl, y, y1, y2, y3, y4, y5, y6, y7, y8, y9, s9⟩
        have hX : w5.heap[X]? = some (.cells #[.int .i64 0, .int .i64 1] 27 (0, 0)) := (s9.sel 7 [6]).head
        have Y1 := Lib.hid (y1.trans X1.out)
        have Y2 := Lib.hid (y2.trans X2.out)
        have Y3 := Lib.hid (y3.trans X3.out)
        have Y4 := Lib.hid (y4.trans X4.out)
        have Y6 := Lib.hid y6
        have Y9 := Lib.hid (y9.trans X9.out)
        have Y5 := Lib.hid (y5.trans X5.out)
        have hal := allK_len j
        simp only [hal] at s9 y8 ⊢
        have Y8 := Lib.hid y8
        obtain ⟨gl, rfl, _⟩ := own_some (show w5.ownsRow 0 27 2 (.slice a6 j c6) j (fl wc (allK j)) from (s9.sel 5 [4]).head) hk0
        clear hx0 hx1 s8 hal
        have hx0 := cell_two0 hX
        have hx1 := cell_two1 hX
        have s10 : Pw.Sep w w5 (comeR B v (onK j) (csK j) g q y (allK j) (allK 0) xs (row 27 2 (.slice (some ⟨gl, 0, none⟩) j c6) j (fl wc (allK j)) :: blk X [.int .i64 0, .int .i64 1] 27 :: [])) := by
          unfold comeR
          rw [Y8.out, Y9.out, Y5.out, allK_len]
          exact (s9.rown 27 2).sel 8 [1, 2, 3, 4, 0, 6, 5, 7]
        clear y1 y2 y3 y4 y5 y6 y7 y8 y9 s9 hX
        go_wp2_with (first
          | (refine wpList_alloc_new rfl 36 rfl (.agg #[.int .i64 0, .int .i64 0, .int .i64 0, .int .u32 0, .slice none 0 0]) (fun _ => by kernel_rfl) ?_; intro G wG oG hGl hG)
          | (refine wpList_store_blk rfl 36 _ _ rfl G [.int .i64 0, .int .i64 1, .int .i64 1, .int .u32 1, .slice ao xs.length c] rfl rfl hG rfl (by kernel_rfl) hgc ?_; intro wH oH hH; have s11 := s10.add (b := blk G [.int .i64 0, .int .i64 1, .int .i64 1, .int .u32 1, .slice ao xs.length c] 36) (oG.new oH (fun i hi => by simp only [List.mem_singleton] at hi; omega)) hH (fun k hk => by simp [blk] at hk; omega); clear s10 hG oG oH hH hx0 hx1))
        have s12 : Pw.Sep w wH (comeR B v (onK j) (csK j) g q y (allK j) (allK 0) xs (blk G [.int .i64 0, .int .i64 1, .int .i64 1, .int .u32 1, .slice ao xs.length c] 36 :: row 27 2 (.slice (some ⟨gl, 0, none⟩) j c6) j (fl wc (allK j)) :: blk X [.int .i64 0, .int .i64 1] 27 :: [])) := s11.sel 9 [1, 2, 3, 4, 5, 6, 0, 7, 8]
        clear s11 hGl
        go_loopw [14] (fun z wr => ∃ (i : Nat) (y : No), z = .int .i64 i ∧ i ≤ j ∧ Hid (y.fu = 0 ∧ y.fd = 1 ∧ y.n = 1 ∧ y.to = 1 ∧ y.tk = true) ∧ Pw.Sep w wr (comeR B v (onK j) (csK j) g q y (allK j) (allK i) xs (blk G [.int .i64 0, .int .i64 1, .int .i64 1, .int .u32 1, .slice ao xs.length c] 36 :: row 27 2 (.slice (some ⟨gl, 0, none⟩) j c6) j (fl wc (allK j)) :: blk X [.int .i64 0, .int .i64 1] 27 :: []))) (fun z _ => j - (intOf z).toNat)
        case atStart => exact ⟨0, y, rfl, Nat.zero_le _, ⟨Y1.out, Y2.out, Y3.out, Y4.out, Y6.out⟩, s12⟩
        case round =>
          clear s12 X1 X2 X3 X4 X5 X6 X7 X9 Y1 Y2 Y3 Y4 Y5 Y6 Y8 Y9
          obtain ⟨i, z, rfl, hi, hz, st⟩ := hrel
          have hL := fun (w' : World) (st' : Pw.Sep w w' (comeR B v (onK j) (csK j) g q z (allK j) (allK i) xs (blk G [.int .i64 0, .int .i64 1, .int .i64 1, .int .u32 1, .slice ao xs.length c] 36 :: row 27 2 (.slice (some ⟨gl, 0, none⟩) j c6) j (fl wc (allK j)) :: blk X [.int .i64 0, .int .i64 1] 27 :: []))) => lacking_one B (onK j) (allK j) (allK i) (csK j) _ _ z w' st' rfl (by rw [onK_len]; omega) (by rw [allK_len]; omega) (by rw [allK_len]; omega)
          rw [lack_K j i hk5 hi, show ((j - i : Nat) : Int) = (j : Int) - (i : Int) by omega] at hL
          by_cases hlt : i < j
          · have d1 : decide ((i : Int) < (j : Int)) = true := by simpa using hlt
            go_upto_region 19 with fail
            have sD := st.quiet (Only.drew wr [])
            have hSq : ∀ w', Only wr.drew w' [] → (w'.ownsRow 0 27 2 (.slice (some ⟨gl, 0, none⟩) (allK j).length c6) (allK j).length (fl wc (allK j)) ∧ w'.heap[G]? = some (.cells ([.int .i64 0, .int .i64 1, .int .i64 1, .int .u32 1, .slice ao xs.length c] : List Value).toArray 36 (0, 0))) := fun w' o => by
              rw [allK_len]
              exact ⟨((sD.quiet o).sel 8 [7]).head, ((sD.quiet o).sel 7 [6]).head⟩
            have hll := hL wr.drew sD
            have HW : Hid (IntKind.i64.wrap ((j : Int) - (i : Int)) = (j : Int) - (i : Int)) := by show _ = _; rw [IntKind.wrap_i64]; omega
            have Hat := Lib.hid (allK_at j i (by rw [allK_len]; exact hlt))
            clear st hL
            refine wp_region_held_drew (S := fun w' => (w'.ownsRow 0 27 2 (.slice (some ⟨gl, 0, none⟩) (allK j).length c6) (allK j).length (fl wc (allK j)) ∧ w'.heap[G]? = some (.cells ([.int .i64 0, .int .i64 1, .int .i64 1, .int .u32 1, .slice ao xs.length c] : List Value).toArray 36 (0, 0)))) (by kernel_rfl) (hSq _ (Only.refl _ _)) (fun hHeld => ?_)
            refine' wpAnyH_take (i := 0) (v := _) (op_at rfl) (by kernel_rfl) (by kernel_rfl) (by kernel_rfl) (fun _ _ _ h => h) (Or.inl ⟨by rfl, ?hy1⟩) (by assumption) ?rest1
            case hy1 =>
              intro w' hS
              go_simp
              try with_reducible rfl
            try simp only [Act.put, List.setIfInBounds_toArray, List.set_cons_zero, List.set_cons_succ]
            refine' wpAnyH_take (i := 2) (v := _) (op_at rfl) (by kernel_rfl) (by kernel_rfl) (by kernel_rfl) (fun _ _ _ h => h) (Or.inl ⟨by rfl, ?hy2⟩) (by assumption) ?rest2
            case hy2 =>
              intro w' hS
              go_simp
              try with_reducible rfl
            try simp only [Act.put, List.setIfInBounds_toArray, List.set_cons_zero, List.set_cons_succ]
            refine' wpAnyH_take (i := 3) (v := _) (op_at rfl) (by kernel_rfl) (by kernel_rfl) (by kernel_rfl) (fun _ _ _ h => h) (Or.inl ⟨by rfl, ?hy3⟩) (by assumption) ?rest3
            case hy3 =>
              intro w' hS
              go_simp
              try with_reducible rfl
            try simp only [Act.put, List.setIfInBounds_toArray, List.set_cons_zero, List.set_cons_succ]
            refine' wpAnyH_take (i := 4) (v := _) (op_at rfl) (by kernel_rfl) (by kernel_rfl) (by kernel_rfl) (fun _ _ _ h => h) (Or.inl ⟨by rfl, ?hy4⟩) (by assumption) ?rest4
            case hy4 =>
              intro w' hS
              have hw_ := HW.out
              go_simp
              try with_reducible rfl
            try simp only [Act.put, List.setIfInBounds_toArray, List.set_cons_zero, List.set_cons_succ]
            refine wpAnyH_ready (rs := [1]) (by kernel_rfl) (by simp) (AllReadyH.cons (op_at rfl) (fun K hK => ?_) AllReadyH.nil)
            go_simp
            refine hll.mono fun e w6 hq => ?_
            obtain ⟨rfl, o6⟩ := hq
            go_wp2_with fail
            refine hK.out _ _ (hSq _ o6) (fun hHeld => ?_)
            clear hK K
            try simp only [Act.put, List.setIfInBounds_toArray, List.set_cons_zero, List.set_cons_succ]
            refine' wpAnyH_take (i := 5) (v := _) (op_at rfl) (by kernel_rfl) (by kernel_rfl) (by kernel_rfl) (fun _ _ _ h => h) (Or.inl ⟨by rfl, ?hy5⟩) (by assumption) ?rest5
            case hy5 =>
              intro w' hS
              have hw_ := HW.out
              go_simp
              try with_reducible rfl
            try simp only [Act.put, List.setIfInBounds_toArray, List.set_cons_zero, List.set_cons_succ]
            refine' wpAnyH_take (i := 6) (v := _) (op_at rfl) (by kernel_rfl) (by kernel_rfl) (by kernel_rfl) (fun _ _ _ h => h) (Or.inl ⟨by rfl, ?hy6⟩) (by assumption) ?rest6
            case hy6 =>
              intro w' hS
              go_simp
              try with_reducible rfl
            try simp only [Act.put, List.setIfInBounds_toArray, List.set_cons_zero, List.set_cons_succ]
            refine' wpAnyH_take (i := 7) (v := _) (op_at rfl) (by kernel_rfl) (by kernel_rfl) (by kernel_rfl) (fun _ _ _ h => h) (Or.inl ⟨by rfl, ?hy7⟩) (by assumption) ?rest7
            case hy7 =>
              intro w' hS
              go_simp
              try with_reducible rfl
            try simp only [Act.put, List.setIfInBounds_toArray, List.set_cons_zero, List.set_cons_succ]
            refine' wpAnyH_take (i := 8) (v := _) (op_at rfl) (by kernel_rfl) (by kernel_rfl) (by kernel_rfl) (fun _ _ _ h => h) (Or.inl ⟨by rfl, ?hy8⟩) (by assumption) ?rest8
            case hy8 =>
              intro w' hS
              go_simp
              try with_reducible rfl
            try simp only [Act.put, List.setIfInBounds_toArray, List.set_cons_zero, List.set_cons_succ]
            refine' wpAnyH_take (i := 9) (v := _) (op_at rfl) (by kernel_rfl) (by kernel_rfl) (by kernel_rfl) (fun _ _ _ h => h) (Or.inl ⟨by rfl, ?hy9⟩) (by assumption) ?rest9
            case hy9 =>
              intro w' hS
              go_simp
              try with_reducible rfl
            try simp only [Act.put, List.setIfInBounds_toArray, List.set_cons_zero, List.set_cons_succ]
            refine' wpAnyH_take (i := 10) (v := _) (op_at rfl) (by kernel_rfl) (by kernel_rfl) (by kernel_rfl) (fun _ _ _ h => h) (Or.inl ⟨by rfl, ?hy10⟩) (by assumption) ?rest10
            case hy10 =>
              intro w' hS
              go_simp
              try with_reducible rfl
            try simp only [Act.put, List.setIfInBounds_toArray, List.set_cons_zero, List.set_cons_succ]
            refine wpAnyH_take (i := 11) (op_at rfl) (by kernel_rfl) (by kernel_rfl) (by kernel_rfl) (fun _ _ _ h => h) (yieldsIf_load_mid (by rfl) _ _ rfl gl (i * 2) rfl (wc ((1 : Int), (i : Int) + 1)) _ (fun w' hS => by have := rec_range wc_len hS.1 (m := i) (by rw [allK_len]; exact hlt); rw [Hat.out] at this; exact this) Try.underlying27 (by rfl) (by rfl)) (by assumption) ?_
            try simp only [Act.put, List.setIfInBounds_toArray, List.set_cons_zero, List.set_cons_succ]
            refine wpAnyH_take (i := 12) (op_at rfl) (by kernel_rfl) (by kernel_rfl) (by kernel_rfl) (fun _ _ _ h => h) (yieldsIf_load_mid (by rfl) _ _ rfl G 0 rfl [.int .i64 0, .int .i64 1, .int .i64 1, .int .u32 1, .slice ao xs.length c] _ (fun w' hS => block_range hS.2) Try.underlying36 (by rfl) (by rfl)) (by assumption) ?_
            try simp only [Act.put, List.setIfInBounds_toArray, List.set_cons_zero, List.set_cons_succ]
            refine wpAnyH_ready (rs := [13]) (by kernel_rfl) (by simp) (AllReadyH.cons (op_at rfl) (fun K hK => ?_) AllReadyH.nil)
            go_simp
            refine (come_ok_at B g q (onK j) (allK j) (allK i) (csK j) v 1 ((i : Int) + 1) z _ xs _ (sD.quiet o6) rfl (by rw [onK_len]; omega) (by rw [allK_len]; omega) (by rw [allK_len]; omega) (has_onK j i hlt) (by rw [has_allK]; simpa using hlt) (by rw [has_allK]; simp) hT.out 0 1 1 1 hz.out.1 hz.out.2.1 hz.out.2.2.2.1 hz.out.2.2.1).mono fun e w7 hq => ?_
            obtain ⟨rfl, z', z1, z2, z3, z4, z5, z6, s7⟩ := hq
            rw [allK_succ] at s7
            have hSr : ∀ w', Only w7 w' [] → (w'.ownsRow 0 27 2 (.slice (some ⟨gl, 0, none⟩) (allK j).length c6) (allK j).length (fl wc (allK j)) ∧ w'.heap[G]? = some (.cells ([.int .i64 0, .int .i64 1, .int .i64 1, .int .u32 1, .slice ao xs.length c] : List Value).toArray 36 (0, 0))) := fun w' o => by
              rw [allK_len]
              exact ⟨((s7.quiet o).sel 8 [7]).head, ((s7.quiet o).sel 7 [6]).head⟩
            go_wp2_with fail
            refine hK.out _ _ (hSr _ (Only.refl _ _)) (fun hHeld => ?_)
            clear hK K
            try simp only [Act.put, List.setIfInBounds_toArray, List.set_cons_zero, List.set_cons_succ]
            refine' wpAnyH_take (i := 14) (v := _) (op_at rfl) (by kernel_rfl) (by kernel_rfl) (by kernel_rfl) (fun _ _ _ h => h) (Or.inl ⟨by rfl, ?hy13⟩) (by assumption) ?rest13
            case hy13 =>
              intro w' hS
              go_simp
              try with_reducible rfl
            try simp only [Act.put, List.setIfInBounds_toArray, List.set_cons_zero, List.set_cons_succ]
            refine' wpAnyH_take (i := 15) (v := _) (op_at rfl) (by kernel_rfl) (by kernel_rfl) (by kernel_rfl) (fun _ _ _ h => h) (Or.inl ⟨by rfl, ?hy14⟩) (by assumption) ?rest14
            case hy14 =>
              intro w' hS
              go_simp
              try with_reducible rfl
            try simp only [Act.put, List.setIfInBounds_toArray, List.set_cons_zero, List.set_cons_succ]
            refine' wpAnyH_take (i := 16) (v := _) (op_at rfl) (by kernel_rfl) (by kernel_rfl) (by kernel_rfl) (fun _ _ _ h => h) (Or.inl ⟨by rfl, ?hy15⟩) (by assumption) ?rest15
            case hy15 =>
              intro w' hS
              go_simp
              try with_reducible rfl
            try simp only [Act.put, List.setIfInBounds_toArray, List.set_cons_zero, List.set_cons_succ]
            refine' wpAnyH_take (i := 17) (v := _) (op_at rfl) (by kernel_rfl) (by kernel_rfl) (by kernel_rfl) (fun _ _ _ h => h) (Or.inl ⟨by rfl, ?hy16⟩) (by assumption) ?rest16
            case hy16 =>
              intro w' hS
              go_simp
              try with_reducible rfl
            try simp only [Act.put, List.setIfInBounds_toArray, List.set_cons_zero, List.set_cons_succ]
            refine' wpAnyH_take (i := 18) (v := _) (op_at rfl) (by kernel_rfl) (by kernel_rfl) (by kernel_rfl) (fun _ _ _ h => h) (Or.inl ⟨by rfl, ?hy17⟩) (by assumption) ?rest17
            case hy17 =>
              intro w' hS
              go_simp
              try with_reducible rfl
            try simp only [Act.put, List.setIfInBounds_toArray, List.set_cons_zero, List.set_cons_succ]
            refine' wpAnyH_take (i := 19) (v := _) (op_at rfl) (by kernel_rfl) (by kernel_rfl) (by kernel_rfl) (fun _ _ _ h => h) (Or.inl ⟨by rfl, ?hy18⟩) (by assumption) ?rest18
            case hy18 =>
              intro w' hS
              go_simp
              try with_reducible rfl
            try simp only [Act.put, List.setIfInBounds_toArray, List.set_cons_zero, List.set_cons_succ]
            refine' wpAnyH_take (i := 20) (v := _) (op_at rfl) (by kernel_rfl) (by kernel_rfl) (by kernel_rfl) (fun _ _ _ h => h) (Or.inl ⟨by rfl, ?hy19⟩) (by assumption) ?rest19
            case hy19 =>
              intro w' hS
              go_simp
              try with_reducible rfl
            try simp only [Act.put, List.setIfInBounds_toArray, List.set_cons_zero, List.set_cons_succ]
            refine wpAnyH_take (i := 21) (op_at rfl) (by kernel_rfl) (by kernel_rfl) (by kernel_rfl) (fun _ _ _ h => h) (yieldsIf_load_mid (by rfl) _ _ rfl gl (i * 2) rfl (wc ((1 : Int), (i : Int) + 1)) _ (fun w' hS => by have := rec_range wc_len hS.1 (m := i) (by rw [allK_len]; exact hlt); rw [Hat.out] at this; exact this) Try.underlying27 (by rfl) (by rfl)) (by assumption) ?_
            try simp only [Act.put, List.setIfInBounds_toArray, List.set_cons_zero, List.set_cons_succ]
            refine wpAnyH_take (i := 22) (op_at rfl) (by kernel_rfl) (by kernel_rfl) (by kernel_rfl) (fun _ _ _ h => h) (yieldsIf_load_mid (by rfl) _ _ rfl G 0 rfl [.int .i64 0, .int .i64 1, .int .i64 1, .int .u32 1, .slice ao xs.length c] _ (fun w' hS => block_range hS.2) Try.underlying36 (by rfl) (by rfl)) (by assumption) ?_
            try simp only [Act.put, List.setIfInBounds_toArray, List.set_cons_zero, List.set_cons_succ]
            refine wpAnyH_ready (rs := [23]) (by kernel_rfl) (by simp) (AllReadyH.cons (op_at rfl) (fun K hK => ?_) AllReadyH.nil)
            go_simp
            refine (come_used_at B g q (onK j) (allK j) (allK (i + 1)) (csK j) v 1 ((i : Int) + 1) z' _ xs _ s7 rfl (by rw [onK_len]; omega) (by rw [allK_len]; omega) (by rw [allK_len]; omega) (has_onK j i hlt) (by rw [has_allK]; simpa using hlt) (by rw [has_allK]; simp) hT.out 0 1 1 1 (z1.trans hz.out.1) (z2.trans hz.out.2.1) (z4.trans hz.out.2.2.2.1) (z3.trans hz.out.2.2.1)).mono fun e w8 hq => ?_
            obtain ⟨rfl, o8⟩ := hq
            go_wp2_with fail
            refine hK.out _ _ (hSr _ o8) (fun hHeld => ?_)
            clear hK K
            try simp only [Act.put, List.setIfInBounds_toArray, List.set_cons_zero, List.set_cons_succ]
            refine' wpAnyH_take (i := 24) (v := _) (op_at rfl) (by kernel_rfl) (by kernel_rfl) (by kernel_rfl) (fun _ _ _ h => h) (Or.inl ⟨by rfl, ?hy22⟩) (by assumption) ?rest22
            case hy22 =>
              intro w' hS
              go_simp
              try with_reducible rfl
            try simp only [Act.put, List.setIfInBounds_toArray, List.set_cons_zero, List.set_cons_succ]
            refine' wpAnyH_take (i := 25) (v := _) (op_at rfl) (by kernel_rfl) (by kernel_rfl) (by kernel_rfl) (fun _ _ _ h => h) (Or.inl ⟨by rfl, ?hy23⟩) (by assumption) ?rest23
            case hy23 =>
              intro w' hS
              go_simp
              try with_reducible rfl
            try simp only [Act.put, List.setIfInBounds_toArray, List.set_cons_zero, List.set_cons_succ]
            refine wpAnyH_done (by kernel_rfl) ?_ _
            have S8 : Hid (Pw.Sep w w8 (comeR B v (onK j) (csK j) g q z' (allK j) (allK (i + 1)) xs (blk G [.int .i64 0, .int .i64 1, .int .i64 1, .int .u32 1, .slice ao xs.length c] 36 :: row 27 2 (.slice (some ⟨gl, 0, none⟩) j c6) j (fl wc (allK j)) :: blk X [.int .i64 0, .int .i64 1] 27 :: []))) := s7.quiet o8
            have HZ : Hid (z'.fu = 0 ∧ z'.fd = 1 ∧ z'.n = 1 ∧ z'.to = 1 ∧ z'.tk = true) := ⟨z1.trans hz.out.1, z2.trans hz.out.2.1, z3.trans hz.out.2.2.1, z4.trans hz.out.2.2.2.1, z5.trans hz.out.2.2.2.2⟩
            clear s7 o8 sD hSq hll z1 z2 z3 z4 z5 hHeld
            go_wp2_with fail
            exact ⟨⟨i + 1, z', by simp, by omega, HZ.out, S8.out⟩, by simp [intOf]; omega⟩
          · obtain rfl : i = j := by omega
            have d1 : decide ((i : Int) < (i : Int)) = false := by simp
            have hll := hL wr st
            rw [show (i : Int) - (i : Int) = 0 by omega] at hll
            clear hL
            go_wp2_with fail
            refine hll.mono ?_
            rintro e w6 ⟨rfl, o6⟩
            have s6 := st.quiet o6
            have hX : w6.heap[X]? = some (.cells #[.int .i64 0, .int .i64 1] 27 (0, 0)) := (s6.sel 9 [8]).head
            have hG : w6.heap[G]? = some (.cells #[.int .i64 0, .int .i64 1, .int .i64 1, .int .u32 1, .slice ao xs.length c] 36 (0, 0)) := (s6.sel 7 [6]).head
            have hx0 := cell_two0 hX
            have hx1 := cell_two1 hX
            clear hll st o6 hX
            have g0 : w6.cell? ⟨G, 0, none⟩ = some (.int .i64 0) := cell_in hG 0
            have g1 : w6.cell? ⟨G, 1, none⟩ = some (.int .i64 1) := cell_in hG 1
            have g2 : w6.cell? ⟨G, 2, none⟩ = some (.int .i64 1) := cell_in hG 2
            have g3 : w6.cell? ⟨G, 3, none⟩ = some (.int .u32 1) := cell_in hG 3
            have g4 : w6.cell? ⟨G, 4, none⟩ = some (.slice ao xs.length c) := cell_in hG 4
            clear hG
            go_wp2_with fail
            refine (come_none_at B g q (onK i) (allK i) (allK i) (csK i) v 0 1 z _ xs _ s6 rfl (by rw [onK_len]; omega) (by rw [allK_len]; omega) (by rw [allK_len]; omega) (has_on0 i) (has_all0 i) hT.out 0 1 1 1 hz.out.1 hz.out.2.1 hz.out.2.2.2.1 hz.out.2.2.1).mono ?_
            rintro e w7 ⟨rfl, o7⟩
            have s7 := s6.quiet o7
            have hX : w7.heap[X]? = some (.cells #[.int .i64 0, .int .i64 1] 27 (0, 0)) := (s7.sel 9 [8]).head
            clear g0 g1 g2 g3 g4 hx0 hx1 s6
            have hx0 := cell_two0 hX
            have hx1 := cell_two1 hX
            clear hX
            go_wp2_with fail
            refine (lose_used B g q (onK i) (csK i) v 0 1 1 z _ s7 rfl hz.out.1 hz.out.2.1 hz.out.2.2.1 hz.out.2.2.2.2).mono ?_
            rintro e w8 ⟨rfl, o8⟩
            have oF := (oA.trans s7.only).trans o8
            clear hx0 hx1 s7
            go_wp2_with fail
            go_ret
            exact ⟨rfl, oF.below (Nat.le_refl _) (by simp)⟩
set_option maxRecDepth 100000 in
theorem modelOnce_holds : Rows.ModelOnceSaid := modelOnce.said fun H enc base W v0 v1 v2 d0 p0 d1 p1 d2 p2 h0 t0 h1 t1 h2 t2 => by
  obtain ⟨n, rfl, _, _, hn⟩ := Go.ChangeShapes.open_int Try.underlying5 h0 t0
  obtain ⟨m, rfl, _, _, hm⟩ := Go.ChangeShapes.open_int Try.underlying5 h1 t1
  obtain ⟨ao, c, xs, rfl, hs, hb⟩ := open_bytes Try.underlying22 Try.underlying5 (by kernel_rfl) h2 t2
  exact once_walk n m (u8_wf hn) ao c xs W hs
end Go.Proofs.Ytjhhlgfbocpniaa
