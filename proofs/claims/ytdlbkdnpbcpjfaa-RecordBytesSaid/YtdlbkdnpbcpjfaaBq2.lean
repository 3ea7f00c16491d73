/- Queue.Put of a session of another name. Printed by gen_bq2.py. -/
import Derived.Test.YtdlbkdnpbcpjfaaBq
import Derived.Test.YtdlbkdnpbcpjfaaPk
set_option linter.unusedSimpArgs false
set_option linter.unusedVariables false
namespace Go.Proofs.Ytdlbkdnpbcpjfaa
open Go.RowKit Go.Pw
set_option linter.unusedVariables false

/-- A session's name, as a resource. -/
def idR (p : Nat × Int) : Res := cst p.1 5 (0, 0) [.int .u8 p.2]
theorem ids_of {w : World} {ss : List (Nat × Int)} (h : (many (ss.map idR)).ok w) {p : Nat × Int} (hp : p ∈ ss) : Pw.Src w (.slice (some ⟨p.1, 0, none⟩) 1 1) 1 ([p.2] : List Int).length (([p.2] : List Int).map (Value.int .u8)) :=
  cst_src (many_ok h (List.mem_map.2 ⟨p, hp, rfl⟩))

set_option maxRecDepth 100000 in
set_option maxHeartbeats 1600000 in
theorem qput_any {w0 : World} {rs : List Res} (Q I : Nat) (v : Value) (ss : List (Nat × Int)) (x : Int) (w : World) (h : Sep w0 w (row 97 18 v ss.length (fl sc ss) :: blk Q [v] 74 :: many (ss.map idR) :: idR (I, x) :: rs)) (hl : ss.length ≤ 4) (hx : 0 ≤ x ∧ x < 256) (hs : ∀ p ∈ ss, (0 ≤ p.2 ∧ p.2 < 256) ∧ p.2 ≠ x) :
    Calls Try.prog 40 #[.pointer (some ⟨Q, 0, none⟩), .agg (sc (I, x)).toArray] w fun e w' => e = .returned (.tuple #[]) ∧ ∃ v', Sep w0 w' (row 97 18 v' (min (ss.length + 1) 4) (fl sc (((I, x) :: ss).take 4)) :: blk Q [v'] 74 :: many ((((I, x) :: ss).take 4).map idR) :: rs) := by
  obtain ⟨ao, c, rfl⟩ := own_slice (show w.ownsRow 0 _ 18 v ss.length (fl sc ss) from h.head)
  obtain ⟨i1, ji, jz0, jz1, jz2⟩ := info_parts inss_info
  have hll := sc_len (I, x)
  have hone := sc_one (I, x)
  have h0 : (sc (I, x)).toArray[0]? = some (.slice (some ⟨I, 0, none⟩) 1 1) := rfl
  have efl : fl sc ((I, x) :: ss) = sc (I, x) ++ fl sc ss := rfl
  have hxl : (fl sc ss).length = ss.length * 18 := fl_len sc_len ss
  generalize sc (I, x) = cs at *
  obtain ⟨vv, hvv⟩ : ∃ vv : Value, vv = .slice ao ss.length c := ⟨_, rfl⟩
  go_enter Try.func40, Try.ntmps40
  go_wp2_with (refine wpList_box_new rfl 97 _ rfl (.agg cs.toArray) rfl ?_; intro Z wA oZ hZl hZ; have hz0 := (cell_in hZ 0).trans h0)
  have sB : Sep w0 wA (row 97 18 (.slice ao ss.length c) ss.length (fl sc ss) :: blk Q [.slice ao ss.length c] 74 :: blk Z cs 97 :: many (ss.map idR) :: idR (I, x) :: rs) := (h.add (b := blk Z cs 97) oZ hZ (fun k hk => by simp [blk] at hk; omega)).sel 3 [1, 2, 0]
  clear h
  refine (qfind_none Q I _ ss x wA (show wA.heap[Q]? = _ from (sB.sel 2 [1]).head) sB.head (by omega) (fun p hp => ⟨ids_of (show (many (ss.map idR)).ok wA from (sB.sel 4 [3]).head) hp, hs p hp⟩) (cst_src (show (idR (I, x)).ok wA from (sB.sel 5 [4]).head)) hx).mono ?_
  rintro e w1 ⟨rfl, o1⟩
  have s1 := sB.quiet o1
  clear sB o1 hz0 hZ hs hx h0 hZl oZ
  go_upto_region 5 with fail
  rw [← hvv] at s1
  clear hvv
  have hQ : w1.heap[Q]? = some (.cells #[vv] 74 (0, 0)) := (s1.sel 2 [1]).head
  have hZb : w1.heap[Z]? = some (.cells cs.toArray 97 (0, 0)) := (s1.sel 3 [2]).head
  have hQg : Q ∉ vv.ownBlock.toList := fun hk => s1.two_at (i := 0) (j := 1) rfl rfl (by decide) Q hk (by simp [blk])
  have hZg : Z ∉ vv.ownBlock.toList := fun hk => s1.two_at (i := 0) (j := 2) rfl rfl (by decide) Z hk (by simp [blk])
  have sD : Sep w0 w1.drew (row 97 18 vv ss.length (fl sc ss) :: blk Q [vv] 74 :: many (ss.map idR) :: idR (I, x) :: rs) := ((s1.sel 3 [0, 1]).quiet (Only.drew w1 []))
  clear s1
  refine wp_region_t (S := fun w' => Only w1.drew w' vv.ownBlock.toList) 10 (by kernel_rfl) (by kernel_rfl) (Only.refl _ _) (fun hZ hHeld => ?_)
  refine' wpAnyT_take (i := 0) (v := _) hZ (op_at' rfl) (by rfl) (by kernel_rfl) (by kernel_rfl) (by kernel_rfl) (by kernel_rfl) (fun _ _ _ h => h) (Or.inl ⟨by rfl, ?hy1⟩) (by assumption) ?rest1
  case hy1 =>
    intro w' hS
    go_simp
    try with_reducible rfl
  try simp only [Act.put, List.setIfInBounds_toArray, List.set_cons_zero, List.set_cons_succ]
  refine' wpAnyT_take (i := 1) (v := _) hZ (op_at' rfl) (by rfl) (by kernel_rfl) (by kernel_rfl) (by kernel_rfl) (by kernel_rfl) (fun _ _ _ h => h) (Or.inl ⟨by rfl, ?hy2⟩) (by assumption) ?rest2
  case hy2 =>
    intro w' hS
    go_simp
    try with_reducible rfl
  try simp only [Act.put, List.setIfInBounds_toArray, List.set_cons_zero, List.set_cons_succ]
  refine' wpAnyT_take (i := 2) (v := _) hZ (op_at' rfl) (by rfl) (by kernel_rfl) (by kernel_rfl) (by kernel_rfl) (by kernel_rfl) (fun _ _ _ h => h) (Or.inl ⟨by rfl, ?hy3⟩) (by assumption) ?rest3
  case hy3 =>
    intro w' hS
    go_simp
    try with_reducible rfl
  try simp only [Act.put, List.setIfInBounds_toArray, List.set_cons_zero, List.set_cons_succ]
  refine' wpAnyT_take (i := 3) (v := _) hZ (op_at' rfl) (by rfl) (by kernel_rfl) (by kernel_rfl) (by kernel_rfl) (by kernel_rfl) (fun _ _ _ h => h) (Or.inl ⟨by rfl, ?hy4⟩) (by assumption) ?rest4
  case hy4 =>
    intro w' hS
    go_simp
    try with_reducible rfl
  try simp only [Act.put, List.setIfInBounds_toArray, List.set_cons_zero, List.set_cons_succ]
  refine' wpAnyT_take (i := 4) (v := _) hZ (op_at' rfl) (by rfl) (by kernel_rfl) (by kernel_rfl) (by kernel_rfl) (by kernel_rfl) (fun _ _ _ h => h) (Or.inl ⟨by rfl, ?hy5⟩) (by assumption) ?rest5
  case hy5 =>
    intro w' hS
    have hc0 := cell_of_one (hS.at (show w1.drew.heap[Q]? = some (.cells #[vv] 74 (0, 0)) from hQ) hQg)
    go_simp
    try with_reducible rfl
  try simp only [Act.put, List.setIfInBounds_toArray, List.set_cons_zero, List.set_cons_succ]
  refine wpAnyT_take (i := 5) hZ (op_at' rfl) (by rfl) (by kernel_rfl) (by kernel_rfl) (by kernel_rfl) (by kernel_rfl) (fun _ _ _ h => h) (yieldsIf_load_mid (by rfl) _ _ rfl Z 0 rfl cs _ (fun w' hS => block_range (hS.at (show w1.drew.heap[Z]? = _ from hZb) hZg)) Try.underlying97 (by rfl) (by rw [hll]; kernel_rfl)) (by assumption) ?_
  try simp only [Act.put, List.setIfInBounds_toArray, List.set_cons_zero, List.set_cons_succ]
  refine wpAnyT_one (i := 6) (by kernel_rfl) (op_at' rfl) (fun K hK => ?_)
  refine step_buildSlice_one (by rfl) 72 _ (by rfl) 97 i1 _ cs (by rfl) Try.underlying72 ji jz0 (by rw [jz1, hll]) (by rw [hll]; rfl) (by rw [hll]; decide) (by rw [hll]; decide) (fun Y wS oS hYl hYS => ?_)
  go_wp2_with fail
  refine hK.out _ _ (oS.mono (by simp)) (fun hHeld => ?_)
  clear hK K
  try simp only [Act.put, List.setIfInBounds_toArray, List.set_cons_zero, List.set_cons_succ]
  refine wpAnyT_one (i := 7) (by kernel_rfl) (op_at' rfl) (fun K hK => ?_)
  go_simp
  have s6 := sD.quiet oS
  refine (inss_any vv ss.length 0 (fl sc ss) cs Y _ s6 (by omega) (Nat.zero_le _) hll hYS (fun he => by have := (row 97 18 vv ss.length (fl sc ss)).lt _ sD.head Y (by simp [row, he]); omega) (fl_one sc_one ss) hone).mono fun e w12 hq => ?_
  obtain ⟨v12, rfl, o12, s12⟩ := hq
  obtain ⟨a12, c12, rfl⟩ := own_slice (show w12.ownsRow 0 97 18 v12 (ss.length + 1) _ from s12.head)
  go_wp2_with fail
  refine hK.out _ _ ((oS.mono (by simp)).trans o12) (fun hHeld => ?_)
  clear hK K
  try simp only [Act.put, List.setIfInBounds_toArray, List.set_cons_zero, List.set_cons_succ]
  refine' wpAnyT_take (i := 8) (v := _) hZ (op_at' rfl) (by rfl) (by kernel_rfl) (by kernel_rfl) (by kernel_rfl) (by kernel_rfl) (fun _ _ _ h => h) (Or.inl ⟨by rfl, ?hy7⟩) (by assumption) ?rest7
  case hy7 =>
    intro w' hS
    go_simp
    try with_reducible rfl
  try simp only [Act.put, List.setIfInBounds_toArray, List.set_cons_zero, List.set_cons_succ]
  refine' wpAnyT_take (i := 9) (v := _) hZ (op_at' rfl) (by rfl) (by kernel_rfl) (by kernel_rfl) (by kernel_rfl) (by kernel_rfl) (fun _ _ _ h => h) (Or.inl ⟨by rfl, ?hy8⟩) (by assumption) ?rest8
  case hy8 =>
    intro w' hS
    go_simp
    try with_reducible rfl
  try simp only [Act.put, List.setIfInBounds_toArray, List.set_cons_zero, List.set_cons_succ]
  refine wpAnyT_last (by kernel_rfl) (op_at' rfl) (by kernel_rfl) (fun K hK => ?_)
  refine step_store_blk (by rfl) 72 _ _ (by rfl) Q 0 (.slice a12 (ss.length + 1) c12) [.slice a12 (ss.length + 1) c12] [vv] 74 (by rfl) (by rfl) (by rfl) (s12.sel 2 [1, 0]) (by simp) (by kernel_rfl) (by simp [Value.oneCell']) (fun w15 o15 s15 => ?_)
  go_wp2_with fail
  refine hK.out _ _ ?_
  clear hK K
  try simp only [Act.put, List.setIfInBounds_toArray, List.set_cons_zero, List.set_cons_succ]
  have s16 : Sep w0 w15 (row 97 18 (.slice a12 (ss.length + 1) c12) (ss.length + 1) (fl sc ((I, x) :: ss)) :: blk Q [.slice a12 (ss.length + 1) c12] 74 :: many (ss.map idR) :: idR (I, x) :: rs) := by
    rw [efl]
    have := s15.sel 2 [1, 0]
    simpa [setL] using this
  clear s15 s12 o12 sD hHeld hZ efl
  obtain ⟨g, rfl, _⟩ := own_some (show World.ownsRow _ 0 _ 18 (.slice a12 (ss.length + 1) c12) (ss.length + 1) (fl sc ((I, x) :: ss)) from s16.head) (by omega)
  have hcap := row_cap (show World.ownsRow _ 0 _ 18 (.slice (some ⟨g, 0, none⟩) (ss.length + 1) c12) (ss.length + 1) (fl sc ((I, x) :: ss)) from s16.head)
  go_upto_region 6 with fail
  have sE := (s16.sel 2 [1, 0]).quiet (Only.drew w15 [])
  clear s16
  obtain ⟨m, hm⟩ : ∃ m, min (ss.length + 1) 4 = m := ⟨_, rfl⟩
  have hmI : min ((ss.length : Int) + 1) 4 = (m : Int) := by omega
  have hmc : (0 : Int) ≤ (m : Int) ∧ (m : Int) ≤ (c12 : Int) := by omega
  have hm4 : m ≤ ss.length + 1 := by omega
  have Hm := Lib.hid hm
  clear hm hcap
  refine wp_region_t (S := fun w' => Only w15.drew w' []) 14 (by kernel_rfl) (by kernel_rfl) (Only.refl _ _) (fun hZ hHeld => ?_)
  refine' wpAnyT_take (i := 0) (v := _) hZ (op_at' rfl) (by rfl) (by kernel_rfl) (by kernel_rfl) (by kernel_rfl) (by kernel_rfl) (fun _ _ _ h => h) (Or.inl ⟨by rfl, ?hy9⟩) (by assumption) ?rest9
  case hy9 =>
    intro w' hS
    go_simp
    try with_reducible rfl
  try simp only [Act.put, List.setIfInBounds_toArray, List.set_cons_zero, List.set_cons_succ]
  refine' wpAnyT_take (i := 1) (v := _) hZ (op_at' rfl) (by rfl) (by kernel_rfl) (by kernel_rfl) (by kernel_rfl) (by kernel_rfl) (fun _ _ _ h => h) (Or.inl ⟨by rfl, ?hy10⟩) (by assumption) ?rest10
  case hy10 =>
    intro w' hS
    go_simp
    try with_reducible rfl
  try simp only [Act.put, List.setIfInBounds_toArray, List.set_cons_zero, List.set_cons_succ]
  refine' wpAnyT_take (i := 2) (v := _) hZ (op_at' rfl) (by rfl) (by kernel_rfl) (by kernel_rfl) (by kernel_rfl) (by kernel_rfl) (fun _ _ _ h => h) (Or.inl ⟨by rfl, ?hy11⟩) (by assumption) ?rest11
  case hy11 =>
    intro w' hS
    go_simp
    try with_reducible rfl
  try simp only [Act.put, List.setIfInBounds_toArray, List.set_cons_zero, List.set_cons_succ]
  refine' wpAnyT_take (i := 3) (v := _) hZ (op_at' rfl) (by rfl) (by kernel_rfl) (by kernel_rfl) (by kernel_rfl) (by kernel_rfl) (fun _ _ _ h => h) (Or.inl ⟨by rfl, ?hy12⟩) (by assumption) ?rest12
  case hy12 =>
    intro w' hS
    go_simp
    try with_reducible rfl
  try simp only [Act.put, List.setIfInBounds_toArray, List.set_cons_zero, List.set_cons_succ]
  refine' wpAnyT_take (i := 4) (v := _) hZ (op_at' rfl) (by rfl) (by kernel_rfl) (by kernel_rfl) (by kernel_rfl) (by kernel_rfl) (fun _ _ _ h => h) (Or.inl ⟨by rfl, ?hy13⟩) (by assumption) ?rest13
  case hy13 =>
    intro w' hS
    have hc0 := cell_of_one (show w'.heap[Q]? = _ from (sE.quiet hS).head)
    go_simp
    try with_reducible rfl
  try simp only [Act.put, List.setIfInBounds_toArray, List.set_cons_zero, List.set_cons_succ]
  refine' wpAnyT_take (i := 5) (v := _) hZ (op_at' rfl) (by rfl) (by kernel_rfl) (by kernel_rfl) (by kernel_rfl) (by kernel_rfl) (fun _ _ _ h => h) (Or.inl ⟨by rfl, ?hy14⟩) (by assumption) ?rest14
  case hy14 =>
    intro w' hS
    go_simp
    try with_reducible rfl
  try simp only [Act.put, List.setIfInBounds_toArray, List.set_cons_zero, List.set_cons_succ]
  refine' wpAnyT_take (i := 6) (v := _) hZ (op_at' rfl) (by rfl) (by kernel_rfl) (by kernel_rfl) (by kernel_rfl) (by kernel_rfl) (fun _ _ _ h => h) (Or.inl ⟨by rfl, ?hy15⟩) (by assumption) ?rest15
  case hy15 =>
    intro w' hS
    go_simp
    try with_reducible rfl
  try simp only [Act.put, List.setIfInBounds_toArray, List.set_cons_zero, List.set_cons_succ]
  refine' wpAnyT_take (i := 7) (v := _) hZ (op_at' rfl) (by rfl) (by kernel_rfl) (by kernel_rfl) (by kernel_rfl) (by kernel_rfl) (fun _ _ _ h => h) (Or.inl ⟨by rfl, ?hy16⟩) (by assumption) ?rest16
  case hy16 =>
    intro w' hS
    go_simp
    try with_reducible rfl
  try simp only [Act.put, List.setIfInBounds_toArray, List.set_cons_zero, List.set_cons_succ]
  refine' wpAnyT_take (i := 8) (v := _) hZ (op_at' rfl) (by rfl) (by kernel_rfl) (by kernel_rfl) (by kernel_rfl) (by kernel_rfl) (fun _ _ _ h => h) (Or.inl ⟨by rfl, ?hy17⟩) (by assumption) ?rest17
  case hy17 =>
    intro w' hS
    have hc0 := cell_of_one (show w'.heap[Q]? = _ from (sE.quiet hS).head)
    go_simp
    try with_reducible rfl
  try simp only [Act.put, List.setIfInBounds_toArray, List.set_cons_zero, List.set_cons_succ]
  refine' wpAnyT_take (i := 9) (v := _) hZ (op_at' rfl) (by rfl) (by kernel_rfl) (by kernel_rfl) (by kernel_rfl) (by kernel_rfl) (fun _ _ _ h => h) (Or.inl ⟨by rfl, ?hy18⟩) (by assumption) ?rest18
  case hy18 =>
    intro w' hS
    go_simp
    try with_reducible rfl
  try simp only [Act.put, List.setIfInBounds_toArray, List.set_cons_zero, List.set_cons_succ]
  refine' wpAnyT_take (i := 10) (v := _) hZ (op_at' rfl) (by rfl) (by kernel_rfl) (by kernel_rfl) (by kernel_rfl) (by kernel_rfl) (fun _ _ _ h => h) (Or.inl ⟨by rfl, ?hy19⟩) (by assumption) ?rest19
  case hy19 =>
    intro w' hS
    go_simp
    try with_reducible rfl
  try simp only [Act.put, List.setIfInBounds_toArray, List.set_cons_zero, List.set_cons_succ]
  refine' wpAnyT_take (i := 11) (v := _) hZ (op_at' rfl) (by rfl) (by kernel_rfl) (by kernel_rfl) (by kernel_rfl) (by kernel_rfl) (fun _ _ _ h => h) (Or.inl ⟨by rfl, ?hy20⟩) (by assumption) ?rest20
  case hy20 =>
    intro w' hS
    have hm_ := hmI
    have hc_ := hmc
    go_simp
    try with_reducible rfl
  try simp only [Act.put, List.setIfInBounds_toArray, List.set_cons_zero, List.set_cons_succ]
  refine' wpAnyT_take (i := 12) (v := _) hZ (op_at' rfl) (by rfl) (by kernel_rfl) (by kernel_rfl) (by kernel_rfl) (by kernel_rfl) (fun _ _ _ h => h) (Or.inl ⟨by rfl, ?hy21⟩) (by assumption) ?rest21
  case hy21 =>
    intro w' hS
    go_simp
    try with_reducible rfl
  try simp only [Act.put, List.setIfInBounds_toArray, List.set_cons_zero, List.set_cons_succ]
  refine' wpAnyT_take (i := 13) (v := _) hZ (op_at' rfl) (by rfl) (by kernel_rfl) (by kernel_rfl) (by kernel_rfl) (by kernel_rfl) (fun _ _ _ h => h) (Or.inl ⟨by rfl, ?hy22⟩) (by assumption) ?rest22
  case hy22 =>
    intro w' hS
    go_simp
    try with_reducible rfl
  try simp only [Act.put, List.setIfInBounds_toArray, List.set_cons_zero, List.set_cons_succ]
  refine wpAnyT_last (by kernel_rfl) (op_at' rfl) (by kernel_rfl) (fun K hK => ?_)
  refine step_store_blk (by rfl) 72 _ _ (by rfl) Q 0 (.slice (some ⟨g, 0, none⟩) m c12) [.slice (some ⟨g, 0, none⟩) m c12] [.slice (some ⟨g, 0, none⟩) (ss.length + 1) c12] 74 (by rfl) (by rfl) (by rfl) sE (by simp) (by kernel_rfl) (by simp [Value.oneCell']) (fun w25 o25 s25 => ?_)
  go_wp2_with fail
  refine hK.out _ _ ?_
  clear hK K
  try simp only [Act.put, List.setIfInBounds_toArray, List.set_cons_zero, List.set_cons_succ]
  have e4 : ((I, x) :: ss).take 4 = ((I, x) :: ss).take m := by
    rw [← Hm.out, Nat.min_comm, ← List.take_take, List.take_of_length_le (l := (I, x) :: ss) (i := ss.length + 1) (by simp)]
  have s26 : Sep w0 w25 (blk Q [.slice (some ⟨g, 0, none⟩) m c12] 74 :: row 97 18 (.slice (some ⟨g, 0, none⟩) (ss.length + 1) c12) (ss.length + 1) (fl sc ((I, x) :: ss)) :: many (ss.map idR) :: idR (I, x) :: rs) := s25
  have s27 : Sep w0 w25 (idR (I, x) :: many (ss.map idR) :: row 97 18 (.slice (some ⟨g, 0, none⟩) (ss.length + 1) c12) (ss.length + 1) (fl sc ((I, x) :: ss)) :: blk Q [.slice (some ⟨g, 0, none⟩) m c12] 74 :: rs) := s26.sel 4 [3, 2, 1, 0]
  have s28 : Sep w0 w25 (many (((I, x) :: ss).map idR) :: row 97 18 (.slice (some ⟨g, 0, none⟩) (ss.length + 1) c12) (ss.length + 1) (fl sc ((I, x) :: ss)) :: blk Q [.slice (some ⟨g, 0, none⟩) m c12] 74 :: rs) := s27.many_ins 0
  have hsub : ((((I, x) :: ss).take m).map idR).Sublist (((I, x) :: ss).map idR) := (List.take_sublist _ _).map _
  have s29 : Sep w0 w25 (many ((((I, x) :: ss).take m).map idR) :: row 97 18 (.slice (some ⟨g, 0, none⟩) (ss.length + 1) c12) (ss.length + 1) (fl sc ((I, x) :: ss)) :: blk Q [.slice (some ⟨g, 0, none⟩) m c12] 74 :: rs) := s28.step (L := []) (Only.refl _ _) (by simp) (many_sub s28.head hsub) (fun k hk => .inl (many_fp_sub hsub k hk))
  have s30 : Sep w0 w25 (row 97 18 (.slice (some ⟨g, 0, none⟩) (ss.length + 1) c12) (ss.length + 1) (fl sc ((I, x) :: ss)) :: blk Q [.slice (some ⟨g, 0, none⟩) m c12] 74 :: many ((((I, x) :: ss).take m).map idR) :: rs) := s29.sel 3 [1, 2, 0]
  have hrh := row_head (show w25.ownsRow 0 _ 18 (.slice (some ⟨g, 0, none⟩) (ss.length + 1) c12) (ss.length + 1) (fl sc ((I, x) :: ss)) from s30.head) hm4
  rw [fl_take sc_len] at hrh
  have s31 : Sep w0 w25 (row 97 18 (.slice (some ⟨g, 0, none⟩) m c12) m (fl sc (((I, x) :: ss).take m)) :: blk Q [.slice (some ⟨g, 0, none⟩) m c12] 74 :: many ((((I, x) :: ss).take m).map idR) :: rs) := s30.step (L := []) (Only.refl _ _) (by simp) hrh (fun k hk => .inl (by simpa [row, Value.ownBlock] using hk))
  clear s30 s29 s28 s27 s26 s25 hrh hsub sE
  go_wp2_with fail
  refine bodyPost_end (v := .tuple #[]) (by simp [results, Try.results40, go_sem]) rfl ?_
  refine ⟨rfl, .slice (some ⟨g, 0, none⟩) m c12, ?_⟩
  rw [Hm.out, e4]
  exact s31
end Go.Proofs.Ytdlbkdnpbcpjfaa
