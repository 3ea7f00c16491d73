/- The reference's List, Audience, Next (layer 17). Printed by gen_rf3.py. -/
import Derived.Test.YteljkfihmbddaaaRf2
set_option linter.unusedSimpArgs false
set_option linter.unusedVariables false
namespace Go.Proofs.Yteljkfihmbddaaa
open Go.RowKit Go.Pw
set_option linter.unusedVariables false

def rkey (x : Rl) : Int × Int := (x.u, x.d)
def rkl (ms : List Rl) (user : Int) : List (Int × Int) := (ms.filter fun x => x.on && x.u == user).map rkey
def rau (ms : List Rl) (fu fd tu : Int) : List (Int × Int) := (ms.filter fun x => x.on && !(x.u == fu && x.d == fd) && (x.u == tu || x.u == fu)).map rkey
theorem rsel_snoc (p : Rl → Bool) (l : List Rl) (x : Rl) : ((l ++ [x]).filter p).map rkey = (l.filter p).map rkey ++ (if p x = true then [rkey x] else []) := by
  rw [List.filter_append, List.map_append]
  cases h : p x <;> simp [h]
theorem rsel_len (p : Rl → Bool) (l : List Rl) : ((l.filter p).map rkey).length ≤ l.length := by rw [List.length_map]; exact List.length_filter_le _ _

set_option maxRecDepth 100000 in
set_option maxHeartbeats 3200000 in
theorem rlist_any {w0 : World} {rs : List Res} (S : Nat) (ms : List Rl) (v : Value) (user : Int) (w : World) (h : Sep w0 w (row 85 18 v ms.length (fl rlc ms) :: blk S [v, .slice none 0 0] 53 :: rs)) (hl : ms.length ≤ 1000) :
    Calls Try.prog 34 #[.pointer (some ⟨S, 0, none⟩), .int .i64 user] w (Whos (riseL (rkl ms user)) w) := by
  obtain ⟨i0, hi, hz0, hz1, hz2⟩ := info_parts who_info
  obtain ⟨ao, c, rfl⟩ := own_slice (show w.ownsRow 0 _ 18 v ms.length (fl rlc ms) from h.head)
  have hrow0 := show w.ownsRow 0 85 18 (.slice ao ms.length c) ms.length (fl rlc ms) from h.head
  have hS0 : w.heap[S]? = some (.cells #[.slice ao ms.length c, .slice none 0 0] 53 (0, 0)) := (h.sel 2 [1]).head
  have HM := fun (hp : 0 < ms.length) => own_some hrow0 hp
  have s0 : Pw.Sep w w (row 30 2 (.slice none 0 0) 0 [] :: []) := (Sep.nil w).rown _ _
  clear h
  go_enter Try.func34, Try.ntmps34
  go_wp2_with fail
  go_loopw [5, 6] (fun x y wr => ∃ (k : Nat) (a1 : Option Addr) (c1 : Nat), x = .slice a1 (rkl (ms.take k) user).length c1 ∧ y = .int .i64 k ∧ k ≤ ms.length ∧ Pw.Sep w wr (row 30 2 (.slice a1 (rkl (ms.take k) user).length c1) (rkl (ms.take k) user).length (fl wc (rkl (ms.take k) user)) :: [])) (fun _ y _ => ms.length - (intOf y).toNat)
  case atStart => exact ⟨0, none, 0, rfl, rfl, Nat.zero_le _, s0⟩
  case round =>
    clear s0
    obtain ⟨k, a1, c1, rfl, rfl, hk, hs⟩ := hrel
    have hs0 := cell_two0 (hs.only.at hS0 (by simp))
    by_cases hkl : k < ms.length
    · have d1 : decide ((k : Int) < ms.length) = true := by simpa using hkl
      obtain ⟨mg, rfl, _⟩ := HM (by omega)
      have hr_ := own_only hrow0 hs.only (fun _ _ => by simp)
      have e0 : World.cell? _ ⟨mg, k * 18, none⟩ = some (.int .i64 ms[k].u) := rec_cell rlc_len hr_ hkl 0 rfl
      have e1 := rec_cell rlc_len hr_ hkl 1 (v := .int .i64 ms[k].d) rfl
      have e2 := rec_cell rlc_len hr_ hkl 2 (v := .bool ms[k].on) rfl
      have htk : rkl (ms.take (k + 1)) user = rkl (ms.take k) user ++ (if (ms[k].on && ms[k].u == user) = true then [rkey ms[k]] else []) := by
        rw [List.take_succ_eq_append_getElem hkl, rkl, rkl, rsel_snoc]
      have hql : (rkl (ms.take k) user).length ≤ 1000 := by have := rsel_len (fun x => x.on && x.u == user) (ms.take k); rw [List.length_take] at this; unfold rkl; omega
      rw [show rkey ms[k] = (ms[k].u, ms[k].d) from rfl] at htk
      generalize rkl (ms.take k) user = q at *
      generalize ms[k].u = xu at *
      generalize ms[k].d = xd at *
      generalize ms[k].on = xo at *
      clear hr_ HM
      cases xo with
      | false =>
        replace htk : Hid (rkl (ms.take (k + 1)) user = q) := by
          show _ = _
          rw [htk, if_neg (by simp), List.append_nil]
        go_wp2_with fail
        refine ⟨⟨k + 1, a1, c1, by rw [htk.out], by simp, by omega, by rw [htk.out]; exact hs⟩, by simp [intOf]; omega⟩
      | true =>
        by_cases hu : xu = user
        · subst hu
          replace htk : Hid (fl wc q ++ wc (xu, xd) = fl wc (rkl (ms.take (k + 1)) xu) ∧ (rkl (ms.take (k + 1)) xu).length = q.length + 1) := by
            show _ ∧ _
            rw [htk, if_pos (by simp), fl_app, fl_cons, fl_nil, List.append_nil]
            exact ⟨rfl, by simp⟩
          go_wp2_with (first
            | (refine wpList_buildSlice_one rfl 31 _ rfl 30 i0 _ (wc (xu, xd)) rfl Try.underlying31 hi hz0 (by rw [hz1, wc_len]) (by rw [wc_len]; rfl) (by rw [wc_len]; decide) (by rw [wc_len]; decide) ?_; intro Y w6 o6 hYl hY; have s6 := hs.quiet o6; clear hs o6)
            | (at_builtin; refine wpList_append_sep rfl _ _ 31 rfl 30 i0 _ 2 16 Try.underlying31 hi hz0 hz1 hz2 rfl (by decide) (.slice a1 q.length c1) q.length _ rfl s6 _ 1 (wc (xu, xd)) rfl (src_blk hY (by rw [wc_len])) (wc_one _) (by unfold maxLen; omega) (by omega) ?_; intro a7 c7 w7 o7 s7; rw [htk.out.1] at s7))
          refine ⟨⟨k + 1, a7, c7, by rw [htk.out.2], by simp, by omega, by rw [htk.out.2]; exact s7⟩, by simp [intOf]; omega⟩
        · have du : decide (xu = user) = false := by simpa using hu
          replace htk : Hid (rkl (ms.take (k + 1)) user = q) := by
            show _ = _
            rw [htk, if_neg (by simp [hu]), List.append_nil]
          go_wp2_with fail
          refine ⟨⟨k + 1, a1, c1, by rw [htk.out], by simp, by omega, by rw [htk.out]; exact hs⟩, by simp [intOf]; omega⟩
    · obtain rfl : k = ms.length := by omega
      have d1 : decide ((ms.length : Int) < ms.length) = false := by simp
      rw [List.take_length] at hs
      rw [List.take_length]
      have hql : (rkl ms user).length ≤ 1000 := by have := rsel_len (fun x => x.on && x.u == user) ms; unfold rkl; omega
      have hrise := rise_any (.slice a1 (rkl ms user).length c1) (rkl ms user) _ (own_src hs.head) hql
      generalize rkl ms user = q at *
      clear HM
      go_wp2_with fail
      refine hrise.mono ?_
      rintro e w5 ⟨a5, c5, rfl, s5⟩
      have s6 := (Sep.plus hs s5).sel 2 [0]
      clear hrise hs0 hs s5
      go_wp2_with fail
      go_ret
      exact ⟨a5, c5, rfl, s6⟩

set_option maxRecDepth 100000 in
set_option maxHeartbeats 3200000 in
theorem raud_any {w0 : World} {rs : List Res} (S : Nat) (ms : List Rl) (v : Value) (fu fd tu : Int) (w : World) (h : Sep w0 w (row 85 18 v ms.length (fl rlc ms) :: blk S [v, .slice none 0 0] 53 :: rs)) (hl : ms.length ≤ 1000) :
    Calls Try.prog 47 #[.pointer (some ⟨S, 0, none⟩), wv fu fd, .int .i64 tu] w (Whos (riseL (rau ms fu fd tu)) w) := by
  obtain ⟨i0, hi, hz0, hz1, hz2⟩ := info_parts who_info
  obtain ⟨ao, c, rfl⟩ := own_slice (show w.ownsRow 0 _ 18 v ms.length (fl rlc ms) from h.head)
  have hrow0 := show w.ownsRow 0 85 18 (.slice ao ms.length c) ms.length (fl rlc ms) from h.head
  have hS0 : w.heap[S]? = some (.cells #[.slice ao ms.length c, .slice none 0 0] 53 (0, 0)) := (h.sel 2 [1]).head
  have HM := fun (hp : 0 < ms.length) => own_some hrow0 hp
  simp only [wv]
  clear h
  go_enter Try.func47, Try.ntmps47
  go_wp2_with (refine wpList_box_new rfl 30 _ rfl (.agg #[.int .i64 fu, .int .i64 fd]) rfl ?_; intro Z wZ oZ hZl hZ)
  have s0 : Pw.Sep wZ wZ (row 30 2 (.slice none 0 0) 0 [] :: []) := (Sep.nil wZ).rown _ _
  have h1z : ([.int .i64 0, .int .i64 0] : List Value).toArray.all (·.oneCell') = true := by simp [Value.oneCell']
  go_loopw [7, 8] (fun x y wr => ∃ (k : Nat) (a1 : Option Addr) (c1 : Nat), x = .slice a1 (rau (ms.take k) fu fd tu).length c1 ∧ y = .int .i64 k ∧ k ≤ ms.length ∧ Pw.Sep wZ wr (row 30 2 (.slice a1 (rau (ms.take k) fu fd tu).length c1) (rau (ms.take k) fu fd tu).length (fl wc (rau (ms.take k) fu fd tu)) :: [])) (fun _ y _ => ms.length - (intOf y).toNat)
  case atStart => exact ⟨0, none, 0, rfl, rfl, Nat.zero_le _, s0⟩
  case round =>
    clear s0
    obtain ⟨k, a1, c1, rfl, rfl, hk, hs⟩ := hrel
    have hs0 := cell_two0 ((oZ.trans hs.only).at hS0 (by simp))
    by_cases hkl : k < ms.length
    · have d1 : decide ((k : Int) < ms.length) = true := by simpa using hkl
      obtain ⟨mg, rfl, _⟩ := HM (by omega)
      have HC : Hid (∀ w', Only w w' [] → w'.cell? ⟨mg, k * 18, none⟩ = some (.int .i64 ms[k].u) ∧ w'.cell? ⟨mg, k * 18 + 1, none⟩ = some (.int .i64 ms[k].d) ∧ w'.cell? ⟨mg, k * 18 + 2, none⟩ = some (.bool ms[k].on)) := fun w' o => by
        have hr_ := own_only hrow0 o (fun _ _ => by simp)
        exact ⟨rec_cell rlc_len hr_ hkl 0 rfl, rec_cell rlc_len hr_ hkl 1 rfl, rec_cell rlc_len hr_ hkl 2 rfl⟩
      have htk : rau (ms.take (k + 1)) fu fd tu = rau (ms.take k) fu fd tu ++ (if (ms[k].on && !(ms[k].u == fu && ms[k].d == fd) && (ms[k].u == tu || ms[k].u == fu)) = true then [rkey ms[k]] else []) := by
        rw [List.take_succ_eq_append_getElem hkl, rau, rau, rsel_snoc]
      have hql : (rau (ms.take k) fu fd tu).length ≤ 1000 := by have := rsel_len (fun x => x.on && !(x.u == fu && x.d == fd) && (x.u == tu || x.u == fu)) (ms.take k); rw [List.length_take] at this; unfold rau; omega
      rw [show rkey ms[k] = (ms[k].u, ms[k].d) from rfl] at htk
      generalize rau (ms.take k) fu fd tu = q at *
      generalize ms[k].u = xu at *
      generalize ms[k].d = xd at *
      generalize ms[k].on = xo at *
      obtain ⟨e0, e1, e2⟩ := HC.out _ (oZ.trans hs.only)
      have h1c : ([.int .i64 xu, .int .i64 xd] : List Value).toArray.all (·.oneCell') = true := by simp [Value.oneCell']
      clear HM
      go_upto_region 6 with (first
        | (refine wpList_alloc_new rfl 30 rfl (.agg #[.int .i64 0, .int .i64 0]) (fun _ => by kernel_rfl) ?_; intro X wX oX hXl hX)
        | (refine wpList_store_blk rfl 30 _ _ rfl X [.int .i64 xu, .int .i64 xd] rfl rfl hX rfl (by kernel_rfl) h1c ?_; intro wY oY hY; have hs2 := hs.quiet (oX.new oY (fun i hi => by simp only [List.mem_singleton] at hi; omega)); have hy0 := cell_two0 hY; have hy1 := cell_two1 hY; clear hs hX oX oY hs0 e0 e1 e2))
      obtain ⟨e0, e1, e2⟩ := HC.out _ (oZ.trans hs2.only)
      have hs0 := cell_two0 ((oZ.trans hs2.only).at hS0 (by simp))
      have z0 := cell_two0 (hs2.only.at hZ (by simp))
      have z1 := cell_two1 (hs2.only.at hZ (by simp))
      clear HC e0 e1
      cases xo with
      | false =>
        replace htk : Hid (rau (ms.take (k + 1)) fu fd tu = q) := by
          show _ = _
          rw [htk, if_neg (by simp), List.append_nil]
        go_wp2_with fail
        refine ⟨⟨k + 1, a1, c1, by rw [htk.out], by simp, by omega, by rw [htk.out]; exact hs2⟩, by simp [intOf]; omega⟩
      | true =>
        by_cases hu : xu = fu
        · subst hu
          by_cases hd : xd = fd
          · subst hd
            replace htk : Hid (rau (ms.take (k + 1)) xu xd tu = q) := by
              show _ = _
              rw [htk, if_neg (by simp), List.append_nil]
            go_wp2_with fail
            refine ⟨⟨k + 1, a1, c1, by rw [htk.out], by simp, by omega, by rw [htk.out]; exact hs2⟩, by simp [intOf]; omega⟩
          · have dd : decide (xd = fd) = false := by simpa using hd
            by_cases ht : xu = tu
            · subst ht
              replace htk : Hid (fl wc q ++ wc (xu, xd) = fl wc (rau (ms.take (k + 1)) xu fd xu) ∧ (rau (ms.take (k + 1)) xu fd xu).length = q.length + 1) := by
                show _ ∧ _
                rw [htk, if_pos (by simp [hd]), fl_app, fl_cons, fl_nil, List.append_nil]
                exact ⟨rfl, by simp⟩
              go_wp2_with (first
                | (refine wpList_buildSlice_one rfl 31 _ rfl 30 i0 _ (wc (xu, xd)) rfl Try.underlying31 hi hz0 (by rw [hz1, wc_len]) (by rw [wc_len]; rfl) (by rw [wc_len]; decide) (by rw [wc_len]; decide) ?_; intro Y w6 o6 hYl hY; have s6 := hs2.quiet o6; clear hs2 o6)
                | (at_builtin; refine wpList_append_sep rfl _ _ 31 rfl 30 i0 _ 2 16 Try.underlying31 hi hz0 hz1 hz2 rfl (by decide) (.slice a1 q.length c1) q.length _ rfl s6 _ 1 (wc (xu, xd)) rfl (src_blk hY (by rw [wc_len])) (wc_one _) (by unfold maxLen; omega) (by omega) ?_; intro a7 c7 w7 o7 s7; rw [htk.out.1] at s7))
              refine ⟨⟨k + 1, a7, c7, by rw [htk.out.2], by simp, by omega, by rw [htk.out.2]; exact s7⟩, by simp [intOf]; omega⟩
            · have dt : decide (xu = tu) = false := by simpa using ht
              have dt2 : (xu == tu) = false := by simpa using ht
              replace htk : Hid (fl wc q ++ wc (xu, xd) = fl wc (rau (ms.take (k + 1)) xu fd tu) ∧ (rau (ms.take (k + 1)) xu fd tu).length = q.length + 1) := by
                show _ ∧ _
                rw [htk, if_pos (by simp [hd]), fl_app, fl_cons, fl_nil, List.append_nil]
                exact ⟨rfl, by simp⟩
              go_wp2_with (first
                | (refine wpList_buildSlice_one rfl 31 _ rfl 30 i0 _ (wc (xu, xd)) rfl Try.underlying31 hi hz0 (by rw [hz1, wc_len]) (by rw [wc_len]; rfl) (by rw [wc_len]; decide) (by rw [wc_len]; decide) ?_; intro Y w6 o6 hYl hY; have s6 := hs2.quiet o6; clear hs2 o6)
                | (at_builtin; refine wpList_append_sep rfl _ _ 31 rfl 30 i0 _ 2 16 Try.underlying31 hi hz0 hz1 hz2 rfl (by decide) (.slice a1 q.length c1) q.length _ rfl s6 _ 1 (wc (xu, xd)) rfl (src_blk hY (by rw [wc_len])) (wc_one _) (by unfold maxLen; omega) (by omega) ?_; intro a7 c7 w7 o7 s7; rw [htk.out.1] at s7))
              refine ⟨⟨k + 1, a7, c7, by rw [htk.out.2], by simp, by omega, by rw [htk.out.2]; exact s7⟩, by simp [intOf]; omega⟩
        · have du : decide (xu = fu) = false := by simpa using hu
          have du2 : (xu == fu) = false := by simpa using hu
          by_cases ht : xu = tu
          · subst ht
            replace htk : Hid (fl wc q ++ wc (xu, xd) = fl wc (rau (ms.take (k + 1)) fu fd xu) ∧ (rau (ms.take (k + 1)) fu fd xu).length = q.length + 1) := by
              show _ ∧ _
              rw [htk, if_pos (by simp [hu]), fl_app, fl_cons, fl_nil, List.append_nil]
              exact ⟨rfl, by simp⟩
            go_wp2_with (first
              | (refine wpList_buildSlice_one rfl 31 _ rfl 30 i0 _ (wc (xu, xd)) rfl Try.underlying31 hi hz0 (by rw [hz1, wc_len]) (by rw [wc_len]; rfl) (by rw [wc_len]; decide) (by rw [wc_len]; decide) ?_; intro Y w6 o6 hYl hY; have s6 := hs2.quiet o6; clear hs2 o6)
              | (at_builtin; refine wpList_append_sep rfl _ _ 31 rfl 30 i0 _ 2 16 Try.underlying31 hi hz0 hz1 hz2 rfl (by decide) (.slice a1 q.length c1) q.length _ rfl s6 _ 1 (wc (xu, xd)) rfl (src_blk hY (by rw [wc_len])) (wc_one _) (by unfold maxLen; omega) (by omega) ?_; intro a7 c7 w7 o7 s7; rw [htk.out.1] at s7))
            refine ⟨⟨k + 1, a7, c7, by rw [htk.out.2], by simp, by omega, by rw [htk.out.2]; exact s7⟩, by simp [intOf]; omega⟩
          · have dt : decide (xu = tu) = false := by simpa using ht
            have dt2 : (xu == tu) = false := by simpa using ht
            replace htk : Hid (rau (ms.take (k + 1)) fu fd tu = q) := by
              show _ = _
              rw [htk, if_neg (by simp [hu, ht]), List.append_nil]
            go_wp2_with fail
            refine ⟨⟨k + 1, a1, c1, by rw [htk.out], by simp, by omega, by rw [htk.out]; exact hs2⟩, by simp [intOf]; omega⟩
    · obtain rfl : k = ms.length := by omega
      have d1 : decide ((ms.length : Int) < ms.length) = false := by simp
      rw [List.take_length] at hs
      rw [List.take_length]
      have hql : (rau ms fu fd tu).length ≤ 1000 := by have := rsel_len (fun x => x.on && !(x.u == fu && x.d == fd) && (x.u == tu || x.u == fu)) ms; unfold rau; omega
      have hrise := rise_any (.slice a1 (rau ms fu fd tu).length c1) (rau ms fu fd tu) _ (own_src hs.head) hql
      generalize rau ms fu fd tu = q at *
      clear HM
      go_wp2_with fail
      refine hrise.mono ?_
      rintro e w5 ⟨a5, c5, rfl, s5⟩
      have s6 := (Sep.plus ((Sep.nil w).quiet oZ) ((Sep.plus hs s5).sel 2 [0])).sel 1 [0]
      clear hrise hs0 hs s5
      go_wp2_with fail
      go_ret
      exact ⟨a5, c5, rfl, s6⟩
end Go.Proofs.Yteljkfihmbddaaa
