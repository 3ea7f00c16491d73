/- The store of skipped keys: Len, All, Lay. Printed by gen_rb2.py. -/
import Derived.Test.YtdlbkdnpbcpjfaaRb1
import Derived.Test.YtdlbkdnpbcpjfaaPa
import Derived.Deep.Cut
import Derived.Deep.CutBlock
import Derived.Deep.CutRange
set_option linter.unusedSimpArgs false
set_option linter.unusedVariables false
namespace Go.Proofs.Ytdlbkdnpbcpjfaa
open Go.RowKit Go.Pw
set_option linter.unusedVariables false

theorem sk_info : (Try.prog.info? 151).map (fun i => (i.zero, i.size, i.bytes)) = some (some (.agg #[.slice none 0 0, .int .u32 0, .slice none 0 0]), 3, 56) := by kernel_rfl
set_option maxRecDepth 100000 in
set_option maxHeartbeats 1600000 in
/-- skclone. -/
theorem skclone_any (p : Value) (xs : List Sk) (w : World) (hp : Pw.Src w p 3 xs.length (fl skc xs)) (hl : xs.length ≤ 1000000) :
    Calls Try.prog 95 #[p] w (fun e w' => ∃ ao c, e = .returned (.slice ao xs.length c) ∧ Sep w w' [row 151 3 (.slice ao xs.length c) xs.length (fl skc xs)]) := by
  obtain ⟨i0, hi, hz0, hz1, hz2⟩ := info_parts sk_info
  obtain ⟨ao, c, rfl, h1, h2, h3, h4, _⟩ := id hp
  have hn := Lib.run_eql_slice_nil (P := Try.prog) w 148 151 ao xs.length c 0 0 Try.underlying148
  cases ao with
  | none =>
    have h0 := (h4 rfl).1
    obtain rfl : xs = [] := List.eq_nil_of_length_eq_zero h0
    obtain rfl : c = 0 := (h4 rfl).2
    simp only [Option.isNone_none, List.length_nil] at hn ⊢
    clear hp h1 h2 h3 h4 h0 hl
    go_enter Try.func95, Try.ntmps95
    go_wp2
    go_ret
    exact ⟨_, _, rfl, (Sep.nil w).rown _ _⟩
  | some a =>
    simp only [Option.isNone_some] at hn
    have hs := hp.off (Only.alloc w (.cells #[] 151) []) (fun _ _ _ => by simp)
    have hown : (w.alloc (.cells #[] 151)).ownsRow 0 151 3 (.slice (some ⟨w.heap.size, 0, none⟩) 0 0) 0 [] := World.ownsRow_made w #[] 0 (Nat.zero_le _) (Nat.zero_le _) rfl
    have s0 : Sep w (w.alloc (.cells #[] 151)) [row 151 3 (.slice (some ⟨w.heap.size, 0, none⟩) 0 0) 0 []] := (Sep.nil w).add (Only.alloc w _ []) hown (fun k hk => by simp [row, Value.ownBlock] at hk; omega)
    clear hp hown h1 h2 h3 h4
    go_enter Try.func95, Try.ntmps95
    go_wp2_with (at_builtin; refine wpList_append_sep rfl _ _ 148 rfl 151 i0 _ 3 56 Try.underlying148 hi hz0 hz1 hz2 rfl (by decide) (.slice (some ⟨w.heap.size, 0, none⟩) 0 0) 0 [] rfl s0 _ xs.length _ rfl hs (fl_one skc_one _) (by unfold maxLen; omega) (by omega) ?_; intro a7 c7 w7 o7 s7; simp only [Nat.zero_add, List.nil_append] at s7 ⊢)
    go_ret
    exact ⟨a7, c7, rfl, s7⟩

theorem slen_any (a b : Nat) (S : Option Nat) (l : List Sk) (w : World) (h : StoI a b w S l) :
    Calls Try.prog 90 #[.pointer (adr S)] w fun e w' => e = .returned (.int .i64 l.length) ∧ w' = w := by
  cases S with
  | none =>
    obtain rfl : l = [] := h
    simp only [adr, Option.map_none]
    go_enter Try.func90, Try.ntmps90
    go_wp2
    go_ret
    exact ⟨rfl, rfl⟩
  | some S =>
    obtain ⟨_, _, v, h3, h4, _⟩ := h
    obtain ⟨ao, c, rfl, _⟩ := id h4.1
    have hc0 := cell_of_one h3
    simp only [adr, Option.map_some]
    clear h3 h4
    go_enter Try.func90, Try.ntmps90
    go_wp2
    go_ret
    exact ⟨rfl, rfl⟩
theorem sall_any (a b : Nat) (S : Option Nat) (l : List Sk) (w : World) (h : StoI a b w S l) (hl : l.length ≤ 1000000) :
    Calls Try.prog 91 #[.pointer (adr S)] w fun e w' => ∃ ao c, e = .returned (.slice ao l.length c) ∧ Sep w w' [row 151 3 (.slice ao l.length c) l.length (fl skc l)] := by
  cases S with
  | none =>
    obtain rfl : l = [] := h
    simp only [adr, Option.map_none]
    go_enter Try.func91, Try.ntmps91
    go_wp2
    go_ret
    exact ⟨none, 0, rfl, (Sep.nil w).rown _ _⟩
  | some S =>
    obtain ⟨_, _, v, h3, h4, _⟩ := h
    have hc0 := cell_of_one h3
    have hs := h4.1
    simp only [adr, Option.map_some]
    clear h3 h4
    go_enter Try.func91, Try.ntmps91
    go_wp2_with fail
    refine (skclone_any v l _ hs hl).mono ?_
    rintro e w1 ⟨ao, c, rfl, s1⟩
    clear hs hc0
    go_wp2_with fail
    go_ret
    exact ⟨ao, c, rfl, s1⟩
theorem flat_take {α : Type} (f : α → List Int) {l : List α} {i : Nat} (h : i < l.length) : (l.take (i + 1)).flatMap f = (l.take i).flatMap f ++ f l[i] ∧ ((l.take i).flatMap f).length + (f l[i]).length ≤ (l.flatMap f).length := by
  have e : (l.take (i + 1)).flatMap f = (l.take i).flatMap f ++ f l[i] := by rw [List.take_succ_eq_append_getElem h, List.flatMap_append]; simp
  refine ⟨e, ?_⟩
  have h2 : l.flatMap f = (l.take (i + 1)).flatMap f ++ (l.drop (i + 1)).flatMap f := by rw [← List.flatMap_append, List.take_append_drop]
  rw [h2, e]
  simp only [List.length_append]
  omega
/-- The writer goes on behind a new block. -/
theorem St.box {B : Nat} {v1 : Value} {W w w' : World} {zs : List Int} (h : St B v1 W w zs) (ho : Only w w' []) : ∃ v2, SoN W v1 v2 ∧ Only W w' (B :: v1.ownBlock.toList) ∧ St B v2 w' w' zs ∧ ∀ X, w.heap.size ≤ X → X ∉ B :: v2.ownBlock.toList := by
  obtain ⟨v2, h1, h2, h3⟩ := h
  exact ⟨v2, h2, h3.trans (ho.mono (by simp)), St.start (isw_new h1 ho), fun X hX => isw_apart h1 hX⟩

set_option maxRecDepth 100000 in
set_option maxHeartbeats 3200000 in
theorem slay_any (a b B : Nat) (v0 : Value) (xs : List Int) (S : Option Nat) (l : List Sk) (w : World) (hw : IsW 100 5 B v0 xs w) (hWr : Wr b B v0) (hI : StoI a b w S l) (hb : b ≤ w.heap.size) (hn : l.length ≤ 1000) (hl : xs.length + (stoB (l.map Sk.c)).length ≤ 800000) :
    Calls Try.prog 84 #[.pointer (adr S), .pointer (some ⟨B, 0, none⟩)] w fun e w' => e = .returned (.tuple #[]) ∧ St B v0 w w' (xs ++ stoB (l.map Sk.c)) := by
  have hlen := slen_any a b S l w hI
  have HALL := fun (w' : World) (o : Only w w' (B :: v0.ownBlock.toList)) => sall_any a b S l w' (hI.keep o fun k hk => .inr (hWr k hk)) (by omega)
  have HSK : ∀ w', Only w w' (B :: v0.ownBlock.toList) → ∀ x ∈ l, SkI a b w' x := fun w' o x hx => by
    have hk := hI.keep o fun k hk => .inr (hWr k hk)
    cases S with
    | none => rw [show l = [] from hk] at hx; simp at hx
    | some S =>
      obtain ⟨_, _, v, _, _, h5⟩ := hk
      exact h5 x hx
  have Hlen : Hid (xs.length + 2 + (l.flatMap fun x => skB x.c).length ≤ 800000) := by
    show _ ≤ _
    have : (stoB (l.map Sk.c)).length = 2 + (l.flatMap fun x => skB x.c).length := by simp [stoB, be_len, List.flatMap_map]
    omega
  have Hend : Hid (stoB (l.map Sk.c) = be l.length 2 ++ l.flatMap fun x => skB x.c) := by show _ = _; simp [stoB, List.flatMap_map]
  replace HALL := Lib.hid HALL
  replace HSK := Lib.hid HSK
  have hxl : xs.length ≤ 800000 := by omega
  have st0 := St.start hw
  have hu : IntKind.u64.wrap (l.length : Int) = l.length := u64_in _ (by omega) (by omega)
  clear hI hl hw
  go_enter Try.func84, Try.ntmps84
  go_wp2_with fail
  refine hlen.mono ?_
  rintro e w1 ⟨rfl, rfl⟩
  clear hlen
  go_wp2_with fail
  refine (wnum2_st st0 (l.length : Int) (by omega) (by omega) (by omega)).mono ?_
  rintro e w2 ⟨rfl, st2⟩
  clear st0 hu
  go_wp2_with fail
  refine (HALL.out _ st2.only).mono ?_
  rintro e w3 ⟨ac, cc, rfl, s3⟩
  obtain ⟨v1, k1, k2, k3⟩ := st2
  have k1' := isw_new k1 s3.only
  have k3' := k3.trans (s3.only.mono (by simp))
  have hrow : w3.ownsRow 0 151 3 (.slice ac l.length cc) l.length (fl skc l) := s3.head
  have hrn : ∀ k, (Value.slice ac l.length cc).ownBlock = some k → k ∉ B :: v1.ownBlock.toList := fun k hk => isw_apart k1 (s3.new (row 151 3 (.slice ac l.length cc) l.length (fl skc l)) (by simp) k (by simp [row, hk]))
  have HP := fun (hp : 0 < l.length) => own_some hrow hp
  have HB : Hid (b ≤ w1.heap.size) := hb
  have HW1 : Hid (Wr b B v1) := hWr.next k2 hb
  obtain ⟨ys, hys⟩ : ∃ ys, ys = xs ++ be (l.length : Int) 2 := ⟨_, rfl⟩
  have hyl : ys.length = xs.length + 2 := by rw [hys]; simp [be_len]
  rw [← hys] at k1'
  have HYS := Lib.hid hys
  have st3 := St.start k1'
  clear k1 s3 HALL hys hb hWr
  go_wp2_with fail
  go_loopw [14] (fun y wr => ∃ i : Nat, y = .int .i64 i ∧ i ≤ l.length ∧ St B v1 w3 wr (ys ++ (l.take i).flatMap fun x => skB x.c)) (fun y _ => l.length - (intOf y).toNat)
  case atStart => exact ⟨0, rfl, Nat.zero_le _, by simpa using st3⟩
  case round =>
    clear st3
    obtain ⟨i, rfl, hi, st⟩ := hrel
    by_cases hil : i < l.length
    · have d1 : decide ((i : Int) < l.length) = true := by simpa using hil
      obtain ⟨g, rfl, _⟩ := HP (by omega)
      have hrow4 := own_only hrow st.only (fun k hk hm => hrn k hk hm)
      have hrng := rec_range skc_len hrow4 hil
      obtain ⟨hft, hfl⟩ := flat_take (fun x => skB x.c) hil
      have Hft := Lib.hid hft
      have hzl : ys.length + ((l.take i).flatMap fun x => skB x.c).length + (skB l[i].c).length ≤ 800000 := by have := Hlen.out; omega
      have hmem := List.getElem_mem hil
      generalize (l.take i).flatMap (fun x => skB x.c) = ts at *
      generalize hx : l[i] = x at *
      have Hx := Lib.hid hx
      have hsl : (skB x.c).length = x.c.of.length + 4 + 4 + (x.c.key.length + 4) := by simp [skB, lb_len, be_len]; omega
      have hoc : ([x.vo, .int .u32 x.c.n, x.vk] : List Value).toArray.all (·.oneCell') = true := all_oneCell_toArray (skc_one x)
      simp only [skc] at hrng
      clear hft hfl hx hrow4 HP
      go_upto_region 4 with (first
        | (refine wpList_load_mid rfl 151 _ rfl g (i * 3) rfl [x.vo, .int .u32 x.c.n, x.vk] _ hrng Try.underlying151 (by rfl) (by kernel_rfl) ?_)
        | (refine wpList_alloc_new rfl 151 rfl (.agg #[.slice none 0 0, .int .u32 0, .slice none 0 0]) (fun _ => by kernel_rfl) ?_; intro X wX oX hXl hX)
        | (refine wpList_store_blk rfl 151 _ _ rfl X [x.vo, .int .u32 x.c.n, x.vk] rfl rfl hX rfl (by kernel_rfl) hoc ?_; intro W4 oY hY4; have oXY := oX.new oY (fun i hi => by simp only [List.mem_singleton] at hi; omega); clear oX oY hX))
      obtain ⟨v2, m2, m3, st4, hap⟩ := st.box oXY
      have hXn := hap X hXl
      have hx4 := HSK.out W4 (k3'.step m3 (own_list k2)) x hmem
      have hW2 : Wr b B v2 := HW1.out.next m2 (Nat.le_trans HB.out k3'.size)
      have st0 := st4.drew
      have hX4 : W4.drew.heap[X]? = some (.cells #[x.vo, .int .u32 x.c.n, x.vk] 151 (0, 0)) := hY4
      have hn0 : 0 ≤ x.c.n := hx4.n.1
      have hn1 : x.c.n < 18446744073709551616 := by have := hx4.n.2; omega
      have hu4 : IntKind.u64.wrap x.c.n = x.c.n := u64_in _ hx4.n.1 hx4.n.2
      have hzz : (ys ++ ts).length + x.c.of.length + x.c.key.length + 12 ≤ 800000 := by rw [List.length_append]; omega
      generalize hzs : ys ++ ts = zs at *
      have Hzs := Lib.hid hzs
      clear hrng st hap oXY st4 hY4 hzs hsl hzl
      refine wp_region_held_drew (S := fun w' => w'.heap[X]? = some (.cells #[x.vo, .int .u32 x.c.n, x.vk] 151 (0, 0))) (by kernel_rfl) hX4 (fun hHeld => ?_)
      refine' wpAnyH_take (i := 0) (v := _) (op_at rfl) (by kernel_rfl) (by kernel_rfl) (by kernel_rfl) (fun _ _ _ h => h) (Or.inl ⟨by rfl, ?hy1⟩) (by assumption) ?rest1
      case hy1 =>
        intro w' hS
        go_simp
        try with_reducible rfl
      try simp only [Act.put, List.setIfInBounds_toArray, List.set_cons_zero, List.set_cons_succ]
      refine' wpAnyH_take (i := 1) (v := _) (op_at rfl) (by kernel_rfl) (by kernel_rfl) (by kernel_rfl) (fun _ _ _ h => h) (Or.inl ⟨by rfl, ?hy2⟩) (by assumption) ?rest2
      case hy2 =>
        intro w' hS
        go_simp
        try with_reducible rfl
      try simp only [Act.put, List.setIfInBounds_toArray, List.set_cons_zero, List.set_cons_succ]
      refine' wpAnyH_take (i := 2) (v := _) (op_at rfl) (by kernel_rfl) (by kernel_rfl) (by kernel_rfl) (fun _ _ _ h => h) (Or.inl ⟨by rfl, ?hy3⟩) (by assumption) ?rest3
      case hy3 =>
        intro w' hS
        have q_ : w'.cell? ⟨X, 0, none⟩ = some (x.vo) := cell_in hS 0
        go_simp
        try with_reducible rfl
      try simp only [Act.put, List.setIfInBounds_toArray, List.set_cons_zero, List.set_cons_succ]
      refine' wpAnyH_take (i := 4) (v := _) (op_at rfl) (by kernel_rfl) (by kernel_rfl) (by kernel_rfl) (fun _ _ _ h => h) (Or.inl ⟨by rfl, ?hy4⟩) (by assumption) ?rest4
      case hy4 =>
        intro w' hS
        go_simp
        try with_reducible rfl
      try simp only [Act.put, List.setIfInBounds_toArray, List.set_cons_zero, List.set_cons_succ]
      refine' wpAnyH_take (i := 5) (v := _) (op_at rfl) (by kernel_rfl) (by kernel_rfl) (by kernel_rfl) (fun _ _ _ h => h) (Or.inl ⟨by rfl, ?hy5⟩) (by assumption) ?rest5
      case hy5 =>
        intro w' hS
        have q_ : w'.cell? ⟨X, 1, none⟩ = some (.int .u32 x.c.n) := cell_in hS 1
        go_simp
        try with_reducible rfl
      try simp only [Act.put, List.setIfInBounds_toArray, List.set_cons_zero, List.set_cons_succ]
      refine' wpAnyH_take (i := 6) (v := _) (op_at rfl) (by kernel_rfl) (by kernel_rfl) (by kernel_rfl) (fun _ _ _ h => h) (Or.inl ⟨by rfl, ?hy6⟩) (by assumption) ?rest6
      case hy6 =>
        intro w' hS
        go_simp
        try with_reducible rfl
      try simp only [Act.put, List.setIfInBounds_toArray, List.set_cons_zero, List.set_cons_succ]
      refine' wpAnyH_take (i := 8) (v := _) (op_at rfl) (by kernel_rfl) (by kernel_rfl) (by kernel_rfl) (fun _ _ _ h => h) (Or.inl ⟨by rfl, ?hy7⟩) (by assumption) ?rest7
      case hy7 =>
        intro w' hS
        go_simp
        try with_reducible rfl
      try simp only [Act.put, List.setIfInBounds_toArray, List.set_cons_zero, List.set_cons_succ]
      refine' wpAnyH_take (i := 9) (v := _) (op_at rfl) (by kernel_rfl) (by kernel_rfl) (by kernel_rfl) (fun _ _ _ h => h) (Or.inl ⟨by rfl, ?hy8⟩) (by assumption) ?rest8
      case hy8 =>
        intro w' hS
        have q_ : w'.cell? ⟨X, 2, none⟩ = some (x.vk) := cell_in hS 2
        go_simp
        try with_reducible rfl
      try simp only [Act.put, List.setIfInBounds_toArray, List.set_cons_zero, List.set_cons_succ]
      refine wpAnyH_ready (rs := [3]) (by kernel_rfl) (by simp) (AllReadyH.cons (op_at rfl) (fun K hK => ?_) AllReadyH.nil)
      go_simp
      (with_reducible refine (wpart_st st0 hW2 hx4.o (by omega)).mono fun e w5 hq => ?_)
      obtain ⟨rfl, st5⟩ := hq
      have h5 := st5.only
      go_wp2_with fail
      refine hK.out _ _ (h5.at hX4 hXn) (fun hHeld => ?_)
      clear hK K
      try simp only [Act.put, List.setIfInBounds_toArray, List.set_cons_zero, List.set_cons_succ]
      refine wpAnyH_ready (rs := [7]) (by kernel_rfl) (by simp) (AllReadyH.cons (op_at rfl) (fun K hK => ?_) AllReadyH.nil)
      go_simp
      (with_reducible refine (wnum4_st st5 x.c.n (by simp only [List.length_append, lb_len]; omega) hn0 hn1).mono fun e w6 hq => ?_)
      obtain ⟨rfl, st6⟩ := hq
      have h6 := st6.only
      go_wp2_with fail
      refine hK.out _ _ (h6.at hX4 hXn) (fun hHeld => ?_)
      clear hK K
      try simp only [Act.put, List.setIfInBounds_toArray, List.set_cons_zero, List.set_cons_succ]
      refine wpAnyH_ready (rs := [10]) (by kernel_rfl) (by simp) (AllReadyH.cons (op_at rfl) (fun K hK => ?_) AllReadyH.nil)
      go_simp
      (with_reducible refine (wpart_st st6 hW2 hx4.k (by simp only [List.length_append, lb_len, be_len]; omega)).mono fun e w7 hq => ?_)
      obtain ⟨rfl, st7⟩ := hq
      have h7 := st7.only
      go_wp2_with fail
      refine hK.out _ _ (h7.at hX4 hXn) (fun hHeld => ?_)
      clear hK K
      try simp only [Act.put, List.setIfInBounds_toArray, List.set_cons_zero, List.set_cons_succ]
      refine wpAnyH_done (by kernel_rfl) ?_ _
      go_wp2_with fail
      have stE := St.trans m2 m3 st7
      have hEq : Hid (zs ++ lb x.c.of ++ be x.c.n 4 ++ lb x.c.key = ys ++ (l.take (i + 1)).flatMap fun x => skB x.c) := by
        show _ = _
        rw [Hft.out, ← Hzs.out, skB]
        simp only [List.append_assoc]
      rw [hEq.out] at stE
      exact ⟨⟨i + 1, by simp, by omega, stE⟩, by simp [intOf]; omega⟩
    · obtain rfl : i = l.length := by omega
      have d1 : decide ((l.length : Int) < l.length) = false := by simp
      rw [List.take_length, HYS.out] at st
      have stF := St.trans k2 k3' st
      rw [List.append_assoc, ← Hend.out] at stF
      clear st HP
      go_wp2_with fail
      go_end0
      exact ⟨rfl, stF⟩
end Go.Proofs.Ytdlbkdnpbcpjfaa
