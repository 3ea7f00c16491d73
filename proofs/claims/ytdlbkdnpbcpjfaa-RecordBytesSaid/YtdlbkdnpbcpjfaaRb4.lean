/- session.Queue: All, Lay. Printed by gen_rb4.py. -/
import Derived.Test.YtdlbkdnpbcpjfaaRb3
import Derived.Test.YtdlbkdnpbcpjfaaInsS
import Derived.Test.YtdlbkdnpbcpjfaaPd
set_option linter.unusedSimpArgs false
set_option linter.unusedVariables false
namespace Go.Proofs.Ytdlbkdnpbcpjfaa
open Go.RowKit Go.Pw
set_option linter.unusedVariables false

set_option maxRecDepth 100000 in
set_option maxHeartbeats 1600000 in
/-- seclone. -/
theorem seclone_any (p : Value) (xs : List Se) (w : World) (hp : Pw.Src w p 18 xs.length (fl sec xs)) (hl : xs.length ≤ 1000000) :
    Calls Try.prog 82 #[p] w (fun e w' => ∃ ao c, e = .returned (.slice ao xs.length c) ∧ Sep w w' [row 97 18 (.slice ao xs.length c) xs.length (fl sec xs)]) := by
  obtain ⟨i0, hi, hz0, hz1, hz2⟩ := info_parts inss_info
  obtain ⟨ao, c, rfl, h1, h2, h3, h4, _⟩ := id hp
  have hn := Lib.run_eql_slice_nil (P := Try.prog) w 72 97 ao xs.length c 0 0 Try.underlying72
  cases ao with
  | none =>
    have h0 := (h4 rfl).1
    obtain rfl : xs = [] := List.eq_nil_of_length_eq_zero h0
    obtain rfl : c = 0 := (h4 rfl).2
    simp only [Option.isNone_none, List.length_nil] at hn ⊢
    clear hp h1 h2 h3 h4 h0 hl
    go_enter Try.func82, Try.ntmps82
    go_wp2
    go_ret
    exact ⟨_, _, rfl, (Sep.nil w).rown _ _⟩
  | some a =>
    simp only [Option.isNone_some] at hn
    have hs := hp.off (Only.alloc w (.cells #[] 97) []) (fun _ _ _ => by simp)
    have hown : (w.alloc (.cells #[] 97)).ownsRow 0 97 18 (.slice (some ⟨w.heap.size, 0, none⟩) 0 0) 0 [] := World.ownsRow_made w #[] 0 (Nat.zero_le _) (Nat.zero_le _) rfl
    have s0 : Sep w (w.alloc (.cells #[] 97)) [row 97 18 (.slice (some ⟨w.heap.size, 0, none⟩) 0 0) 0 []] := (Sep.nil w).add (Only.alloc w _ []) hown (fun k hk => by simp [row, Value.ownBlock] at hk; omega)
    clear hp hown h1 h2 h3 h4
    go_enter Try.func82, Try.ntmps82
    go_wp2_with (at_builtin; refine wpList_append_sep rfl _ _ 72 rfl 97 i0 _ 18 296 Try.underlying72 hi hz0 hz1 hz2 rfl (by decide) (.slice (some ⟨w.heap.size, 0, none⟩) 0 0) 0 [] rfl s0 _ xs.length _ rfl hs (fl_one sec_one _) (by unfold maxLen; omega) (by omega) ?_; intro a7 c7 w7 o7 s7; simp only [Nat.zero_add, List.nil_append] at s7 ⊢)
    go_ret
    exact ⟨a7, c7, rfl, s7⟩

theorem qall_any (a b Q : Nat) (l : List Se) (w : World) (h : QuI a b w Q l) (hl : l.length ≤ 1000000) :
    Calls Try.prog 69 #[.pointer (some ⟨Q, 0, none⟩)] w fun e w' => ∃ ao c, e = .returned (.slice ao l.length c) ∧ Sep w w' [row 97 18 (.slice ao l.length c) l.length (fl sec l)] := by
  obtain ⟨_, _, v, h3, h4, _⟩ := h
  have hc0 := cell_of_one h3
  have hs := h4.1
  clear h3 h4
  go_enter Try.func69, Try.ntmps69
  go_wp2_with fail
  refine (seclone_any v l _ hs hl).mono ?_
  rintro e w1 ⟨ao, c, rfl, s1⟩
  clear hs hc0
  go_wp2_with fail
  go_ret
  exact ⟨ao, c, rfl, s1⟩
theorem qulen_any (a b Q : Nat) (l : List Se) (w : World) (h : QuI a b w Q l) : Calls Try.prog 41 #[.pointer (some ⟨Q, 0, none⟩)] w fun e w' => e = .returned (.int .i64 l.length) ∧ w' = w := by
  obtain ⟨_, _, v, h3, h4, _⟩ := h
  obtain ⟨ao, c, rfl, _⟩ := id h4.1
  exact qlen_any Q ao l.length c w h3
theorem hello_at {w : World} {X : Nat} {x : Se} {T : TypeId} (h : w.heap[X]? = some (.cells (sec x).toArray T (0, 0))) : w.rangeAt X 2 [x.va, x.vs, x.vk, .int .u32 x.c.h.signed, .bool x.c.h.has, .int .u32 x.c.h.once] := fun j v hj => by
  rw [cell_in h]
  match j with
  | 0 | 1 | 2 | 3 | 4 | 5 => simpa [sec, stc] using hj
  | j + 6 => simp at hj
theorem state_at {w : World} {X : Nat} {x : Se} {T : TypeId} (h : w.heap[X]? = some (.cells (sec x).toArray T (0, 0))) : w.rangeAt X 9 (stc x.st) := fun j v hj => by
  rw [cell_in h, List.getElem?_toArray, sec, List.getElem?_append_right (by simp)]
  simpa using hj

set_option maxRecDepth 100000 in
set_option maxHeartbeats 3200000 in
theorem qulay_any (a b B Q : Nat) (v0 : Value) (xs : List Int) (l : List Se) (w : World) (hw : IsW 100 5 B v0 xs w) (hWr : Wr b B v0) (hI : QuI a b w Q l) (hb : b ≤ w.heap.size) (hn : l.length ≤ 1000) (hns : ∀ x ∈ l, x.st.l.length ≤ 1000) (hl : xs.length + (quB (l.map Se.c)).length ≤ 700000) :
    Calls Try.prog 46 #[.pointer (some ⟨Q, 0, none⟩), .pointer (some ⟨B, 0, none⟩)] w fun e w' => e = .returned (.tuple #[]) ∧ St B v0 w w' (xs ++ quB (l.map Se.c)) := by
  have hlen := qulen_any a b Q l w hI
  have HALL := fun (w' : World) (o : Only w w' (B :: v0.ownBlock.toList)) => qall_any a b Q l w' (hI.keep o fun k hk => .inr (hWr k hk)) (by omega)
  have HSE : ∀ w', Only w w' (B :: v0.ownBlock.toList) → ∀ x ∈ l, SeI a b w' x := fun w' o x hx => by
    obtain ⟨_, _, v, _, _, h5⟩ := hI.keep o fun k hk => .inr (hWr k hk)
    exact h5 x hx
  have Hlen : Hid (xs.length + 2 + (l.flatMap fun x => seB x.c).length ≤ 700000) := by
    show _ ≤ _
    have : (quB (l.map Se.c)).length = 2 + (l.flatMap fun x => seB x.c).length := by simp [quB, be_len, List.flatMap_map]
    omega
  have Hend : Hid (quB (l.map Se.c) = be l.length 2 ++ l.flatMap fun x => seB x.c) := by show _ = _; simp [quB, List.flatMap_map]
  replace HALL := Lib.hid HALL
  replace HSE := Lib.hid HSE
  replace hns := Lib.hid hns
  have hxl : xs.length ≤ 700000 := by omega
  have st0 := St.start hw
  have hu : IntKind.u64.wrap (l.length : Int) = l.length := u64_in _ (by omega) (by omega)
  clear hI hl hw
  go_enter Try.func46, Try.ntmps46
  go_wp2_with fail
  refine hlen.mono ?_
  rintro e w1 ⟨rfl, rfl⟩
  clear hlen
  go_wp2_with fail
  refine (wnum2_st st0 (l.length : Int) (by omega) (by omega) (by omega)).mono ?_
  rintro e w2 ⟨rfl, st2⟩
  clear st0 hu
  go_wp2_with fail
  refine (HALL.out _ st2.only).mono ?_
  rintro e w3 ⟨ac, cc, rfl, s3⟩
  obtain ⟨v1, k1, k2, k3⟩ := st2
  have k1' := isw_new k1 s3.only
  have k3' := k3.trans (s3.only.mono (by simp))
  have hrow : w3.ownsRow 0 97 18 (.slice ac l.length cc) l.length (fl sec l) := s3.head
  have hrn : ∀ k, (Value.slice ac l.length cc).ownBlock = some k → k ∉ B :: v1.ownBlock.toList := fun k hk => isw_apart k1 (s3.new (row 97 18 (.slice ac l.length cc) l.length (fl sec l)) (by simp) k (by simp [row, hk]))
  have HP := fun (hp : 0 < l.length) => own_some hrow hp
  have HB : Hid (b ≤ w1.heap.size) := hb
  have HW1 : Hid (Wr b B v1) := hWr.next k2 hb
  obtain ⟨ys, hys⟩ : ∃ ys, ys = xs ++ be (l.length : Int) 2 := ⟨_, rfl⟩
  have hyl : ys.length = xs.length + 2 := by rw [hys]; simp [be_len]
  rw [← hys] at k1'
  have HYS := Lib.hid hys
  have st3 := St.start k1'
  clear k1 s3 HALL hys hb hWr
  go_wp2_with fail
  go_loopw [14] (fun y wr => ∃ i : Nat, y = .int .i64 i ∧ i ≤ l.length ∧ St B v1 w3 wr (ys ++ (l.take i).flatMap fun x => seB x.c)) (fun y _ => l.length - (intOf y).toNat)
  case atStart => exact ⟨0, rfl, Nat.zero_le _, by simpa using st3⟩
  case round =>
    clear st3
    obtain ⟨i, rfl, hi, st⟩ := hrel
    by_cases hil : i < l.length
    · have d1 : decide ((i : Int) < l.length) = true := by simpa using hil
      obtain ⟨g, rfl, _⟩ := HP (by omega)
      have hrow4 := own_only hrow st.only (fun k hk hm => hrn k hk hm)
      have hrng := rec_range sec_len hrow4 hil
      obtain ⟨hft, hfl⟩ := flat_take (fun x => seB x.c) hil
      have Hft := Lib.hid hft
      have hzl : ys.length + ((l.take i).flatMap fun x => seB x.c).length + (seB l[i].c).length ≤ 700000 := by have := Hlen.out; omega
      have hmem := List.getElem_mem hil
      generalize (l.take i).flatMap (fun x => seB x.c) = ts at *
      generalize hx : l[i] = x at *
      have Hx := Lib.hid hx
      have hsl : (seB x.c).length = x.c.id.length + 4 + (x.c.wth.length + 4) + 1 + ((hB x.c.h).length + 4) + (staB x.c.t).length := by simp only [seB, List.length_append, List.length_cons, List.length_nil, lb_len]
      have hoc : (sec x).toArray.all (·.oneCell') = true := all_oneCell_toArray (sec_one x)
      have hsc := sec_len x
      clear hft hfl hx hrow4 HP
      go_upto_region 4 with (first
        | (refine wpList_load_mid rfl 97 _ rfl g (i * 18) rfl (sec x) _ hrng Try.underlying97 (by rfl) (by rw [hsc]; kernel_rfl) ?_)
        | (refine wpList_alloc_new rfl 97 rfl (.agg #[.slice none 0 0, .slice none 0 0, .slice none 0 0, .slice none 0 0, .slice none 0 0, .int .u32 0, .bool false, .int .u32 0, .bool false, .slice none 0 0, .slice none 0 0, .slice none 0 0, .slice none 0 0, .int .u32 0, .slice none 0 0, .int .u32 0, .int .u32 0, .pointer none]) (fun _ => by kernel_rfl) ?_; intro X wX oX hXl hX)
        | (refine wpList_store_blk rfl 97 _ _ rfl X (sec x) rfl rfl hX (by rw [hsc]; rfl) (by rw [hsc]; kernel_rfl) hoc ?_; intro W4 oY hY4; have oXY := oX.new oY (fun i hi => by simp only [List.mem_singleton] at hi; omega); clear oX oY hX))
      obtain ⟨v2, m2, m3, st4, hap⟩ := st.box oXY
      have hXn := hap X hXl
      have m3x := k3'.step m3 (own_list k2)
      have m2x := k2.trans m2 k3'.size
      have hx4 := HSE.out W4 m3x x hmem
      have hel := hx4.l
      have hus := hx4.us
      have huo := hx4.uo
      have HRD : Hid (∀ w', Only w1 w' (B :: v0.ownBlock.toList) → Rd w' x.va x.c.h.ag ∧ Rd w' x.vs x.c.h.sg ∧ Rd w' x.vk x.c.h.key) := fun w' o => by
        have := HSE.out w' o x hmem
        exact ⟨this.g.1, this.s.1, this.k.1⟩
      have hhl : (hB x.c.h).length ≤ x.c.h.ag.length + x.c.h.sg.length + x.c.h.key.length + 21 := helloB_len _ _ _ _ _ _
      have hhl' := helloB_len x.c.h.ag x.c.h.sg x.c.h.key x.c.h.signed x.c.h.has x.c.h.once
      have hW2 : Wr b B v2 := HW1.out.next m2 (Nat.le_trans HB.out k3'.size)
      have st0 := st4.drew
      have hX4 : W4.drew.heap[X]? = some (.cells (sec x).toArray 97 (0, 0)) := hY4
      have hzz : (ys ++ ts).length + (x.c.id.length + 4 + (x.c.wth.length + 4) + 1 + ((hB x.c.h).length + 4) + (staB x.c.t).length) ≤ 700000 := by rw [List.length_append]; omega
      generalize hzs : ys ++ ts = zs at *
      have Hzs := Lib.hid hzs
      clear hrng st hap oXY st4 hY4 hzs hsl hzl
      refine wp_region_held_drew (S := fun w' => w'.heap[X]? = some (.cells (sec x).toArray 97 (0, 0))) (by kernel_rfl) hX4 (fun hHeld => ?_)
      refine' wpAnyH_take (i := 0) (v := _) (op_at rfl) (by kernel_rfl) (by kernel_rfl) (by kernel_rfl) (fun _ _ _ h => h) (Or.inl ⟨by rfl, ?hy1⟩) (by assumption) ?rest1
      case hy1 =>
        intro w' hS
        go_simp
        try with_reducible rfl
      try simp only [Act.put, List.setIfInBounds_toArray, List.set_cons_zero, List.set_cons_succ]
      refine' wpAnyH_take (i := 1) (v := _) (op_at rfl) (by kernel_rfl) (by kernel_rfl) (by kernel_rfl) (fun _ _ _ h => h) (Or.inl ⟨by rfl, ?hy2⟩) (by assumption) ?rest2
      case hy2 =>
        intro w' hS
        go_simp
        try with_reducible rfl
      try simp only [Act.put, List.setIfInBounds_toArray, List.set_cons_zero, List.set_cons_succ]
      refine' wpAnyH_take (i := 2) (v := _) (op_at rfl) (by kernel_rfl) (by kernel_rfl) (by kernel_rfl) (fun _ _ _ h => h) (Or.inl ⟨by rfl, ?hy3⟩) (by assumption) ?rest3
      case hy3 =>
        intro w' hS
        have q_ : w'.cell? ⟨X, 0, none⟩ = some (x.vi) := cell_in hS 0
        go_simp
        try with_reducible rfl
      try simp only [Act.put, List.setIfInBounds_toArray, List.set_cons_zero, List.set_cons_succ]
      refine' wpAnyH_take (i := 4) (v := _) (op_at rfl) (by kernel_rfl) (by kernel_rfl) (by kernel_rfl) (fun _ _ _ h => h) (Or.inl ⟨by rfl, ?hy4⟩) (by assumption) ?rest4
      case hy4 =>
        intro w' hS
        go_simp
        try with_reducible rfl
      try simp only [Act.put, List.setIfInBounds_toArray, List.set_cons_zero, List.set_cons_succ]
      refine' wpAnyH_take (i := 5) (v := _) (op_at rfl) (by kernel_rfl) (by kernel_rfl) (by kernel_rfl) (fun _ _ _ h => h) (Or.inl ⟨by rfl, ?hy5⟩) (by assumption) ?rest5
      case hy5 =>
        intro w' hS
        have q_ : w'.cell? ⟨X, 1, none⟩ = some (x.vw) := cell_in hS 1
        go_simp
        try with_reducible rfl
      try simp only [Act.put, List.setIfInBounds_toArray, List.set_cons_zero, List.set_cons_succ]
      refine' wpAnyH_take (i := 7) (v := _) (op_at rfl) (by kernel_rfl) (by kernel_rfl) (by kernel_rfl) (fun _ _ _ h => h) (Or.inl ⟨by rfl, ?hy6⟩) (by assumption) ?rest6
      case hy6 =>
        intro w' hS
        go_simp
        try with_reducible rfl
      try simp only [Act.put, List.setIfInBounds_toArray, List.set_cons_zero, List.set_cons_succ]
      refine' wpAnyH_take (i := 8) (v := _) (op_at rfl) (by kernel_rfl) (by kernel_rfl) (by kernel_rfl) (fun _ _ _ h => h) (Or.inl ⟨by rfl, ?hy7⟩) (by assumption) ?rest7
      case hy7 =>
        intro w' hS
        have q_ : w'.cell? ⟨X, 8, none⟩ = some (.bool x.c.tell) := cell_in hS 8
        go_simp
        try with_reducible rfl
      try simp only [Act.put, List.setIfInBounds_toArray, List.set_cons_zero, List.set_cons_succ]
      refine' wpAnyH_take (i := 10) (v := _) (op_at rfl) (by kernel_rfl) (by kernel_rfl) (by kernel_rfl) (fun _ _ _ h => h) (Or.inl ⟨by rfl, ?hy8⟩) (by assumption) ?rest8
      case hy8 =>
        intro w' hS
        go_simp
        try with_reducible rfl
      try simp only [Act.put, List.setIfInBounds_toArray, List.set_cons_zero, List.set_cons_succ]
      refine wpAnyH_take (i := 11) (op_at rfl) (by kernel_rfl) (by kernel_rfl) (by kernel_rfl) (fun _ _ _ h => h) (yieldsIf_load_mid (by rfl) _ _ rfl X 2 rfl [x.va, x.vs, x.vk, .int .u32 x.c.h.signed, .bool x.c.h.has, .int .u32 x.c.h.once] _ (fun w' hS => hello_at hS) Try.underlying90 (by rfl) (by kernel_rfl)) (by assumption) ?_
      try simp only [Act.put, List.setIfInBounds_toArray, List.set_cons_zero, List.set_cons_succ]
      refine wpAnyH_ready (rs := [3]) (by kernel_rfl) (by simp) (AllReadyH.cons (op_at rfl) (fun K hK => ?_) AllReadyH.nil)
      go_simp
      (with_reducible refine (wpart_st st0 hW2 hx4.i (by omega)).mono fun e w5 hq => ?_)
      obtain ⟨rfl, st5⟩ := hq
      have h5 := st5.only
      go_wp2_with fail
      refine hK.out _ _ (h5.at hX4 hXn) (fun hHeld => ?_)
      clear hK K
      try simp only [Act.put, List.setIfInBounds_toArray, List.set_cons_zero, List.set_cons_succ]
      refine wpAnyH_ready (rs := [6]) (by kernel_rfl) (by simp) (AllReadyH.cons (op_at rfl) (fun K hK => ?_) AllReadyH.nil)
      go_simp
      (with_reducible refine (wpart_st st5 hW2 hx4.y (by simp only [List.length_append, List.length_cons, List.length_nil, lb_len, be_len]; omega)).mono fun e w6 hq => ?_)
      obtain ⟨rfl, st6⟩ := hq
      have h6 := st6.only
      go_wp2_with fail
      refine hK.out _ _ (h6.at hX4 hXn) (fun hHeld => ?_)
      clear hK K
      try simp only [Act.put, List.setIfInBounds_toArray, List.set_cons_zero, List.set_cons_succ]
      refine wpAnyH_ready (rs := [9]) (by kernel_rfl) (by simp) (AllReadyH.cons (op_at rfl) (fun K hK => ?_) AllReadyH.nil)
      go_simp
      (with_reducible refine (wflag_st st6 x.c.tell (by simp only [List.length_append, List.length_cons, List.length_nil, lb_len, be_len]; omega)).mono fun e w7 hq => ?_)
      obtain ⟨rfl, st7⟩ := hq
      have h7 := st7.only
      go_wp2_with fail
      refine hK.out _ _ (h7.at hX4 hXn) (fun hHeld => ?_)
      clear hK K
      try simp only [Act.put, List.setIfInBounds_toArray, List.set_cons_zero, List.set_cons_succ]
      obtain ⟨hg7, hs7, hk7⟩ := HRD.out w7 (m3x.step h7 (own_list m2x))
      refine wpAnyH_ready (rs := [12]) (by kernel_rfl) (by simp) (AllReadyH.cons (op_at rfl) (fun K hK => ?_) AllReadyH.nil)
      go_simp
      refine (enchello_any x.va x.vs x.vk x.c.h.ag x.c.h.sg x.c.h.key x.c.h.signed x.c.h.once x.c.h.has _ hg7 hs7 hk7 hus huo hel).mono fun e w8 hq => ?_
      obtain ⟨v8, rfl, hv8, hn8, o8⟩ := hq
      obtain ⟨v5, n5, n6, st8, hap8⟩ := st7.box o8
      go_wp2_with fail
      refine hK.out _ _ ((h7.trans (o8.mono (by simp))).at hX4 hXn) (fun hHeld => ?_)
      clear hK K
      try simp only [Act.put, List.setIfInBounds_toArray, List.set_cons_zero, List.set_cons_succ]
      have hoff : Off v8 (B :: v5.ownBlock.toList) := fun _ k hk hm => hap8 k ((hn8 k hk).resolve_left (by simp [Value.ownBlock])) hm
      refine wpAnyH_ready (rs := [13]) (by kernel_rfl) (by simp) (AllReadyH.cons (op_at rfl) (fun K hK => ?_) AllReadyH.nil)
      go_simp
      (with_reducible refine (wbytes_st st8 (own_rd hv8) hoff (by simp only [List.length_append, List.length_cons, List.length_nil, lb_len, be_len]; omega) (by omega)).mono fun e w9 hq => ?_)
      obtain ⟨rfl, st9⟩ := hq
      have stN := St.trans n5 n6 st9
      go_wp2_with fail
      refine hK.out _ _ (stN.only.at hX4 hXn) (fun hHeld => ?_)
      clear hK K
      try simp only [Act.put, List.setIfInBounds_toArray, List.set_cons_zero, List.set_cons_succ]
      refine wpAnyH_done (by kernel_rfl) ?_ _
      have hXN := stN.only.at hX4 hXn
      have hrg9 := state_at hXN
      have hx9 := HSE.out w9 (k3'.step (m3.step stN.only (own_list m2)) (own_list k2)) x hmem
      have hstl := stc_len x.st
      have hE9 := hx9.e
      rw [show helloB x.c.h.ag x.c.h.sg x.c.h.key x.c.h.signed x.c.h.has x.c.h.once = hB x.c.h from rfl] at stN
      generalize hzN : zs ++ lb x.c.id ++ lb x.c.wth ++ [if x.c.tell = true then 1 else 0] ++ be (hB x.c.h).length 4 ++ hB x.c.h = zN at *
      have hzNl : zN.length + (staB x.st.c).length ≤ 700000 := by rw [← hzN, ← hE9]; simp only [List.length_append, List.length_cons, List.length_nil, lb_len, be_len]; omega
      have hlay := stN.step fun v6 r1 r2 => rlay_any a b B v6 zN x.st w9 r1 (hW2.next r2 (Nat.le_trans HB.out m3x.size)) hx9.t (Nat.le_trans HB.out (k3'.step (m3.step stN.only (own_list m2)) (own_list k2)).size) (hns.out x hmem) (by omega)
      have HzN := Lib.hid hzN
      have HE9 := Lib.hid hE9
      clear hzN hE9 hXN stN st9 st8 st7 st6 st5 st0 hX4 hx4 hx9 hHeld
      go_wp2_with (refine wpList_load_mid rfl 95 _ rfl X 9 rfl (stc x.st) _ hrg9 Try.underlying95 (by rfl) (by rw [hstl]; kernel_rfl) ?_)
      refine hlay.mono ?_
      rintro e wA ⟨rfl, stA⟩
      have stE := St.trans m2 m3 stA
      have hEq : Hid (zN ++ staB x.st.c = ys ++ (l.take (i + 1)).flatMap fun x => seB x.c) := by
        show _ = _
        rw [Hft.out, ← HzN.out, ← Hzs.out, ← HE9.out, show seB x.c = lb x.c.id ++ lb x.c.wth ++ [if x.c.tell then 1 else 0] ++ (be (hB x.c.h).length 4 ++ hB x.c.h) ++ staB x.c.t from rfl]
        simp only [List.append_assoc]
      rw [hEq.out] at stE
      clear hlay stA hrg9
      go_wp2_with fail
      exact ⟨⟨i + 1, by simp, by omega, stE⟩, by simp [intOf]; omega⟩
    · obtain rfl : i = l.length := by omega
      have d1 : decide ((l.length : Int) < l.length) = false := by simp
      rw [List.take_length, HYS.out] at st
      have stF := St.trans k2 k3' st
      rw [List.append_assoc, ← Hend.out] at stF
      clear st HP
      go_wp2_with fail
      go_end0
      exact ⟨rfl, stF⟩
end Go.Proofs.Ytdlbkdnpbcpjfaa
