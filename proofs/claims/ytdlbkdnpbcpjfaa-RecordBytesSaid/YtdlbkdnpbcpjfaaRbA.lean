/- record.Decode. Printed by gen_rba.py. -/
import Derived.Test.YtdlbkdnpbcpjfaaRbF
set_option linter.unusedSimpArgs false
set_option linter.unusedVariables false
namespace Go.Proofs.Ytdlbkdnpbcpjfaa
open Go.RowKit Go.Pw Go.Pw.Fl
set_option linter.unusedVariables false

theorem byt_lb {xs : List Int} (h : Byt xs) : Byt (lb xs) := (be_byt _ _).app h
theorem byt_flat {α : Type} {f : α → List Int} {l : List α} (h : ∀ x ∈ l, Byt (f x)) : Byt (l.flatMap f) := fun y hy => by
  obtain ⟨x, hx, hy⟩ := List.mem_flatMap.1 hy
  exact h x hx y hy
theorem byt_sk {a b : Nat} {w : World} {x : Sk} (h : SkI a b w x) : Byt (skB x.c) := ((byt_lb h.o.2.2.2).app (be_byt _ _)).app (byt_lb h.k.2.2.2)
theorem byt_sto {a b : Nat} {w : World} {S : Option Nat} {l : List Sk} (h : StoI a b w S l) : Byt (stoB (l.map Sk.c)) := by
  refine (be_byt _ _).app (byt_flat fun y hy => ?_)
  obtain ⟨x, hx, rfl⟩ := List.mem_map.1 hy
  cases S with
  | none => rw [show l = [] from h] at hx; simp at hx
  | some S =>
    obtain ⟨_, _, _, _, _, h5⟩ := h
    exact byt_sk (h5 x hx)
theorem byt_sta {a b : Nat} {w : World} {x : Sta} (h : StaI a b w x) : Byt (staB x.c) := by
  have := byt_sto h.l
  rw [← h.e] at this
  exact ((((((byt_lb h.o.2.2.2).app (byt_lb h.t.2.2.2)).app (byt_lb h.r.2.2.2)).app ((byt_lb h.s.2.2.2).app (be_byt _ _))).app ((byt_lb h.k.2.2.2).app (be_byt _ _))).app (be_byt _ _)).app this
theorem byt_se {a b : Nat} {w : World} {x : Se} (h : SeI a b w x) : Byt (seB x.c) := by
  have := byt_sta h.t
  rw [← h.e] at this
  exact ((((byt_lb h.i.2.2.2).app (byt_lb h.y.2.2.2)).app (byt_flag _)).app (byt_lb (byt_hello _ _ _ h.g.2.2.2 h.s.2.2.2 h.k.2.2.2))).app this
theorem byt_rv {a b : Nat} {w : World} {x : Rv} (h : RvI a b w x) : Byt (rcB x.c) := by
  have : Byt (quB x.c.q) := by
    rw [h.e]
    obtain ⟨_, _, _, _, _, h5⟩ := h.l
    refine (be_byt _ _).app (byt_flat fun y hy => ?_)
    obtain ⟨z, hz, rfl⟩ := List.mem_map.1 hy
    exact byt_se (h5 z hz)
  exact ((((((be_byt _ _).app (be_byt _ _)).app (byt_lb h.ag.2.2.2)).app (byt_lb h.sg.2.2.2)).app (byt_flag _)).app (be_byt _ _)).app this
theorem byt_bk {a b : Nat} {w : World} {l : List Rv} (h : ∀ x ∈ l, RvI a b w x) : Byt (bkB (l.map Rv.c)) := by
  refine (be_byt _ _).app (byt_flat fun y hy => ?_)
  obtain ⟨x, hx, rfl⟩ := List.mem_map.1 hy
  exact byt_rv (h x hx)
theorem rend_b {R : Nat} {p : Value} {s : List Int × Bool} {W w : World} {b : Bool} (h : RT R p s W w) (hb : Ends s = b) :
    Calls Try.prog 55 #[.pointer (some ⟨R, 0, none⟩)] w fun e w' => e = .returned (.bool b) ∧ w = w' := by
  have := rend_rt h
  rwa [show (!s.2 && decide (s.1.length = 0)) = b from hb] at this
/-- What Decode answers. -/
def DecBk (ps : List Int) (w : World) (e : Ending) (w' : World) : Prop :=
  Only w w' [] ∧ ((∃ (B : Nat) (v : Value) (l : List Rv), e = .returned (.tuple #[.pointer (some ⟨B, 0, none⟩), .int .i64 0]) ∧ Pw.Sep w w' (row 36 7 v (l.map Rv.r).length (fl rc (l.map Rv.r)) :: blk B [v] 68 :: []) ∧ (∀ x ∈ l, RvI 0 w'.heap.size w' x) ∧ pBk ps = some (l.map Rv.c) ∧ bkB (l.map Rv.c) = ps ∧ l.length ≤ 4096) ∨
    (e = .returned (.tuple #[.pointer none, .int .i64 4]) ∧ pBk ps = none))

set_option maxRecDepth 100000 in
set_option maxHeartbeats 6400000 in
theorem decode_any (ao : Option Addr) (cp : Nat) (ps : List Int) (w : World) (hp : Rd w (.slice ao ps.length cp) ps) (hb : Byt ps) (hl : ps.length ≤ 50000) :
    Calls Try.prog 26 #[.slice ao ps.length cp] w (DecBk ps w) := by
  obtain ⟨i0, hi0, hz0, hz1, hz2⟩ := info_parts rec_info8
  go_enter Try.func26, Try.ntmps26
  go_wp2_with fail
  refine (rread_any ao ps.length cp w).mono ?_
  rintro e W1 ⟨rfl, hW1⟩
  obtain ⟨R, hR⟩ : ∃ R, R = w.heap.size := ⟨_, rfl⟩
  rw [← hR]
  have oW1 : Only w W1 [] := by rw [hW1]; exact Only.alloc w _ []
  have hR1 : W1.heap[R]? = some (.cells #[.slice ao ps.length cp, .bool false] 131 (0, 0)) := by rw [hW1, hR]; exact heap_alloc_new w _
  have rt0 := rt_new hp hb (by omega) oW1 hR1
  have hRlt := rt0.rlt
  have hRl : ∀ k ∈ [R], w.heap.size ≤ k := by simp; omega
  have hpR := hp
  have hsp : slen (.slice ao ps.length cp) ≤ 50000 := hl
  clear hW1 hR hR1 hp
  go_wp2_with fail
  refine (new_any W1).mono ?_
  rintro e w2 ⟨rfl, rfl⟩
  obtain ⟨B, hB⟩ : ∃ B, B = W1.heap.size := ⟨_, rfl⟩
  have hBl : W1.heap.size ≤ B := by omega
  have hB2 : (W1.alloc (.cells #[.slice none 0 0] 68)).heap[B]? = some (.cells #[.slice none 0 0] 68 (0, 0)) := by rw [hB]; exact heap_alloc_new W1 _
  have oB := Only.alloc W1 (.cells #[.slice none 0 0] 68) []
  rw [← hB]
  clear hB
  generalize W1.alloc (.cells #[.slice none 0 0] 68) = w2 at *
  go_wp2_with fail
  refine (rcount_rt (rt0.new oB).here 4096 (by omega)).mono ?_
  rintro e w3 ⟨c, s1, Hc, rfl, hc4, rt1⟩
  have hBR : B ∉ [R] := by simp; omega
  have hB3 := rt1.only.at hB2 hBR
  have rtA := (rt0.new oB).back rt1
  have HBk0 : pBk ps = endBk ps (pRcs c [] s1) := by rw [pBk, (pC_nat Hc.out).1, (pC_nat Hc.out).2]
  have HBk := Lib.hid HBk0
  clear rt1 rt0 hB2 oB HBk0
  go_wp2_with fail
  go_loopw [15] (fun y wr => ∃ (i : Nat) (l : List Rv) (v : Value) (s2 : List Int × Bool), y = .int .i64 i ∧ i ≤ c ∧ Hid (l.length = i) ∧ Hid (pRcs (c - i) (l.map Rv.c) s2 = pRcs c [] s1) ∧ RT R (.slice ao ps.length cp) s2 W1 wr ∧ wr.heap[B]? = some (.cells #[v] 68 (0, 0)) ∧ wr.ownsRow 0 36 7 v (l.map Rv.r).length (fl rc (l.map Rv.r)) ∧ Hid (∀ k, v.ownBlock = some k → W1.heap.size ≤ k ∧ k ≠ B) ∧ Hid (∀ x ∈ l, EI W1.heap.size v B wr fun a b w => RvI a b w x)) (fun y _ => c - (intOf y).toNat)
  case atStart => exact ⟨0, [], .slice none 0 0, s1, rfl, Nat.zero_le _, rfl, rfl, rtA, hB3, World.ownsRow_nil _ _ _ _, fun k hk => by simp [Value.ownBlock] at hk, fun x hx => by simp at hx⟩
  case round =>
    clear hB3 rtA
    obtain ⟨i, l, v, s2, rfl, hi, Hl, HP, rt, hBr, hrow, Hv, HEl⟩ := hrel
    by_cases hic : i < c
    · have d1 : decide ((i : Int) < c) = true := by simpa using hic
      have RW1 := rt
      have m1 : W1.heap.size ≤ wr.heap.size := rt.only.size
      have hvl := own_lt hrow
      have Hvl := Lib.hid hvl
      have hBlt : B < wr.heap.size := (Array.getElem?_eq_some_iff.1 hBr).1
      clear hvl
      go_wp2_with fail
      refine (rnum_rt RW1.here).mono ?_
      rintro e w2 ⟨n2, s3, H2, rfl, p2, q2, rt2⟩
      have o2 := rt2.only
      have m2 := o2.size
      have RW2 := RW1.back rt2
      have hn2 : IntKind.i64.wrap n2 = n2 := IntWalk.i64_in _ (by omega)
      go_wp2_with fail
      refine (rnum_rt RW2.here).mono ?_
      rintro e w3 ⟨n3, s4, H3, rfl, p3, q3, rt3⟩
      have o3 := rt3.only
      have m3 := o3.size
      have RW3 := RW2.back rt3
      have hn3 : IntKind.i64.wrap n3 = n3 := IntWalk.i64_in _ (by omega)
      go_wp2_with fail
      refine (rbytes_rt RW3.here).mono ?_
      rintro e w4 ⟨v4, x4, s5, H4, rfl, g4, l4, rt4⟩
      obtain ⟨a4, c4, rfl⟩ := g4.1
      have o4 := rt4.only
      have m4 := o4.size
      have RW4 := RW3.back rt4
      have i4 := g4.rdI l4
      clear g4 rt2 rt3 rt4 l4
      go_wp2_with fail
      refine (rbytes_rt RW4.here).mono ?_
      rintro e w5 ⟨v5, x5, s6, H5, rfl, g5, l5, rt5⟩
      obtain ⟨a5, c5, rfl⟩ := g5.1
      have o5 := rt5.only
      have m5 := o5.size
      have RW5 := RW4.back rt5
      have i5 := g5.rdI l5
      replace i4 := i4.keep o5 (fun k hk => by simp only [List.mem_singleton] at hk; omega)
      clear g5 rt5 l5
      go_wp2_with fail
      refine (rflag_rt RW5.here).mono ?_
      rintro e w6 ⟨f6, s7, H6, rfl, rt6⟩
      have o6 := rt6.only
      have m6 := o6.size
      have RW6 := RW5.back rt6
      replace i4 := i4.keep o6 (fun k hk => by simp only [List.mem_singleton] at hk; omega)
      replace i5 := i5.keep o6 (fun k hk => by simp only [List.mem_singleton] at hk; omega)
      clear rt6
      go_wp2_with fail
      refine (rnum8_rt RW6.here).mono ?_
      rintro e w7 ⟨n7, s8, H7, rfl, p7, q7, rt7⟩
      have o7 := rt7.only
      have m7 := o7.size
      have RW7 := RW6.back rt7
      replace i4 := i4.keep o7 (fun k hk => by simp only [List.mem_singleton] at hk; omega)
      replace i5 := i5.keep o7 (fun k hk => by simp only [List.mem_singleton] at hk; omega)
      clear rt7
      go_wp2_with fail
      refine (time_any n7 p7 q7 _).mono ?_
      rintro e wt ⟨rfl, rfl⟩
      have hob : ([.int .i64 n2, .int .i64 n3, .slice a4 x4.length c4, .slice a5 x5.length c5, .pointer none, .bool f6, .float .f64 (tTime n7)] : List Value).toArray.all (·.oneCell') = true := by simp [Value.oneCell']
      go_wp2_with (first
        | (refine wpList_alloc_new rfl 36 rfl rv0 (fun _ => by kernel_rfl) ?_; intro T wT oT hTl hT)
        | (refine wpList_store_blk rfl 36 _ _ rfl T [.int .i64 n2, .int .i64 n3, .slice a4 x4.length c4, .slice a5 x5.length c5, .pointer none, .bool f6, .float .f64 (tTime n7)] rfl rfl hT rfl (by kernel_rfl) hob ?_; intro w8 oU hT8; have o8 := oT.new oU (fun i hi => by simp only [List.mem_singleton] at hi; omega); have m8 := o8.size; have hTlt := (Array.getElem?_eq_some_iff.1 hT8).1; clear hT oT oU))
      have RW8 := RW7.new o8
      replace i4 := i4.keep o8 (by simp)
      replace i5 := i5.keep o8 (by simp)
      have hTR : T ∉ [R] := by simp; omega
      refine (seread_any RW8.here hsp).mono ?_
      rintro e w9 ⟨rq, s9, Hq, rt9, hr⟩
      have o9 := rt9.only
      have m9 := o9.size
      have RW9 := RW8.back rt9
      have hT9' := o9.at hT8 hTR
      replace i4 := i4.keep o9 (fun k hk => by simp only [List.mem_singleton] at hk; omega)
      replace i5 := i5.keep o9 (fun k hk => by simp only [List.mem_singleton] at hk; omega)
      clear rt9 hT8
      have hAll : Only wr w9 [R] := (((o2.trans (o3.trans (o4.trans (o5.trans (o6.trans o7)))))).trans (o8.mono (by simp))).trans o9
      have hVR : ∀ k, v.ownBlock = some k → k ∉ [R] := fun k hk => by
        have h1 := (Hv.out k hk).1
        simp only [List.mem_singleton]
        omega
      have oDr := Only.drew w9 []
      have hB9 : w9.drew.heap[B]? = some (.cells #[v] 68 (0, 0)) := hAll.at hBr (by simp only [List.mem_singleton]; omega)
      have hrow9 : w9.drew.ownsRow 0 36 7 v (l.map Rv.r).length (fl rc (l.map Rv.r)) := own_only (own_only hrow hAll (fun k hk hm => hVR k hk hm)) oDr (fun _ _ => by simp)
      have hT9 : w9.drew.heap[T]? = some (.cells ([.int .i64 n2, .int .i64 n3, .slice a4 x4.length c4, .slice a5 x5.length c5, .pointer none, .bool f6, .float .f64 (tTime n7)] : List Value).toArray 36 (0, 0)) := hT9'
      have RWD := RW9.new oDr
      replace i4 := i4.keep oDr (by simp)
      replace i5 := i5.keep oDr (by simp)
      have hE9 : Hid (∀ y ∈ l, EI W1.heap.size v B w9.drew fun a b w => RvI a b w y) := fun y hy => ((HEl.out y hy).keep (kp_rv y) hAll fun k hk => by simp only [List.mem_singleton] at hk; omega).keep (kp_rv y) oDr (by simp)
      have hci : c - i = (c - (i + 1)) + 1 := by omega
      have Hci := Lib.hid hci
      have hpR0 : pRc s2 = (rq.map (fun q => (⟨n2, n3, x4, x5, f6, kKey (tTime n7), q⟩ : RD)), s9) := by simp only [pRc, H2.out, H3.out, H4.out, H5.out, H6.out, H7.out, Hq]
      have HpR := Lib.hid hpR0
      have hmD : w9.drew.heap.size = w9.heap.size := rfl
      have HAll := Lib.hid hAll
      have hwT : wr.heap.size ≤ T := by omega
      clear hci hpR0 hT9' hAll hrow hBr Hq hob
      cases rq with
      | none =>
        obtain ⟨qv, rfl⟩ := hr
        go_upto_region 8 with fail
        refine wp_region_held_drew (S := fun w' => Only w9.drew w' []) (by kernel_rfl) (Only.refl _ _) (fun hHeld => ?_)
        refine' wpAnyH_take (i := 0) (v := _) (op_at rfl) (by kernel_rfl) (by kernel_rfl) (by kernel_rfl) (fun _ _ _ h => h) (Or.inl ⟨by rfl, ?hy1⟩) (by assumption) ?rest1
        case hy1 =>
          intro w' hS
          go_simp
          try with_reducible rfl
        try simp only [Act.put, List.setIfInBounds_toArray, List.set_cons_zero, List.set_cons_succ]
        refine' wpAnyH_take (i := 1) (v := _) (op_at rfl) (by kernel_rfl) (by kernel_rfl) (by kernel_rfl) (fun _ _ _ h => h) (Or.inl ⟨by rfl, ?hy2⟩) (by assumption) ?rest2
        case hy2 =>
          intro w' hS
          go_simp
          try with_reducible rfl
        try simp only [Act.put, List.setIfInBounds_toArray, List.set_cons_zero, List.set_cons_succ]
        refine' wpAnyH_take (i := 2) (v := _) (op_at rfl) (by kernel_rfl) (by kernel_rfl) (by kernel_rfl) (fun _ _ _ h => h) (Or.inl ⟨by rfl, ?hy3⟩) (by assumption) ?rest3
        case hy3 =>
          intro w' hS
          go_simp
          try with_reducible rfl
        try simp only [Act.put, List.setIfInBounds_toArray, List.set_cons_zero, List.set_cons_succ]
        refine wpAnyH_take (i := 3) (v := undef) (op_at rfl) (by kernel_rfl) (by kernel_rfl) (by kernel_rfl) (fun _ _ _ h => h) (Or.inr ⟨by rfl, rfl⟩) (by assumption) ?_
        try simp only [Act.put, List.setIfInBounds_toArray, List.set_cons_zero, List.set_cons_succ]
        refine wpAnyH_take (i := 4) (v := undef) (op_at rfl) (by kernel_rfl) (by kernel_rfl) (by kernel_rfl) (fun _ _ _ h => h) (Or.inr ⟨by rfl, rfl⟩) (by assumption) ?_
        try simp only [Act.put, List.setIfInBounds_toArray, List.set_cons_zero, List.set_cons_succ]
        refine wpAnyH_take (i := 5) (v := undef) (op_at rfl) (by kernel_rfl) (by kernel_rfl) (by kernel_rfl) (fun _ _ _ h => h) (Or.inr ⟨by rfl, rfl⟩) (by assumption) ?_
        try simp only [Act.put, List.setIfInBounds_toArray, List.set_cons_zero, List.set_cons_succ]
        refine wpAnyH_take (i := 6) (v := undef) (op_at rfl) (by kernel_rfl) (by kernel_rfl) (by kernel_rfl) (fun _ _ _ h => h) (Or.inr ⟨by rfl, rfl⟩) (by assumption) ?_
        try simp only [Act.put, List.setIfInBounds_toArray, List.set_cons_zero, List.set_cons_succ]
        refine wpAnyH_take (i := 7) (v := undef) (op_at rfl) (by kernel_rfl) (by kernel_rfl) (by kernel_rfl) (fun _ _ _ h => h) (Or.inr ⟨by rfl, rfl⟩) (by assumption) ?_
        try simp only [Act.put, List.setIfInBounds_toArray, List.set_cons_zero, List.set_cons_succ]
        refine wpAnyH_take (i := 8) (v := undef) (op_at rfl) (by kernel_rfl) (by kernel_rfl) (by kernel_rfl) (fun _ _ _ h => h) (Or.inr ⟨by rfl, rfl⟩) (by assumption) ?_
        try simp only [Act.put, List.setIfInBounds_toArray, List.set_cons_zero, List.set_cons_succ]
        refine wpAnyH_take (i := 9) (v := undef) (op_at rfl) (by kernel_rfl) (by kernel_rfl) (by kernel_rfl) (fun _ _ _ h => h) (Or.inr ⟨by rfl, rfl⟩) (by assumption) ?_
        try simp only [Act.put, List.setIfInBounds_toArray, List.set_cons_zero, List.set_cons_succ]
        refine wpAnyH_take (i := 10) (v := undef) (op_at rfl) (by kernel_rfl) (by kernel_rfl) (by kernel_rfl) (fun _ _ _ h => h) (Or.inr ⟨by rfl, rfl⟩) (by assumption) ?_
        try simp only [Act.put, List.setIfInBounds_toArray, List.set_cons_zero, List.set_cons_succ]
        refine wpAnyH_take (i := 11) (v := undef) (op_at rfl) (by kernel_rfl) (by kernel_rfl) (by kernel_rfl) (fun _ _ _ h => h) (Or.inr ⟨by rfl, rfl⟩) (by assumption) ?_
        try simp only [Act.put, List.setIfInBounds_toArray, List.set_cons_zero, List.set_cons_succ]
        refine wpAnyH_take (i := 12) (v := undef) (op_at rfl) (by kernel_rfl) (by kernel_rfl) (by kernel_rfl) (fun _ _ _ h => h) (Or.inr ⟨by rfl, rfl⟩) (by assumption) ?_
        try simp only [Act.put, List.setIfInBounds_toArray, List.set_cons_zero, List.set_cons_succ]
        refine wpAnyH_take (i := 13) (v := undef) (op_at rfl) (by kernel_rfl) (by kernel_rfl) (by kernel_rfl) (fun _ _ _ h => h) (Or.inr ⟨by rfl, rfl⟩) (by assumption) ?_
        try simp only [Act.put, List.setIfInBounds_toArray, List.set_cons_zero, List.set_cons_succ]
        refine wpAnyH_take (i := 14) (v := undef) (op_at rfl) (by kernel_rfl) (by kernel_rfl) (by kernel_rfl) (fun _ _ _ h => h) (Or.inr ⟨by rfl, rfl⟩) (by assumption) ?_
        try simp only [Act.put, List.setIfInBounds_toArray, List.set_cons_zero, List.set_cons_succ]
        refine wpAnyH_take (i := 15) (v := undef) (op_at rfl) (by kernel_rfl) (by kernel_rfl) (by kernel_rfl) (fun _ _ _ h => h) (Or.inr ⟨by rfl, rfl⟩) (by assumption) ?_
        try simp only [Act.put, List.setIfInBounds_toArray, List.set_cons_zero, List.set_cons_succ]
        refine wpAnyH_take (i := 16) (v := undef) (op_at rfl) (by kernel_rfl) (by kernel_rfl) (by kernel_rfl) (fun _ _ _ h => h) (Or.inr ⟨by rfl, rfl⟩) (by assumption) ?_
        try simp only [Act.put, List.setIfInBounds_toArray, List.set_cons_zero, List.set_cons_succ]
        refine wpAnyH_take (i := 17) (v := undef) (op_at rfl) (by kernel_rfl) (by kernel_rfl) (by kernel_rfl) (fun _ _ _ h => h) (Or.inr ⟨by rfl, rfl⟩) (by assumption) ?_
        try simp only [Act.put, List.setIfInBounds_toArray, List.set_cons_zero, List.set_cons_succ]
        refine wpAnyH_take (i := 18) (v := undef) (op_at rfl) (by kernel_rfl) (by kernel_rfl) (by kernel_rfl) (fun _ _ _ h => h) (Or.inr ⟨by rfl, rfl⟩) (by assumption) ?_
        try simp only [Act.put, List.setIfInBounds_toArray, List.set_cons_zero, List.set_cons_succ]
        refine wpAnyH_take (i := 19) (v := undef) (op_at rfl) (by kernel_rfl) (by kernel_rfl) (by kernel_rfl) (fun _ _ _ h => h) (Or.inr ⟨by rfl, rfl⟩) (by assumption) ?_
        try simp only [Act.put, List.setIfInBounds_toArray, List.set_cons_zero, List.set_cons_succ]
        refine' wpAnyH_take (i := 20) (v := _) (op_at rfl) (by kernel_rfl) (by kernel_rfl) (by kernel_rfl) (fun _ _ _ h => h) (Or.inl ⟨by rfl, ?hy21⟩) (by assumption) ?rest21
        case hy21 =>
          intro w' hS
          go_simp
          try with_reducible rfl
        try simp only [Act.put, List.setIfInBounds_toArray, List.set_cons_zero, List.set_cons_succ]
        refine wpAnyH_done (by kernel_rfl) ?_ _
        go_wp2_with fail
        refine bodyPost_ret (v := .tuple #[.pointer none, .int .i64 4]) (by simp [results, Try.results26, go_sem]) rfl ?_
        exact ⟨oW1.new (RWD.only.trans (hHeld.mono (by simp))) hRl, .inr ⟨rfl, by rw [HBk.out, ← HP.out, Hci.out, pRcs_none HpR.out]; rfl⟩⟩
      | some qd =>
        obtain ⟨Q, ql, rfl, hQ, hqm, hq4, hq32⟩ := hr
        obtain ⟨xe, hxe⟩ : ∃ xe : Rv, xe = ⟨⟨n2, n3, a4, x4.length, c4, a5, x5.length, c5, some ⟨Q, 0, none⟩, f6, tTime n7⟩, ⟨n2, n3, x4, x5, f6, kKey (tTime n7), qd⟩, Q, ql⟩ := ⟨_, rfl⟩
        have hpX : Hid (pRc s2 = (some xe.c, s9)) := by
          refine Lib.hid (?_ : pRc s2 = (some xe.c, s9))
          rw [HpR.out, hxe]
          rfl
        have hQD := hQ.keep oDr (by simp)
        have hXrc : Hid (rc xe.r = [.int .i64 n2, .int .i64 n3, .slice a4 x4.length c4, .slice a5 x5.length c5, .pointer (some ⟨Q, 0, none⟩), .bool f6, .float .f64 (tTime n7)]) := by show _ = _; rw [hxe]; rfl
        have hXu : Hid (xe.c.u = n2 ∧ xe.c.d = n3) := by show _ ∧ _; rw [hxe]; exact ⟨rfl, rfl⟩
        have HXE := Lib.hid hxe
        have Hq32 := Lib.hid hq32
        have Hqm := Lib.hid hqm
        clear hxe HpR hQ hqm hq32 H2 H3 H4 H5 H6 H7 RW1 RW2 RW3 RW4 RW5 RW6 RW7 RW8 RW9
        have HM : Hid ((l.map Rv.c).length = i) := by show _ = _; rw [List.length_map]; exact Hl.out
        obtain ⟨bl, hbl⟩ : ∃ bl, bl = late (l.map Rv.c) xe.c := ⟨_, rfl⟩
        have Hbl := Lib.hid hbl
        clear hbl
        go_upto_region 8 with fail
        go_cut [61] from 41 to 61 (fun u wx => u = .bool bl ∧ Only w9.drew wx [])
        case first =>
          by_cases hi0 : i = 0
          · have hbl0 : bl = false := by
              have hl0 : l = [] := List.eq_nil_of_length_eq_zero (by rw [Hl.out, hi0])
              rw [Hbl.out, hl0]
              rfl
            have Hbl0 := Lib.hid hbl0
            have di : decide (0 < (i : Int)) = false := by simp [hi0]
            have di2 : decide (0 < i) = false := by simp [hi0]
            clear hbl0 hi0
            refine wp_region_held_drew (S := fun w' => Only w9.drew w' []) (by kernel_rfl) (Only.refl _ _) (fun hHeld => ?_)
            refine' wpAnyH_take (i := 0) (v := _) (op_at rfl) (by kernel_rfl) (by kernel_rfl) (by kernel_rfl) (fun _ _ _ h => h) (Or.inl ⟨by rfl, ?hy22⟩) (by assumption) ?rest22
            case hy22 =>
              intro w' hS
              go_simp
              try with_reducible rfl
            try simp only [Act.put, List.setIfInBounds_toArray, List.set_cons_zero, List.set_cons_succ]
            refine' wpAnyH_take (i := 1) (v := _) (op_at rfl) (by kernel_rfl) (by kernel_rfl) (by kernel_rfl) (fun _ _ _ h => h) (Or.inl ⟨by rfl, ?hy23⟩) (by assumption) ?rest23
            case hy23 =>
              intro w' hS
              go_simp
              try with_reducible rfl
            try simp only [Act.put, List.setIfInBounds_toArray, List.set_cons_zero, List.set_cons_succ]
            refine' wpAnyH_take (i := 2) (v := _) (op_at rfl) (by kernel_rfl) (by kernel_rfl) (by kernel_rfl) (fun _ _ _ h => h) (Or.inl ⟨by rfl, ?hy24⟩) (by assumption) ?rest24
            case hy24 =>
              intro w' hS
              go_simp
              try with_reducible rfl
            try simp only [Act.put, List.setIfInBounds_toArray, List.set_cons_zero, List.set_cons_succ]
            refine' wpAnyH_take (i := 3) (v := _) (op_at rfl) (by kernel_rfl) (by kernel_rfl) (by kernel_rfl) (fun _ _ _ h => h) (Or.inl ⟨by rfl, ?hy25⟩) (by assumption) ?rest25
            case hy25 =>
              intro w' hS
              go_simp
              try with_reducible rfl
            try simp only [Act.put, List.setIfInBounds_toArray, List.set_cons_zero, List.set_cons_succ]
            refine' wpAnyH_take (i := 4) (v := _) (op_at rfl) (by kernel_rfl) (by kernel_rfl) (by kernel_rfl) (fun _ _ _ h => h) (Or.inl ⟨by rfl, ?hy26⟩) (by assumption) ?rest26
            case hy26 =>
              intro w' hS
              go_simp
              try with_reducible rfl
            try simp only [Act.put, List.setIfInBounds_toArray, List.set_cons_zero, List.set_cons_succ]
            refine' wpAnyH_take (i := 5) (v := _) (op_at rfl) (by kernel_rfl) (by kernel_rfl) (by kernel_rfl) (fun _ _ _ h => h) (Or.inl ⟨by rfl, ?hy27⟩) (by assumption) ?rest27
            case hy27 =>
              intro w' hS
              go_simp
              try with_reducible rfl
            try simp only [Act.put, List.setIfInBounds_toArray, List.set_cons_zero, List.set_cons_succ]
            refine wpAnyH_take (i := 6) (v := undef) (op_at rfl) (by kernel_rfl) (by kernel_rfl) (by kernel_rfl) (fun _ _ _ h => h) (Or.inr ⟨by rfl, rfl⟩) (by assumption) ?_
            try simp only [Act.put, List.setIfInBounds_toArray, List.set_cons_zero, List.set_cons_succ]
            refine wpAnyH_take (i := 7) (v := undef) (op_at rfl) (by kernel_rfl) (by kernel_rfl) (by kernel_rfl) (fun _ _ _ h => h) (Or.inr ⟨by rfl, rfl⟩) (by assumption) ?_
            try simp only [Act.put, List.setIfInBounds_toArray, List.set_cons_zero, List.set_cons_succ]
            refine wpAnyH_take (i := 8) (v := undef) (op_at rfl) (by kernel_rfl) (by kernel_rfl) (by kernel_rfl) (fun _ _ _ h => h) (Or.inr ⟨by rfl, rfl⟩) (by assumption) ?_
            try simp only [Act.put, List.setIfInBounds_toArray, List.set_cons_zero, List.set_cons_succ]
            refine wpAnyH_take (i := 9) (v := undef) (op_at rfl) (by kernel_rfl) (by kernel_rfl) (by kernel_rfl) (fun _ _ _ h => h) (Or.inr ⟨by rfl, rfl⟩) (by assumption) ?_
            try simp only [Act.put, List.setIfInBounds_toArray, List.set_cons_zero, List.set_cons_succ]
            refine wpAnyH_take (i := 10) (v := undef) (op_at rfl) (by kernel_rfl) (by kernel_rfl) (by kernel_rfl) (fun _ _ _ h => h) (Or.inr ⟨by rfl, rfl⟩) (by assumption) ?_
            try simp only [Act.put, List.setIfInBounds_toArray, List.set_cons_zero, List.set_cons_succ]
            refine wpAnyH_take (i := 11) (v := undef) (op_at rfl) (by kernel_rfl) (by kernel_rfl) (by kernel_rfl) (fun _ _ _ h => h) (Or.inr ⟨by rfl, rfl⟩) (by assumption) ?_
            try simp only [Act.put, List.setIfInBounds_toArray, List.set_cons_zero, List.set_cons_succ]
            refine wpAnyH_take (i := 12) (v := undef) (op_at rfl) (by kernel_rfl) (by kernel_rfl) (by kernel_rfl) (fun _ _ _ h => h) (Or.inr ⟨by rfl, rfl⟩) (by assumption) ?_
            try simp only [Act.put, List.setIfInBounds_toArray, List.set_cons_zero, List.set_cons_succ]
            refine wpAnyH_take (i := 13) (v := undef) (op_at rfl) (by kernel_rfl) (by kernel_rfl) (by kernel_rfl) (fun _ _ _ h => h) (Or.inr ⟨by rfl, rfl⟩) (by assumption) ?_
            try simp only [Act.put, List.setIfInBounds_toArray, List.set_cons_zero, List.set_cons_succ]
            refine wpAnyH_take (i := 14) (v := undef) (op_at rfl) (by kernel_rfl) (by kernel_rfl) (by kernel_rfl) (fun _ _ _ h => h) (Or.inr ⟨by rfl, rfl⟩) (by assumption) ?_
            try simp only [Act.put, List.setIfInBounds_toArray, List.set_cons_zero, List.set_cons_succ]
            refine wpAnyH_take (i := 15) (v := undef) (op_at rfl) (by kernel_rfl) (by kernel_rfl) (by kernel_rfl) (fun _ _ _ h => h) (Or.inr ⟨by rfl, rfl⟩) (by assumption) ?_
            try simp only [Act.put, List.setIfInBounds_toArray, List.set_cons_zero, List.set_cons_succ]
            refine wpAnyH_take (i := 16) (v := undef) (op_at rfl) (by kernel_rfl) (by kernel_rfl) (by kernel_rfl) (fun _ _ _ h => h) (Or.inr ⟨by rfl, rfl⟩) (by assumption) ?_
            try simp only [Act.put, List.setIfInBounds_toArray, List.set_cons_zero, List.set_cons_succ]
            refine wpAnyH_take (i := 17) (v := undef) (op_at rfl) (by kernel_rfl) (by kernel_rfl) (by kernel_rfl) (fun _ _ _ h => h) (Or.inr ⟨by rfl, rfl⟩) (by assumption) ?_
            try simp only [Act.put, List.setIfInBounds_toArray, List.set_cons_zero, List.set_cons_succ]
            refine wpAnyH_take (i := 18) (v := undef) (op_at rfl) (by kernel_rfl) (by kernel_rfl) (by kernel_rfl) (fun _ _ _ h => h) (Or.inr ⟨by rfl, rfl⟩) (by assumption) ?_
            try simp only [Act.put, List.setIfInBounds_toArray, List.set_cons_zero, List.set_cons_succ]
            refine' wpAnyH_take (i := 19) (v := _) (op_at rfl) (by kernel_rfl) (by kernel_rfl) (by kernel_rfl) (fun _ _ _ h => h) (Or.inl ⟨by rfl, ?hy41⟩) (by assumption) ?rest41
            case hy41 =>
              intro w' hS
              go_simp
              try with_reducible rfl
            try simp only [Act.put, List.setIfInBounds_toArray, List.set_cons_zero, List.set_cons_succ]
            refine' wpAnyH_take (i := 20) (v := _) (op_at rfl) (by kernel_rfl) (by kernel_rfl) (by kernel_rfl) (fun _ _ _ h => h) (Or.inl ⟨by rfl, ?hy42⟩) (by assumption) ?rest42
            case hy42 =>
              intro w' hS
              go_simp
              try with_reducible rfl
            try simp only [Act.put, List.setIfInBounds_toArray, List.set_cons_zero, List.set_cons_succ]
            refine wpAnyH_done (by kernel_rfl) ?_ _
            go_wp2_with fail
            go_meet
            case rel => exact ⟨by rw [Hbl0.out], hHeld⟩
          · obtain ⟨k, hk⟩ : ∃ k, i = k + 1 := ⟨i - 1, by omega⟩
            have hkl : k < (l.map Rv.r).length := by rw [List.length_map, Hl.out]; omega
            have hkl2 : k < l.length := by rw [Hl.out]; omega
            have di : decide (0 < (i : Int)) = true := by simp; omega
            have di2 : decide (0 < i) = true := by simp; omega
            have hks : (i : Int) - 1 = (k : Int) := by omega
            have hwk : IntKind.i64.wrap (k : Int) = (k : Int) := by rw [IntKind.wrap_i64]; omega
            have hkI : (0 : Int) ≤ (k : Int) ∧ (k : Int) < (l.map Rv.r).length := by omega
            have hIk := (hE9.out l[k] (List.getElem_mem hkl2)).fin (kp_rv l[k])
            have hbk0 : bl = decide (0 ≤ cmpW (l.map Rv.r)[k].u (l.map Rv.r)[k].d n2 n3) := by
              rw [Hbl.out, late, List.getLast?_eq_getElem?, HM.out, show i - 1 = k by omega, List.getElem?_map, List.getElem?_eq_getElem hkl2, List.getElem_map, hIk.u, hIk.d, hXu.out.1, hXu.out.2]
              rfl
            have Hbk := Lib.hid hbk0
            obtain ⟨av, cv, hvv⟩ := own_slice hrow9
            have hgv : ∃ g, av = some ⟨g, 0, none⟩ := by
              rw [hvv] at hrow9
              obtain ⟨g, h1, _⟩ := own_some hrow9 (by omega)
              exact ⟨g, h1⟩
            obtain ⟨g, rfl⟩ := hgv
            subst hvv
            generalize hmm : l.map Rv.r = m at *
            clear hk hi0 hbk0 hIk hkl2 hmm
            refine wp_region_held_drew (S := fun w' => Only w9.drew w' []) (by kernel_rfl) (Only.refl _ _) (fun hHeld => ?_)
            refine' wpAnyH_take (i := 0) (v := _) (op_at rfl) (by kernel_rfl) (by kernel_rfl) (by kernel_rfl) (fun _ _ _ h => h) (Or.inl ⟨by rfl, ?hy43⟩) (by assumption) ?rest43
            case hy43 =>
              intro w' hS
              go_simp
              try with_reducible rfl
            try simp only [Act.put, List.setIfInBounds_toArray, List.set_cons_zero, List.set_cons_succ]
            refine' wpAnyH_take (i := 1) (v := _) (op_at rfl) (by kernel_rfl) (by kernel_rfl) (by kernel_rfl) (fun _ _ _ h => h) (Or.inl ⟨by rfl, ?hy44⟩) (by assumption) ?rest44
            case hy44 =>
              intro w' hS
              go_simp
              try with_reducible rfl
            try simp only [Act.put, List.setIfInBounds_toArray, List.set_cons_zero, List.set_cons_succ]
            refine' wpAnyH_take (i := 2) (v := _) (op_at rfl) (by kernel_rfl) (by kernel_rfl) (by kernel_rfl) (fun _ _ _ h => h) (Or.inl ⟨by rfl, ?hy45⟩) (by assumption) ?rest45
            case hy45 =>
              intro w' hS
              go_simp
              try with_reducible rfl
            try simp only [Act.put, List.setIfInBounds_toArray, List.set_cons_zero, List.set_cons_succ]
            refine' wpAnyH_take (i := 3) (v := _) (op_at rfl) (by kernel_rfl) (by kernel_rfl) (by kernel_rfl) (fun _ _ _ h => h) (Or.inl ⟨by rfl, ?hy46⟩) (by assumption) ?rest46
            case hy46 =>
              intro w' hS
              go_simp
              try with_reducible rfl
            try simp only [Act.put, List.setIfInBounds_toArray, List.set_cons_zero, List.set_cons_succ]
            refine' wpAnyH_take (i := 4) (v := _) (op_at rfl) (by kernel_rfl) (by kernel_rfl) (by kernel_rfl) (fun _ _ _ h => h) (Or.inl ⟨by rfl, ?hy47⟩) (by assumption) ?rest47
            case hy47 =>
              intro w' hS
              go_simp
              try with_reducible rfl
            try simp only [Act.put, List.setIfInBounds_toArray, List.set_cons_zero, List.set_cons_succ]
            refine' wpAnyH_take (i := 5) (v := _) (op_at rfl) (by kernel_rfl) (by kernel_rfl) (by kernel_rfl) (fun _ _ _ h => h) (Or.inl ⟨by rfl, ?hy48⟩) (by assumption) ?rest48
            case hy48 =>
              intro w' hS
              go_simp
              try with_reducible rfl
            try simp only [Act.put, List.setIfInBounds_toArray, List.set_cons_zero, List.set_cons_succ]
            refine' wpAnyH_take (i := 6) (v := _) (op_at rfl) (by kernel_rfl) (by kernel_rfl) (by kernel_rfl) (fun _ _ _ h => h) (Or.inl ⟨by rfl, ?hy49⟩) (by assumption) ?rest49
            case hy49 =>
              intro w' hS
              go_simp
              try with_reducible rfl
            try simp only [Act.put, List.setIfInBounds_toArray, List.set_cons_zero, List.set_cons_succ]
            refine' wpAnyH_take (i := 7) (v := _) (op_at rfl) (by kernel_rfl) (by kernel_rfl) (by kernel_rfl) (fun _ _ _ h => h) (Or.inl ⟨by rfl, ?hy50⟩) (by assumption) ?rest50
            case hy50 =>
              intro w' hS
              go_simp
              try with_reducible rfl
            try simp only [Act.put, List.setIfInBounds_toArray, List.set_cons_zero, List.set_cons_succ]
            refine' wpAnyH_take (i := 8) (v := _) (op_at rfl) (by kernel_rfl) (by kernel_rfl) (by kernel_rfl) (fun _ _ _ h => h) (Or.inl ⟨by rfl, ?hy51⟩) (by assumption) ?rest51
            case hy51 =>
              intro w' hS
              go_simp
              try with_reducible rfl
            try simp only [Act.put, List.setIfInBounds_toArray, List.set_cons_zero, List.set_cons_succ]
            refine' wpAnyH_take (i := 9) (v := _) (op_at rfl) (by kernel_rfl) (by kernel_rfl) (by kernel_rfl) (fun _ _ _ h => h) (Or.inl ⟨by rfl, ?hy52⟩) (by assumption) ?rest52
            case hy52 =>
              intro w' hS
              have q_ := cell_of_one ((hS.at hB9 (by simp)))
              go_simp
              try with_reducible rfl
            try simp only [Act.put, List.setIfInBounds_toArray, List.set_cons_zero, List.set_cons_succ]
            refine' wpAnyH_take (i := 10) (v := _) (op_at rfl) (by kernel_rfl) (by kernel_rfl) (by kernel_rfl) (fun _ _ _ h => h) (Or.inl ⟨by rfl, ?hy53⟩) (by assumption) ?rest53
            case hy53 =>
              intro w' hS
              go_simp
              try with_reducible rfl
            try simp only [Act.put, List.setIfInBounds_toArray, List.set_cons_zero, List.set_cons_succ]
            refine' wpAnyH_take (i := 11) (v := _) (op_at rfl) (by kernel_rfl) (by kernel_rfl) (by kernel_rfl) (fun _ _ _ h => h) (Or.inl ⟨by rfl, ?hy54⟩) (by assumption) ?rest54
            case hy54 =>
              intro w' hS
              go_simp
              try with_reducible rfl
            try simp only [Act.put, List.setIfInBounds_toArray, List.set_cons_zero, List.set_cons_succ]
            refine' wpAnyH_take (i := 12) (v := _) (op_at rfl) (by kernel_rfl) (by kernel_rfl) (by kernel_rfl) (fun _ _ _ h => h) (Or.inl ⟨by rfl, ?hy55⟩) (by assumption) ?rest55
            case hy55 =>
              intro w' hS
              go_simp
              try with_reducible rfl
            try simp only [Act.put, List.setIfInBounds_toArray, List.set_cons_zero, List.set_cons_succ]
            refine' wpAnyH_take (i := 13) (v := _) (op_at rfl) (by kernel_rfl) (by kernel_rfl) (by kernel_rfl) (fun _ _ _ h => h) (Or.inl ⟨by rfl, ?hy56⟩) (by assumption) ?rest56
            case hy56 =>
              intro w' hS
              go_simp
              try with_reducible rfl
            try simp only [Act.put, List.setIfInBounds_toArray, List.set_cons_zero, List.set_cons_succ]
            refine' wpAnyH_take (i := 14) (v := _) (op_at rfl) (by kernel_rfl) (by kernel_rfl) (by kernel_rfl) (fun _ _ _ h => h) (Or.inl ⟨by rfl, ?hy57⟩) (by assumption) ?rest57
            case hy57 =>
              intro w' hS
              have l0_ : w'.cell? ⟨g, k * 7, none⟩ = some (.int .i64 m[k].u) := rec_cell rc_len (own_only hrow9 hS (fun _ _ => by simp)) hkl 0 (v := .int .i64 m[k].u) rfl
              have l1_ : w'.cell? ⟨g, k * 7 + 1, none⟩ = some (.int .i64 m[k].d) := rec_cell rc_len (own_only hrow9 hS (fun _ _ => by simp)) hkl 1 (v := .int .i64 m[k].d) rfl
              go_simp
              try with_reducible rfl
            try simp only [Act.put, List.setIfInBounds_toArray, List.set_cons_zero, List.set_cons_succ]
            refine' wpAnyH_take (i := 15) (v := _) (op_at rfl) (by kernel_rfl) (by kernel_rfl) (by kernel_rfl) (fun _ _ _ h => h) (Or.inl ⟨by rfl, ?hy58⟩) (by assumption) ?rest58
            case hy58 =>
              intro w' hS
              go_simp
              try with_reducible rfl
            try simp only [Act.put, List.setIfInBounds_toArray, List.set_cons_zero, List.set_cons_succ]
            refine' wpAnyH_take (i := 16) (v := _) (op_at rfl) (by kernel_rfl) (by kernel_rfl) (by kernel_rfl) (fun _ _ _ h => h) (Or.inl ⟨by rfl, ?hy59⟩) (by assumption) ?rest59
            case hy59 =>
              intro w' hS
              have t_ := hS.at hT9 (by simp)
              have t0_ : w'.cell? ⟨T, 0, none⟩ = some (.int .i64 n2) := cell_in t_ 0
              have t1_ : w'.cell? ⟨T, 1, none⟩ = some (.int .i64 n3) := cell_in t_ 1
              go_simp
              try with_reducible rfl
            try simp only [Act.put, List.setIfInBounds_toArray, List.set_cons_zero, List.set_cons_succ]
            refine wpAnyH_ready (rs := [17]) (by kernel_rfl) (by simp) (AllReadyH.cons (op_at rfl) (fun K hK => ?_) AllReadyH.nil)
            go_simp
            refine (compare_any m[k].u m[k].d n2 n3 _).mono fun e wc_ hq => ?_
            obtain ⟨rfl, oc⟩ := hq
            go_wp2_with fail
            refine hK.out _ _ oc (fun hHeld => ?_)
            clear hK K
            try simp only [Act.put, List.setIfInBounds_toArray, List.set_cons_zero, List.set_cons_succ]
            refine' wpAnyH_take (i := 18) (v := _) (op_at rfl) (by kernel_rfl) (by kernel_rfl) (by kernel_rfl) (fun _ _ _ h => h) (Or.inl ⟨by rfl, ?hy60⟩) (by assumption) ?rest60
            case hy60 =>
              intro w' hS
              go_simp
              try with_reducible rfl
            try simp only [Act.put, List.setIfInBounds_toArray, List.set_cons_zero, List.set_cons_succ]
            refine' wpAnyH_take (i := 19) (v := _) (op_at rfl) (by kernel_rfl) (by kernel_rfl) (by kernel_rfl) (fun _ _ _ h => h) (Or.inl ⟨by rfl, ?hy61⟩) (by assumption) ?rest61
            case hy61 =>
              intro w' hS
              go_simp
              try with_reducible rfl
            try simp only [Act.put, List.setIfInBounds_toArray, List.set_cons_zero, List.set_cons_succ]
            refine' wpAnyH_take (i := 20) (v := _) (op_at rfl) (by kernel_rfl) (by kernel_rfl) (by kernel_rfl) (fun _ _ _ h => h) (Or.inl ⟨by rfl, ?hy62⟩) (by assumption) ?rest62
            case hy62 =>
              intro w' hS
              go_simp
              try with_reducible rfl
            try simp only [Act.put, List.setIfInBounds_toArray, List.set_cons_zero, List.set_cons_succ]
            refine wpAnyH_done (by kernel_rfl) ?_ _
            go_wp2_with fail
            go_meet
            case rel => exact ⟨by rw [Hbk.out], hHeld⟩
        case rest =>
        obtain ⟨rfl, oc⟩ := hcut
        have RWc := RWD.new oc
        have hBc : wc.heap[B]? = some (.cells #[v] 68 (0, 0)) := oc.at hB9 (by simp)
        have hTc : wc.heap[T]? = some (.cells ([.int .i64 n2, .int .i64 n3, .slice a4 x4.length c4, .slice a5 x5.length c5, .pointer none, .bool f6, .float .f64 (tTime n7)] : List Value).toArray 36 (0, 0)) := oc.at hT9 (by simp)
        have hrowc := own_only hrow9 oc (fun _ _ => by simp)
        have oWc : Hid (Only wr wc [R]) := (HAll.out.trans (oDr.mono (by simp))).trans (oc.mono (by simp))
        have mc : w9.heap.size ≤ wc.heap.size := oc.size
        replace i4 := i4.keep oc (by simp)
        replace i5 := i5.keep oc (by simp)
        replace hQD := hQD.keep oc (by simp)
        clear hB9 hT9 hrow9 hE9 RWD oc
        cases bl with
        | true =>
          go_wp2_with fail
          refine bodyPost_ret (v := .tuple #[.pointer none, .int .i64 4]) (by simp [results, Try.results26, go_sem]) rfl ?_
          exact ⟨oW1.new RWc.only hRl, .inr ⟨rfl, by rw [HBk.out, ← HP.out, Hci.out, pRcs_late hpX.out Hbl.out.symm]; rfl⟩⟩
        | false =>
          go_upto_region 11 with (refine wpList_store_cell rfl 34 _ _ rfl T 4 (.pointer (some ⟨Q, 0, none⟩)) rfl rfl rfl hTc (by simp) (by kernel_rfl) rfl ?_; intro w12 oq hTq)
          have oD := (oq.trans (Only.drew w12 [T]))
          have mq := oq.size
          have hB12 : w12.drew.heap[B]? = some (.cells #[v] 68 (0, 0)) := oq.at hBc (by simp only [List.mem_singleton]; omega)
          have hT12 : w12.drew.heap[T]? = some (.cells (rc xe.r).toArray 36 (0, 0)) := by rw [hXrc.out]; exact hTq
          have hvT : ∀ k, v.ownBlock = some k → k ∉ [T] := fun k hk => by
            have := Hvl.out k hk
            simp only [List.mem_singleton]
            omega
          have hrow12 : w12.drew.ownsRow 0 36 7 v (l.map Rv.r).length (fl rc (l.map Rv.r)) := own_only hrowc oD (fun k hk hm => hvT k hk hm)
          have hBn : B ∉ v.ownBlock.toList := fun hm => (Hv.out B (by simpa using hm)).2 rfl
          have hTn : T ∉ v.ownBlock.toList := fun hm => by have := Hvl.out T (by simpa using hm); omega
          have rtG := RWc.keep oD (fun k hk => by simp only [List.mem_singleton] at hk; omega)
          have hX12 : Hid (RvI wr.heap.size w12.drew.heap.size w12.drew xe) := by
            show RvI _ _ _ _
            have e := HXE.out
            rw [e]
            have ms : w12.drew.heap.size = w12.heap.size := rfl
            exact ⟨rfl, rfl, ⟨p2, q2⟩, ⟨p3, q3⟩, (i4.keep oD (fun k hk => by simp only [List.mem_singleton] at hk; omega)).wide (by omega) (by omega), (i5.keep oD (fun k hk => by simp only [List.mem_singleton] at hk; omega)).wide (by omega) (by omega), rfl, rfl, tTime_lt p7 q7, rfl, (hQD.keep oD (fun k hk => by simp only [List.mem_singleton] at hk; omega)).wide (by omega) (by omega), Hqm.out.symm, show ql.length ≤ 1000 by omega, fun z hz => show z.st.l.length ≤ 1000 by have := Hq32.out z hz; omega⟩
          have hE12 : Hid (∀ y ∈ l, EI W1.heap.size v B w12.drew fun a b w => RvI a b w y) := fun y hy => (HEl.out y hy).keep (kp_rv y) ((oWc.out.mono (L' := [R, T]) (by simp +contextual)).trans (oD.mono (by simp +contextual))) fun k hk => by
            simp only [List.mem_cons, List.not_mem_nil, or_false] at hk
            rcases hk with rfl | rfl
            · exact .inl hRlt
            · exact .inr (.inr (.inr hwT))
          have mD : w12.heap.size ≤ w12.drew.heap.size := Nat.le_refl _
          rw [List.length_map] at hrow12
          have hl4 : l.length ≤ 4096 := by rw [Hl.out]; omega
          clear hBc hTc hrowc RWc i4 i5 hQD HEl oWc hTq
          go_upto_region 11 with fail
          refine wp_region_t (S := fun w' => Only w12.drew w' v.ownBlock.toList) 10 (by kernel_rfl) (by kernel_rfl) (Only.refl _ _) (fun hZ hHeld => ?_)
          refine' wpAnyT_take (i := 0) (v := _) hZ (op_at' rfl) (by rfl) (by kernel_rfl) (by kernel_rfl) (by kernel_rfl) (by kernel_rfl) (fun _ _ _ h => h) (Or.inl ⟨by rfl, ?hy63⟩) (by assumption) ?rest63
          case hy63 =>
            intro w' hS
            go_simp
            try with_reducible rfl
          try simp only [Act.put, List.setIfInBounds_toArray, List.set_cons_zero, List.set_cons_succ]
          refine' wpAnyT_take (i := 1) (v := _) hZ (op_at' rfl) (by rfl) (by kernel_rfl) (by kernel_rfl) (by kernel_rfl) (by kernel_rfl) (fun _ _ _ h => h) (Or.inl ⟨by rfl, ?hy64⟩) (by assumption) ?rest64
          case hy64 =>
            intro w' hS
            go_simp
            try with_reducible rfl
          try simp only [Act.put, List.setIfInBounds_toArray, List.set_cons_zero, List.set_cons_succ]
          refine' wpAnyT_take (i := 2) (v := _) hZ (op_at' rfl) (by rfl) (by kernel_rfl) (by kernel_rfl) (by kernel_rfl) (by kernel_rfl) (fun _ _ _ h => h) (Or.inl ⟨by rfl, ?hy65⟩) (by assumption) ?rest65
          case hy65 =>
            intro w' hS
            go_simp
            try with_reducible rfl
          try simp only [Act.put, List.setIfInBounds_toArray, List.set_cons_zero, List.set_cons_succ]
          refine' wpAnyT_take (i := 3) (v := _) hZ (op_at' rfl) (by rfl) (by kernel_rfl) (by kernel_rfl) (by kernel_rfl) (by kernel_rfl) (fun _ _ _ h => h) (Or.inl ⟨by rfl, ?hy66⟩) (by assumption) ?rest66
          case hy66 =>
            intro w' hS
            go_simp
            try with_reducible rfl
          try simp only [Act.put, List.setIfInBounds_toArray, List.set_cons_zero, List.set_cons_succ]
          refine' wpAnyT_take (i := 4) (v := _) hZ (op_at' rfl) (by rfl) (by kernel_rfl) (by kernel_rfl) (by kernel_rfl) (by kernel_rfl) (fun _ _ _ h => h) (Or.inl ⟨by rfl, ?hy67⟩) (by assumption) ?rest67
          case hy67 =>
            intro w' hS
            have q_ := cell_of_one (hS.at hB12 hBn)
            go_simp
            try with_reducible rfl
          try simp only [Act.put, List.setIfInBounds_toArray, List.set_cons_zero, List.set_cons_succ]
          refine wpAnyT_take (i := 5) hZ (op_at' rfl) (by rfl) (by kernel_rfl) (by kernel_rfl) (by kernel_rfl) (by kernel_rfl) (fun _ _ _ h => h) (yieldsIf_load_mid (by rfl) _ _ rfl T 0 rfl (rc xe.r) _ (fun w' hS => block_range (hS.at hT12 hTn)) Try.underlying36 (by rfl) (by rw [rc_len]; kernel_rfl)) (by assumption) ?_
          try simp only [Act.put, List.setIfInBounds_toArray, List.set_cons_zero, List.set_cons_succ]
          refine wpAnyT_one (i := 6) (by kernel_rfl) (op_at' rfl) (fun K hK => ?_)
          refine step_buildSlice_one (by rfl) 46 _ (by rfl) 36 i0 _ (rc xe.r) (by rfl) Try.underlying46 hi0 hz0 (by rw [hz1, rc_len]) (by rw [rc_len]; rfl) (by rw [rc_len]; decide) (by rw [rc_len]; decide) (fun Y w14 o14 hYl hY14 => ?_)
          go_wp2_with fail
          refine hK.out _ _ (o14.mono (by simp)) (fun hHeld => ?_)
          clear hK K
          try simp only [Act.put, List.setIfInBounds_toArray, List.set_cons_zero, List.set_cons_succ]
          refine wpAnyT_one (i := 7) (by kernel_rfl) (op_at' rfl) (fun K hK => ?_)
          refine step_append_src (by rfl) _ _ 46 (by rfl) 36 i0 _ 7 88 Try.underlying46 hi0 hz0 hz1 hz2 rfl (by decide) v l.length _ (by rfl) (own_only hrow12 o14 (fun _ _ => by simp)) _ 1 (rc xe.r) (by rfl) (src_blk hY14 (by rw [rc_len])) (rc_one xe.r) (by unfold maxLen; omega) (by omega) (fun v8 w15 q1 q2 q3 => ?_)
          obtain ⟨a8, c8, rfl⟩ := own_slice q1
          have o15 : Only w14 w15 v.ownBlock.toList := Only.grown q2 (fun k hk => by simp [hk])
          go_wp2_with fail
          refine hK.out _ _ ((o14.mono (by simp)).trans o15) (fun hHeld => ?_)
          clear hK K
          try simp only [Act.put, List.setIfInBounds_toArray, List.set_cons_zero, List.set_cons_succ]
          refine' wpAnyT_take (i := 8) (v := _) hZ (op_at' rfl) (by rfl) (by kernel_rfl) (by kernel_rfl) (by kernel_rfl) (by kernel_rfl) (fun _ _ _ h => h) (Or.inl ⟨by rfl, ?hy69⟩) (by assumption) ?rest69
          case hy69 =>
            intro w' hS
            go_simp
            try with_reducible rfl
          try simp only [Act.put, List.setIfInBounds_toArray, List.set_cons_zero, List.set_cons_succ]
          refine' wpAnyT_take (i := 9) (v := _) hZ (op_at' rfl) (by rfl) (by kernel_rfl) (by kernel_rfl) (by kernel_rfl) (by kernel_rfl) (fun _ _ _ h => h) (Or.inl ⟨by rfl, ?hy70⟩) (by assumption) ?rest70
          case hy70 =>
            intro w' hS
            go_simp
            try with_reducible rfl
          try simp only [Act.put, List.setIfInBounds_toArray, List.set_cons_zero, List.set_cons_succ]
          refine wpAnyT_last (by kernel_rfl) (op_at' rfl) (by kernel_rfl) (fun K hK => ?_)
          have q8_ := cell_of_one (((o14.mono (by simp)).trans o15).at hB12 hBn)
          have f8_ := free_of_one (((o14.mono (by simp)).trans o15).at hB12 hBn)
          go_simp
          go_wp2_with fail
          refine hK.out _ _ ?_
          clear hK K
          try simp only [Act.put, List.setIfInBounds_toArray, List.set_cons_zero, List.set_cons_succ]
          have oA : Only w12.drew w15 v.ownBlock.toList := (o14.mono (by simp)).trans o15
          have oB : Only w15 (w15.setCell ⟨B, 0, none⟩ (Value.slice a8 (l.length + 1) c8)) [B] := Only.setCell w15 _ (Value.slice a8 (l.length + 1) c8) [B] (by simp)
          have oC : Only w12.drew (w15.setCell ⟨B, 0, none⟩ (Value.slice a8 (l.length + 1) c8)) (B :: v.ownBlock.toList) := (oA.mono (by simp +contextual)).trans (oB.mono (by simp +contextual))
          have hLC : ∀ k ∈ B :: v.ownBlock.toList, W1.heap.size ≤ k := fun k hk => by
            rcases List.mem_cons.1 hk with e | e
            · omega
            · exact (Hv.out k (by simpa using e)).1
          have hLr : ∀ k ∈ B :: v.ownBlock.toList, k < wr.heap.size := fun k hk => by
            rcases List.mem_cons.1 hk with e | e
            · omega
            · exact Hvl.out k (by simpa using e)
          have h67 : w12.drew.heap.size ≤ w14.heap.size := o14.size
          have hv8 : ∀ k, (Value.slice a8 (l.length + 1) c8).ownBlock = some k → (k < wr.heap.size ∧ v.ownBlock = some k) ∨ w14.heap.size ≤ k := fun k hk => (q3 k hk).imp (fun e => ⟨Hvl.out k e, e⟩) id
          have hv8B : B ∉ (Value.slice a8 (l.length + 1) c8).ownBlock.toList := fun hm => by
            rcases hv8 B (by simpa using hm) with e | e
            · exact (Hv.out B e.2).2 rfl
            · omega
          have HR : Hid (RT R (.slice ao ps.length cp) s9 W1 (w15.setCell ⟨B, 0, none⟩ (Value.slice a8 (l.length + 1) c8))) := rtG.keep oC hLC
          have HS : Hid ((w15.setCell ⟨B, 0, none⟩ (Value.slice a8 (l.length + 1) c8)).heap[B]? = some (.cells #[(Value.slice a8 (l.length + 1) c8)] 68 (0, 0))) := set_one (oA.at hB12 hBn)
          have HO : Hid ((w15.setCell ⟨B, 0, none⟩ (Value.slice a8 (l.length + 1) c8)).ownsRow 0 36 7 (Value.slice a8 (l.length + 1) c8) (l.length + 1) (fl rc (l.map Rv.r) ++ rc xe.r)) := own_only q1 oB (fun k hk hm => by
            rw [List.mem_singleton] at hm
            exact hv8B (by rw [← hm]; simp [hk]))
          have HVV : Hid (∀ k, (Value.slice a8 (l.length + 1) c8).ownBlock = some k → W1.heap.size ≤ k ∧ k ≠ B) := fun k hk => ⟨by
            rcases hv8 k hk with e | e
            · exact (Hv.out k e.2).1
            · omega, fun e => hv8B (by rw [← e]; simp [hk])⟩
          have HE8 : Hid (∀ y ∈ l ++ [xe], EI W1.heap.size (Value.slice a8 (l.length + 1) c8) B (w15.setCell ⟨B, 0, none⟩ (Value.slice a8 (l.length + 1) c8)) fun a b w => RvI a b w y) := fun y hy => by
            rcases List.mem_append.1 hy with hy | hy
            · exact (hE12.out y hy).app (kp_rv y) oC (fun k hk => by
                rcases List.mem_cons.1 hk with e | e
                · exact .inr (.inr (.inl e))
                · exact .inr (.inl (by simpa using e))) q3 h67
            · rw [List.mem_singleton] at hy
              subst hy
              have hL2 : ∀ k ∈ B :: v.ownBlock.toList, k < wr.heap.size ∨ w12.drew.heap.size ≤ k := fun k hk => .inl (hLr k hk)
              exact ⟨wr.heap.size, w12.drew.heap.size, m1, oC.size, fun k hk => (hv8 k hk).imp (fun e => e.1) (fun e => by omega), .inl hBlt, hX12.out.keep oC hL2⟩
          have HPn : Hid (pRcs (c - (i + 1)) ((l ++ [xe]).map Rv.c) s9 = pRcs c [] s1) := by
            refine Lib.hid (?_ : pRcs (c - (i + 1)) ((l ++ [xe]).map Rv.c) s9 = pRcs c [] s1)
            rw [← HP.out, Hci.out, pRcs_more hpX.out Hbl.out.symm, List.map_append]
            rfl
          clear hHeld q1 q2 q3 o14 o15 oA oB oC
          go_wp2_with fail
          exact ⟨⟨i + 1, _, _, s9, by simp, by omega, Lib.hid (by rw [List.length_append, Hl.out]; rfl), HPn, HR.out, HS.out, by rw [List.length_map, List.length_append, List.map_append, fl_app]; simpa [fl] using HO.out, HVV, HE8⟩, by simp [intOf]; omega⟩

    · obtain rfl : i = c := by omega
      have d1 : decide ((i : Int) < i) = false := by simp
      have hfs0 : pRcs i [] s1 = (some (l.map Rv.c), s2) := by rw [← HP.out, Nat.sub_self, pRcs_zero]
      have hfs1 : pBk ps = endBk ps (some (l.map Rv.c), s2) := by rw [HBk.out, hfs0]
      have hfs := Lib.hid hfs1
      have hF0 := Lib.hid hfs0
      have oWr : Only w wr [] := oW1.new rt.only hRl
      have hsz := own_lt hrow
      have mW : w.heap.size ≤ W1.heap.size := oW1.size
      have hS0 : Pw.Sep w wr (row 36 7 v (l.map Rv.r).length (fl rc (l.map Rv.r)) :: blk B [v] 68 :: []) := by
        refine ⟨oWr, ?_, ?_, ?_⟩
        · intro r hr
          rcases List.mem_cons.1 hr with rfl | hr
          · exact hrow
          · obtain rfl : r = blk B [v] 68 := by simpa using hr
            exact hBr
        · intro r hr k hk
          rcases List.mem_cons.1 hr with rfl | hr
          · have := (Hv.out k (by simpa [row] using hk)).1; omega
          · obtain rfl : r = blk B [v] 68 := by simpa using hr
            obtain rfl : k = B := by simpa [blk] using hk
            omega
        · refine List.pairwise_cons.2 ⟨fun r hr k hk hm => ?_, by simp⟩
          obtain rfl : r = blk B [v] 68 := by simpa using hr
          obtain rfl : k = B := by simpa [blk] using hm
          exact (Hv.out k (by simpa [row] using hk)).2 rfl
      have hI0 : Hid (∀ x ∈ l, RvI 0 wr.heap.size wr x) := fun x hx => ((HEl.out x hx).fin (kp_rv x)).wide (Nat.zero_le _) (Nat.le_refl _)
      have hl4 : l.length ≤ 4096 := by rw [Hl.out]; omega
      clear hfs0 hfs1 HEl hsz hrow hBr
      cases hend : Ends s2 with
      | false =>
        have hno : Hid (pBk ps = none) := by
          refine Lib.hid (?_ : pBk ps = none)
          rw [hfs.out]
          simp [endBk, hend]
        go_upto_region 13 with fail
        refine wp_region_held_drew (S := fun w' => Only wr.drew w' []) (by kernel_rfl) (Only.refl _ _) (fun hHeld => ?_)
        refine' wpAnyH_take (i := 0) (v := _) (op_at rfl) (by kernel_rfl) (by kernel_rfl) (by kernel_rfl) (fun _ _ _ h => h) (Or.inl ⟨by rfl, ?hy71⟩) (by assumption) ?rest71
        case hy71 =>
          intro w' hS
          go_simp
          try with_reducible rfl
        try simp only [Act.put, List.setIfInBounds_toArray, List.set_cons_zero, List.set_cons_succ]
        refine wpAnyH_ready (rs := [1]) (by kernel_rfl) (by simp) (AllReadyH.cons (op_at rfl) (fun K hK => ?_) AllReadyH.nil)
        go_simp
        refine (rend_b (rt.new (Only.drew wr [])) hend).mono fun e wx hq => ?_
        obtain ⟨rfl, hw_⟩ := hq
        subst hw_
        go_wp2_with fail
        refine hK.out _ _ (Only.refl _ _) (fun hHeld => ?_)
        clear hK K
        try simp only [Act.put, List.setIfInBounds_toArray, List.set_cons_zero, List.set_cons_succ]
        refine' wpAnyH_take (i := 2) (v := _) (op_at rfl) (by kernel_rfl) (by kernel_rfl) (by kernel_rfl) (fun _ _ _ h => h) (Or.inl ⟨by rfl, ?hy72⟩) (by assumption) ?rest72
        case hy72 =>
          intro w' hS
          go_simp
          try with_reducible rfl
        try simp only [Act.put, List.setIfInBounds_toArray, List.set_cons_zero, List.set_cons_succ]
        refine' wpAnyH_take (i := 3) (v := _) (op_at rfl) (by kernel_rfl) (by kernel_rfl) (by kernel_rfl) (fun _ _ _ h => h) (Or.inl ⟨by rfl, ?hy73⟩) (by assumption) ?rest73
        case hy73 =>
          intro w' hS
          go_simp
          try with_reducible rfl
        try simp only [Act.put, List.setIfInBounds_toArray, List.set_cons_zero, List.set_cons_succ]
        refine wpAnyH_take (i := 4) (v := undef) (op_at rfl) (by kernel_rfl) (by kernel_rfl) (by kernel_rfl) (fun _ _ _ h => h) (Or.inr ⟨by rfl, rfl⟩) (by assumption) ?_
        try simp only [Act.put, List.setIfInBounds_toArray, List.set_cons_zero, List.set_cons_succ]
        refine wpAnyH_take (i := 5) (v := undef) (op_at rfl) (by kernel_rfl) (by kernel_rfl) (by kernel_rfl) (fun _ _ _ h => h) (Or.inr ⟨by rfl, rfl⟩) (by assumption) ?_
        try simp only [Act.put, List.setIfInBounds_toArray, List.set_cons_zero, List.set_cons_succ]
        refine wpAnyH_take (i := 6) (v := undef) (op_at rfl) (by kernel_rfl) (by kernel_rfl) (by kernel_rfl) (fun _ _ _ h => h) (Or.inr ⟨by rfl, rfl⟩) (by assumption) ?_
        try simp only [Act.put, List.setIfInBounds_toArray, List.set_cons_zero, List.set_cons_succ]
        refine wpAnyH_take (i := 7) (v := undef) (op_at rfl) (by kernel_rfl) (by kernel_rfl) (by kernel_rfl) (fun _ _ _ h => h) (Or.inr ⟨by rfl, rfl⟩) (by assumption) ?_
        try simp only [Act.put, List.setIfInBounds_toArray, List.set_cons_zero, List.set_cons_succ]
        refine wpAnyH_take (i := 8) (v := undef) (op_at rfl) (by kernel_rfl) (by kernel_rfl) (by kernel_rfl) (fun _ _ _ h => h) (Or.inr ⟨by rfl, rfl⟩) (by assumption) ?_
        try simp only [Act.put, List.setIfInBounds_toArray, List.set_cons_zero, List.set_cons_succ]
        refine wpAnyH_take (i := 9) (v := undef) (op_at rfl) (by kernel_rfl) (by kernel_rfl) (by kernel_rfl) (fun _ _ _ h => h) (Or.inr ⟨by rfl, rfl⟩) (by assumption) ?_
        try simp only [Act.put, List.setIfInBounds_toArray, List.set_cons_zero, List.set_cons_succ]
        refine' wpAnyH_take (i := 10) (v := _) (op_at rfl) (by kernel_rfl) (by kernel_rfl) (by kernel_rfl) (fun _ _ _ h => h) (Or.inl ⟨by rfl, ?hy80⟩) (by assumption) ?rest80
        case hy80 =>
          intro w' hS
          go_simp
          try with_reducible rfl
        try simp only [Act.put, List.setIfInBounds_toArray, List.set_cons_zero, List.set_cons_succ]
        refine wpAnyH_done (by kernel_rfl) ?_ _
        go_wp2_with fail
        refine bodyPost_ret (v := .tuple #[.pointer none, .int .i64 4]) (by simp [results, Try.results26, go_sem]) rfl ?_
        exact ⟨oWr.trans ((Only.drew wr []).trans hHeld), .inr ⟨rfl, hno.out⟩⟩
      | true =>
        have hlen := bk_len hb Hc.out hF0.out hend
        have hbb : Byt (bkB (l.map Rv.c)) := byt_bk hI0.out
        have HENC := encode_any B l v wr.drew (hS0.quiet (Only.drew wr [])) (fun x hx => (hI0.out x hx).keep (Only.drew wr []) (by simp)) (by omega) (by omega)
        go_upto_region 13 with fail
        refine wp_region_held_drew (S := fun w' => Only wr.drew w' []) (by kernel_rfl) (Only.refl _ _) (fun hHeld => ?_)
        refine' wpAnyH_take (i := 0) (v := _) (op_at rfl) (by kernel_rfl) (by kernel_rfl) (by kernel_rfl) (fun _ _ _ h => h) (Or.inl ⟨by rfl, ?hy81⟩) (by assumption) ?rest81
        case hy81 =>
          intro w' hS
          go_simp
          try with_reducible rfl
        try simp only [Act.put, List.setIfInBounds_toArray, List.set_cons_zero, List.set_cons_succ]
        refine wpAnyH_ready (rs := [1]) (by kernel_rfl) (by simp) (AllReadyH.cons (op_at rfl) (fun K hK => ?_) AllReadyH.nil)
        go_simp
        refine (rend_b (rt.new (Only.drew wr [])) hend).mono fun e wx hq => ?_
        obtain ⟨rfl, hw_⟩ := hq
        subst hw_
        go_wp2_with fail
        refine hK.out _ _ (Only.refl _ _) (fun hHeld => ?_)
        clear hK K
        try simp only [Act.put, List.setIfInBounds_toArray, List.set_cons_zero, List.set_cons_succ]
        refine' wpAnyH_take (i := 2) (v := _) (op_at rfl) (by kernel_rfl) (by kernel_rfl) (by kernel_rfl) (fun _ _ _ h => h) (Or.inl ⟨by rfl, ?hy82⟩) (by assumption) ?rest82
        case hy82 =>
          intro w' hS
          go_simp
          try with_reducible rfl
        try simp only [Act.put, List.setIfInBounds_toArray, List.set_cons_zero, List.set_cons_succ]
        refine' wpAnyH_take (i := 3) (v := _) (op_at rfl) (by kernel_rfl) (by kernel_rfl) (by kernel_rfl) (fun _ _ _ h => h) (Or.inl ⟨by rfl, ?hy83⟩) (by assumption) ?rest83
        case hy83 =>
          intro w' hS
          go_simp
          try with_reducible rfl
        try simp only [Act.put, List.setIfInBounds_toArray, List.set_cons_zero, List.set_cons_succ]
        refine' wpAnyH_take (i := 4) (v := _) (op_at rfl) (by kernel_rfl) (by kernel_rfl) (by kernel_rfl) (fun _ _ _ h => h) (Or.inl ⟨by rfl, ?hy84⟩) (by assumption) ?rest84
        case hy84 =>
          intro w' hS
          go_simp
          try with_reducible rfl
        try simp only [Act.put, List.setIfInBounds_toArray, List.set_cons_zero, List.set_cons_succ]
        refine' wpAnyH_take (i := 7) (v := _) (op_at rfl) (by kernel_rfl) (by kernel_rfl) (by kernel_rfl) (fun _ _ _ h => h) (Or.inl ⟨by rfl, ?hy85⟩) (by assumption) ?rest85
        case hy85 =>
          intro w' hS
          go_simp
          try with_reducible rfl
        try simp only [Act.put, List.setIfInBounds_toArray, List.set_cons_zero, List.set_cons_succ]
        refine' wpAnyH_take (i := 8) (v := _) (op_at rfl) (by kernel_rfl) (by kernel_rfl) (by kernel_rfl) (fun _ _ _ h => h) (Or.inl ⟨by rfl, ?hy86⟩) (by assumption) ?rest86
        case hy86 =>
          intro w' hS
          have hs_ := run_str (P := Try.prog) (S := 28) (T := 9) Try.underlying28 Try.underlying5 Try.underlying9 (hpR.new (oWr.trans ((Only.drew wr []).trans hS))) rfl
          go_simp
          try with_reducible rfl
        try simp only [Act.put, List.setIfInBounds_toArray, List.set_cons_zero, List.set_cons_succ]
        refine wpAnyH_ready (rs := [5]) (by kernel_rfl) (by simp) (AllReadyH.cons (op_at rfl) (fun K hK => ?_) AllReadyH.nil)
        go_simp
        refine HENC.mono fun e w8 hq => ?_
        obtain ⟨ys, a8, c8, Hys, rfl, hv8, _, o8⟩ := hq.name
        go_wp2_with fail
        refine hK.out _ _ o8 (fun hHeld => ?_)
        clear hK K
        try simp only [Act.put, List.setIfInBounds_toArray, List.set_cons_zero, List.set_cons_succ]
        refine wpAnyH_more (S' := fun w' => Only w8 w' []) (fun w' h => Only.trans o8 h) _ _ _ _ ?_
        clear hHeld
        have hHeld : Only w8 w8 [] := Only.refl _ _
        refine' wpAnyH_take (i := 6) (v := _) (op_at rfl) (by kernel_rfl) (by kernel_rfl) (by kernel_rfl) (fun _ _ _ h => h) (Or.inl ⟨by rfl, ?hy87⟩) (by assumption) ?rest87
        case hy87 =>
          intro w' hS
          have hs_ := run_str (P := Try.prog) (S := 28) (T := 9) Try.underlying28 Try.underlying5 Try.underlying9 (own_src (own_only hv8 hS (fun _ _ => by simp))) rfl
          go_simp
          try with_reducible rfl
        try simp only [Act.put, List.setIfInBounds_toArray, List.set_cons_zero, List.set_cons_succ]
        refine' wpAnyH_take (i := 9) (v := _) (op_at rfl) (by kernel_rfl) (by kernel_rfl) (by kernel_rfl) (fun _ _ _ h => h) (Or.inl ⟨by rfl, ?hy88⟩) (by assumption) ?rest88
        case hy88 =>
          intro w' hS
          go_simp
          try with_reducible rfl
        try simp only [Act.put, List.setIfInBounds_toArray, List.set_cons_zero, List.set_cons_succ]
        refine' wpAnyH_take (i := 10) (v := _) (op_at rfl) (by kernel_rfl) (by kernel_rfl) (by kernel_rfl) (fun _ _ _ h => h) (Or.inl ⟨by rfl, ?hy89⟩) (by assumption) ?rest89
        case hy89 =>
          intro w' hS
          go_simp
          try with_reducible rfl
        try simp only [Act.put, List.setIfInBounds_toArray, List.set_cons_zero, List.set_cons_succ]
        refine wpAnyH_done (by kernel_rfl) ?_ _
        have oE : Only wr w8 [] := (Only.drew wr []).trans o8
        have hby : Byt ys := by rw [Hys.out]; exact hbb
        have hsb := str_beq hby hb
        clear HENC hv8 hHeld
        obtain ⟨bq, hbq⟩ : ∃ bq, bq = ((strOfNums ys).toList == (strOfNums ps).toList) := ⟨_, rfl⟩
        rw [← hbq] at hsb ⊢
        clear hbq
        by_cases hq : ys = ps
        · rw [decide_eq_true hq] at hsb
          subst hsb
          have Hq : Hid (bkB (l.map Rv.c) = ps) := Lib.hid (Hys.out.symm.trans hq)
          clear hq
          go_wp2_with fail
          refine bodyPost_ret (v := .tuple #[.pointer (some ⟨B, 0, none⟩), .int .i64 0]) (by simp [results, Try.results26, go_sem]) rfl ?_
          exact ⟨oWr.trans oE, .inl ⟨B, v, l, rfl, hS0.quiet oE, fun x hx => ((hI0.out x hx).keep oE (by simp)).wide (Nat.le_refl _) oE.size, by rw [hfs.out]; simp [endBk, hend, Hq.out], Hq.out, hl4⟩⟩
        · rw [decide_eq_false hq] at hsb
          subst hsb
          have Hq : Hid (¬ bkB (l.map Rv.c) = ps) := Lib.hid (fun h => hq (Hys.out.trans h))
          clear hq
          go_wp2_with fail
          refine bodyPost_ret (v := .tuple #[.pointer none, .int .i64 4]) (by simp [results, Try.results26, go_sem]) rfl ?_
          exact ⟨oWr.trans oE, .inr ⟨rfl, by rw [hfs.out]; simp [endBk, hend, Hq.out]⟩⟩
end Go.Proofs.Ytdlbkdnpbcpjfaa
