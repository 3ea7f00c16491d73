/- record.Book.Encode. Printed by gen_rb5.py. -/
import Derived.Test.YtdlbkdnpbcpjfaaRb4
import Derived.Test.YtdlbkdnpbcpjfaaInstR
set_option linter.unusedSimpArgs false
set_option linter.unusedVariables false
namespace Go.Proofs.Ytdlbkdnpbcpjfaa
open Go.RowKit Go.Pw Go.Pw.Fl
set_option linter.unusedVariables false

/-- A record as it lies, and what it is. -/
structure Rv where
  r : Re
  c : RD
  Q : Nat
  ss : List Se
structure RvI (a b : Nat) (w : World) (x : Rv) : Prop where
  u : x.r.u = x.c.u
  d : x.r.d = x.c.d
  uu : U32 x.c.u
  ud : U32 x.c.d
  ag : RdI a b w (.slice x.r.a1 x.r.n1 x.r.c1) x.c.ag
  sg : RdI a b w (.slice x.r.a2 x.r.n2 x.r.c2) x.c.sg
  st : x.r.st = x.c.stale
  k : kKey x.r.t = x.c.k
  t : x.r.t < 18446744073709551616
  q : x.r.q = some ⟨x.Q, 0, none⟩
  l : QuI a b w x.Q x.ss
  e : x.c.q = x.ss.map Se.c
  n : x.ss.length ≤ 1000
  ns : ∀ s ∈ x.ss, s.st.l.length ≤ 1000
theorem RvI.keep {a b : Nat} {w w' : World} {x : Rv} {L : List Nat} (h : RvI a b w x) (ho : Only w w' L) (hL : ∀ k ∈ L, k < a ∨ b ≤ k) : RvI a b w' x :=
  ⟨h.u, h.d, h.uu, h.ud, h.ag.keep ho hL, h.sg.keep ho hL, h.st, h.k, h.t, h.q, h.l.keep ho hL, h.e, h.n, h.ns⟩
theorem RvI.wide {a b a' b' : Nat} {w : World} {x : Rv} (h : RvI a b w x) (ha : a' ≤ a) (hb : b ≤ b') : RvI a' b' w x :=
  ⟨h.u, h.d, h.uu, h.ud, h.ag.wide ha hb, h.sg.wide ha hb, h.st, h.k, h.t, h.q, h.l.wide ha hb, h.e, h.n, h.ns⟩
theorem kKey_bd {x : Nat} (hx : x < 18446744073709551616) : 0 ≤ kKey x ∧ kKey x < 18446744073709551616 := by
  unfold kKey
  split
  · omega
  · split <;> omega
theorem RvI.rc {a b : Nat} {w : World} {x : Rv} (h : RvI a b w x) : rc x.r = [.int .i64 x.c.u, .int .i64 x.c.d, .slice x.r.a1 x.r.n1 x.r.c1, .slice x.r.a2 x.r.n2 x.r.c2, .pointer (some ⟨x.Q, 0, none⟩), .bool x.c.stale, .float .f64 x.r.t] := by
  unfold Go.Proofs.Ytdlbkdnpbcpjfaa.rc
  rw [h.u, h.d, h.q, h.st]

set_option maxRecDepth 100000 in
set_option maxHeartbeats 3200000 in
theorem encode_any {w0 : World} {rs : List Res} (B : Nat) (l : List Rv) (v : Value) (w : World) (h : Sep w0 w (row 36 7 v (l.map Rv.r).length (fl rc (l.map Rv.r)) :: blk B [v] 68 :: rs)) (hI : ∀ x ∈ l, RvI 0 w.heap.size w x) (hn : l.length ≤ 5000) (hl : (bkB (l.map Rv.c)).length ≤ 600000) :
    Calls Try.prog 25 #[.pointer (some ⟨B, 0, none⟩)] w (Fresh (bkB (l.map Rv.c)) w) := by
  obtain ⟨m, hm⟩ : ∃ m, m = l.map Rv.r := ⟨_, rfl⟩
  have hml : m.length = l.length := by rw [hm, List.length_map]
  have HM : Hid (∀ i (hi : i < m.length), ∃ h : i < l.length, m[i] = l[i].r) := fun i hi => ⟨by omega, by subst hm; simp⟩
  rw [← hm] at h
  obtain ⟨ao, c, rfl⟩ := own_slice (show w.ownsRow 0 _ 7 v m.length (fl rc m) from h.head)
  have HLEN := fun (w' : World) (o : Only w w' []) => len_any B _ _ _ w' ((h.quiet o).sel 2 [1]).head
  have HALL := fun (w' : World) (o : Only w w' []) => all_any B m _ w' ((h.quiet o).sel 2 [0, 1]) (by omega)
  have HRV : ∀ w', Only w w' [] → ∀ x ∈ l, RvI 0 w.heap.size w' x := fun w' o x hx => (hI x hx).keep o (by simp)
  have Hlen : Hid (2 + (l.flatMap fun x => rcB x.c).length ≤ 600000) := by
    show _ ≤ _
    have : (bkB (l.map Rv.c)).length = 2 + (l.flatMap fun x => rcB x.c).length := by simp [bkB, be_len, List.flatMap_map]
    omega
  have Hend : Hid (bkB (l.map Rv.c) = be m.length 2 ++ l.flatMap fun x => rcB x.c) := by show _ = _; rw [hml]; simp [bkB, List.flatMap_map]
  have hu : IntKind.u64.wrap (m.length : Int) = m.length := u64_in _ (by omega) (by omega)
  have Hml := Lib.hid hml
  have hmn : m.length ≤ 5000 := by omega
  replace HALL := Lib.hid HALL
  replace HRV := Lib.hid HRV
  clear h hI hl hm hml hn
  go_enter Try.func25, Try.ntmps25
  go_wp2_with (refine wpList_box_new rfl 100 _ rfl (.agg #[.slice none 0 0]) rfl ?_; intro BW W oW hBl hBW)
  have hw : IsW 100 5 BW (.slice none 0 0) [] W := ⟨hBW, World.ownsRow_nil _ _ _ _⟩
  have hLb : ∀ k ∈ BW :: (Value.slice none 0 0).ownBlock.toList, w.heap.size ≤ k := by simp [Value.ownBlock]; omega
  have hWr : Wr w.heap.size BW (.slice none 0 0) := hLb
  have st0 := St.start hw
  refine (HLEN _ oW).mono ?_
  rintro e w1 ⟨rfl, rfl⟩
  clear HLEN hBW hw
  go_wp2_with fail
  refine (wnum2_st st0 (m.length : Int) (by simp) (by omega) (by omega)).mono ?_
  rintro e w2 ⟨rfl, st2⟩
  clear st0 hu
  go_wp2_with fail
  refine (HALL.out _ (oW.new st2.only hLb)).mono ?_
  rintro e w3 ⟨ac, cc, rfl, s3⟩
  obtain ⟨v1, k1, k2, k3⟩ := st2
  have k1' := isw_new k1 s3.only
  have k3' := k3.trans (s3.only.mono (by simp))
  have hrow : w3.ownsRow 0 36 7 (.slice ac m.length cc) m.length (fl rc m) := s3.head
  have hrn : ∀ k, (Value.slice ac m.length cc).ownBlock = some k → k ∉ BW :: v1.ownBlock.toList := fun k hk => isw_apart k1 (s3.new (row 36 7 (.slice ac m.length cc) m.length (fl rc m)) (by simp) k (by simp [row, hk]))
  have HP := fun (hp : 0 < m.length) => own_some hrow hp
  have HW1 : Hid (Wr w.heap.size BW v1) := hWr.next k2 oW.size
  obtain ⟨ys, hys⟩ : ∃ ys, ys = [] ++ be (m.length : Int) 2 := ⟨_, rfl⟩
  have hyl : ys.length = 2 := by rw [hys]; simp [be_len]
  rw [← hys] at k1'
  have HYS := Lib.hid hys
  have st3 := St.start k1'
  clear k1 s3 HALL hys hWr
  go_wp2_with fail
  go_loopw [16] (fun y wr => ∃ i : Nat, y = .int .i64 i ∧ i ≤ m.length ∧ St BW v1 w3 wr (ys ++ (l.take i).flatMap fun x => rcB x.c)) (fun y _ => m.length - (intOf y).toNat)
  case atStart => exact ⟨0, rfl, Nat.zero_le _, by simpa using st3⟩
  case round =>
    clear st3
    obtain ⟨i, rfl, hi, st⟩ := hrel
    by_cases hil : i < m.length
    · have d1 : decide ((i : Int) < m.length) = true := by simpa using hil
      obtain ⟨g, rfl, _⟩ := HP (by omega)
      have hrow4 := own_only hrow st.only (fun k hk hm => hrn k hk hm)
      have hrng := rec_range rc_len hrow4 hil
      obtain ⟨hil2, hmi⟩ := HM.out i hil
      obtain ⟨hft, hfl⟩ := flat_take (fun x => rcB x.c) hil2
      have Hft := Lib.hid hft
      have hzl : ys.length + ((l.take i).flatMap fun x => rcB x.c).length + (rcB l[i].c).length ≤ 600000 := by have := Hlen.out; omega
      have hmem := List.getElem_mem hil2
      have hIx := HRV.out _ ((oW.new k3' hLb).new st.only fun k hk => by rcases own_list k2 k hk with h1 | h1; exact hLb k h1; exact Nat.le_trans oW.size h1) _ hmem
      rw [hmi, hIx.rc] at hrng
      generalize (l.take i).flatMap (fun x => rcB x.c) = ts at *
      generalize hx : l[i] = x at *
      have Hx := Lib.hid hx
      have hsl : (rcB x.c).length = 4 + 4 + (x.c.ag.length + 4) + (x.c.sg.length + 4) + 1 + 8 + (quB x.c.q).length := by simp only [rcB, List.length_append, List.length_cons, List.length_nil, lb_len, be_len]
      have hoc : ([.int .i64 x.c.u, .int .i64 x.c.d, .slice x.r.a1 x.r.n1 x.r.c1, .slice x.r.a2 x.r.n2 x.r.c2, .pointer (some ⟨x.Q, 0, none⟩), .bool x.c.stale, .float .f64 x.r.t] : List Value).toArray.all (·.oneCell') = true := by rw [← hIx.rc]; exact all_oneCell_toArray (rc_one x.r)
      clear hft hfl hx hrow4 HP hmi hIx
      go_upto_region 6 with (first
        | (refine wpList_load_mid rfl 36 _ rfl g (i * 7) rfl [.int .i64 x.c.u, .int .i64 x.c.d, .slice x.r.a1 x.r.n1 x.r.c1, .slice x.r.a2 x.r.n2 x.r.c2, .pointer (some ⟨x.Q, 0, none⟩), .bool x.c.stale, .float .f64 x.r.t] _ hrng Try.underlying36 (by rfl) (by kernel_rfl) ?_)
        | (refine wpList_alloc_new rfl 36 rfl rv0 (fun _ => by kernel_rfl) ?_; intro X wX oX hXl hX)
        | (refine wpList_store_blk rfl 36 _ _ rfl X [.int .i64 x.c.u, .int .i64 x.c.d, .slice x.r.a1 x.r.n1 x.r.c1, .slice x.r.a2 x.r.n2 x.r.c2, .pointer (some ⟨x.Q, 0, none⟩), .bool x.c.stale, .float .f64 x.r.t] rfl rfl hX rfl (by kernel_rfl) hoc ?_; intro W4 oY hY4; have oXY := oX.new oY (fun i hi => by simp only [List.mem_singleton] at hi; omega); clear oX oY hX))
      obtain ⟨v2, m2, m3, st4, hap⟩ := st.box oXY
      have hXn := hap X hXl
      have m3x := k3'.step m3 (own_list k2)
      have hx4 := HRV.out W4 (oW.new m3x hLb) x hmem
      have ht := hx4.t
      have hkb := kKey_bd ht
      have pk0 := hkb.1
      have pk1 := hkb.2
      have Hkk := Lib.hid hx4.k
      have pu0 : 0 ≤ x.c.u := hx4.uu.1
      have pu1 : x.c.u < 18446744073709551616 := by have := hx4.uu.2; omega
      have pd0 : 0 ≤ x.c.d := hx4.ud.1
      have pd1 : x.c.d < 18446744073709551616 := by have := hx4.ud.2; omega
      have hcu : IntKind.u64.wrap x.c.u = x.c.u := u64_in _ hx4.uu.1 hx4.uu.2
      have hcd : IntKind.u64.wrap x.c.d = x.c.d := u64_in _ hx4.ud.1 hx4.ud.2
      have hW2 : Wr w.heap.size BW v2 := HW1.out.next m2 (Nat.le_trans oW.size k3'.size)
      have st0 := st4.drew
      have hX4 : W4.drew.heap[X]? = some (.cells #[.int .i64 x.c.u, .int .i64 x.c.d, .slice x.r.a1 x.r.n1 x.r.c1, .slice x.r.a2 x.r.n2 x.r.c2, .pointer (some ⟨x.Q, 0, none⟩), .bool x.c.stale, .float .f64 x.r.t] 36 (0, 0)) := hY4
      have hzz : (ys ++ ts).length + (4 + 4 + (x.c.ag.length + 4) + (x.c.sg.length + 4) + 1 + 8 + (quB x.c.q).length) ≤ 600000 := by rw [List.length_append]; omega
      generalize hzs : ys ++ ts = zs at *
      have Hzs := Lib.hid hzs
      clear hrng st hap oXY st4 hY4 hzs hsl hzl hkb
      refine wp_region_held_drew (S := fun w' => w'.heap[X]? = some (.cells #[.int .i64 x.c.u, .int .i64 x.c.d, .slice x.r.a1 x.r.n1 x.r.c1, .slice x.r.a2 x.r.n2 x.r.c2, .pointer (some ⟨x.Q, 0, none⟩), .bool x.c.stale, .float .f64 x.r.t] 36 (0, 0))) (by kernel_rfl) hX4 (fun hHeld => ?_)
      refine' wpAnyH_take (i := 0) (v := _) (op_at rfl) (by kernel_rfl) (by kernel_rfl) (by kernel_rfl) (fun _ _ _ h => h) (Or.inl ⟨by rfl, ?hy1⟩) (by assumption) ?rest1
      case hy1 =>
        intro w' hS
        go_simp
        try with_reducible rfl
      try simp only [Act.put, List.setIfInBounds_toArray, List.set_cons_zero, List.set_cons_succ]
      refine' wpAnyH_take (i := 1) (v := _) (op_at rfl) (by kernel_rfl) (by kernel_rfl) (by kernel_rfl) (fun _ _ _ h => h) (Or.inl ⟨by rfl, ?hy2⟩) (by assumption) ?rest2
      case hy2 =>
        intro w' hS
        go_simp
        try with_reducible rfl
      try simp only [Act.put, List.setIfInBounds_toArray, List.set_cons_zero, List.set_cons_succ]
      refine' wpAnyH_take (i := 2) (v := _) (op_at rfl) (by kernel_rfl) (by kernel_rfl) (by kernel_rfl) (fun _ _ _ h => h) (Or.inl ⟨by rfl, ?hy3⟩) (by assumption) ?rest3
      case hy3 =>
        intro w' hS
        go_simp
        try with_reducible rfl
      try simp only [Act.put, List.setIfInBounds_toArray, List.set_cons_zero, List.set_cons_succ]
      refine' wpAnyH_take (i := 3) (v := _) (op_at rfl) (by kernel_rfl) (by kernel_rfl) (by kernel_rfl) (fun _ _ _ h => h) (Or.inl ⟨by rfl, ?hy4⟩) (by assumption) ?rest4
      case hy4 =>
        intro w' hS
        have q_ : w'.cell? ⟨X, 0, none⟩ = some (.int .i64 x.c.u) := cell_in hS 0
        go_simp
        try with_reducible rfl
      try simp only [Act.put, List.setIfInBounds_toArray, List.set_cons_zero, List.set_cons_succ]
      refine' wpAnyH_take (i := 4) (v := _) (op_at rfl) (by kernel_rfl) (by kernel_rfl) (by kernel_rfl) (fun _ _ _ h => h) (Or.inl ⟨by rfl, ?hy5⟩) (by assumption) ?rest5
      case hy5 =>
        intro w' hS
        go_simp
        try with_reducible rfl
      try simp only [Act.put, List.setIfInBounds_toArray, List.set_cons_zero, List.set_cons_succ]
      refine' wpAnyH_take (i := 6) (v := _) (op_at rfl) (by kernel_rfl) (by kernel_rfl) (by kernel_rfl) (fun _ _ _ h => h) (Or.inl ⟨by rfl, ?hy6⟩) (by assumption) ?rest6
      case hy6 =>
        intro w' hS
        go_simp
        try with_reducible rfl
      try simp only [Act.put, List.setIfInBounds_toArray, List.set_cons_zero, List.set_cons_succ]
      refine' wpAnyH_take (i := 7) (v := _) (op_at rfl) (by kernel_rfl) (by kernel_rfl) (by kernel_rfl) (fun _ _ _ h => h) (Or.inl ⟨by rfl, ?hy7⟩) (by assumption) ?rest7
      case hy7 =>
        intro w' hS
        go_simp
        try with_reducible rfl
      try simp only [Act.put, List.setIfInBounds_toArray, List.set_cons_zero, List.set_cons_succ]
      refine' wpAnyH_take (i := 8) (v := _) (op_at rfl) (by kernel_rfl) (by kernel_rfl) (by kernel_rfl) (fun _ _ _ h => h) (Or.inl ⟨by rfl, ?hy8⟩) (by assumption) ?rest8
      case hy8 =>
        intro w' hS
        have q_ : w'.cell? ⟨X, 1, none⟩ = some (.int .i64 x.c.d) := cell_in hS 1
        go_simp
        try with_reducible rfl
      try simp only [Act.put, List.setIfInBounds_toArray, List.set_cons_zero, List.set_cons_succ]
      refine' wpAnyH_take (i := 9) (v := _) (op_at rfl) (by kernel_rfl) (by kernel_rfl) (by kernel_rfl) (fun _ _ _ h => h) (Or.inl ⟨by rfl, ?hy9⟩) (by assumption) ?rest9
      case hy9 =>
        intro w' hS
        go_simp
        try with_reducible rfl
      try simp only [Act.put, List.setIfInBounds_toArray, List.set_cons_zero, List.set_cons_succ]
      refine' wpAnyH_take (i := 11) (v := _) (op_at rfl) (by kernel_rfl) (by kernel_rfl) (by kernel_rfl) (fun _ _ _ h => h) (Or.inl ⟨by rfl, ?hy10⟩) (by assumption) ?rest10
      case hy10 =>
        intro w' hS
        go_simp
        try with_reducible rfl
      try simp only [Act.put, List.setIfInBounds_toArray, List.set_cons_zero, List.set_cons_succ]
      refine' wpAnyH_take (i := 12) (v := _) (op_at rfl) (by kernel_rfl) (by kernel_rfl) (by kernel_rfl) (fun _ _ _ h => h) (Or.inl ⟨by rfl, ?hy11⟩) (by assumption) ?rest11
      case hy11 =>
        intro w' hS
        go_simp
        try with_reducible rfl
      try simp only [Act.put, List.setIfInBounds_toArray, List.set_cons_zero, List.set_cons_succ]
      refine' wpAnyH_take (i := 13) (v := _) (op_at rfl) (by kernel_rfl) (by kernel_rfl) (by kernel_rfl) (fun _ _ _ h => h) (Or.inl ⟨by rfl, ?hy12⟩) (by assumption) ?rest12
      case hy12 =>
        intro w' hS
        have q_ : w'.cell? ⟨X, 2, none⟩ = some (.slice x.r.a1 x.r.n1 x.r.c1) := cell_in hS 2
        go_simp
        try with_reducible rfl
      try simp only [Act.put, List.setIfInBounds_toArray, List.set_cons_zero, List.set_cons_succ]
      refine' wpAnyH_take (i := 15) (v := _) (op_at rfl) (by kernel_rfl) (by kernel_rfl) (by kernel_rfl) (fun _ _ _ h => h) (Or.inl ⟨by rfl, ?hy13⟩) (by assumption) ?rest13
      case hy13 =>
        intro w' hS
        go_simp
        try with_reducible rfl
      try simp only [Act.put, List.setIfInBounds_toArray, List.set_cons_zero, List.set_cons_succ]
      refine' wpAnyH_take (i := 16) (v := _) (op_at rfl) (by kernel_rfl) (by kernel_rfl) (by kernel_rfl) (fun _ _ _ h => h) (Or.inl ⟨by rfl, ?hy14⟩) (by assumption) ?rest14
      case hy14 =>
        intro w' hS
        go_simp
        try with_reducible rfl
      try simp only [Act.put, List.setIfInBounds_toArray, List.set_cons_zero, List.set_cons_succ]
      refine' wpAnyH_take (i := 17) (v := _) (op_at rfl) (by kernel_rfl) (by kernel_rfl) (by kernel_rfl) (fun _ _ _ h => h) (Or.inl ⟨by rfl, ?hy15⟩) (by assumption) ?rest15
      case hy15 =>
        intro w' hS
        have q_ : w'.cell? ⟨X, 3, none⟩ = some (.slice x.r.a2 x.r.n2 x.r.c2) := cell_in hS 3
        go_simp
        try with_reducible rfl
      try simp only [Act.put, List.setIfInBounds_toArray, List.set_cons_zero, List.set_cons_succ]
      refine' wpAnyH_take (i := 19) (v := _) (op_at rfl) (by kernel_rfl) (by kernel_rfl) (by kernel_rfl) (fun _ _ _ h => h) (Or.inl ⟨by rfl, ?hy16⟩) (by assumption) ?rest16
      case hy16 =>
        intro w' hS
        go_simp
        try with_reducible rfl
      try simp only [Act.put, List.setIfInBounds_toArray, List.set_cons_zero, List.set_cons_succ]
      refine' wpAnyH_take (i := 20) (v := _) (op_at rfl) (by kernel_rfl) (by kernel_rfl) (by kernel_rfl) (fun _ _ _ h => h) (Or.inl ⟨by rfl, ?hy17⟩) (by assumption) ?rest17
      case hy17 =>
        intro w' hS
        have q_ : w'.cell? ⟨X, 5, none⟩ = some (.bool x.c.stale) := cell_in hS 5
        go_simp
        try with_reducible rfl
      try simp only [Act.put, List.setIfInBounds_toArray, List.set_cons_zero, List.set_cons_succ]
      refine' wpAnyH_take (i := 22) (v := _) (op_at rfl) (by kernel_rfl) (by kernel_rfl) (by kernel_rfl) (fun _ _ _ h => h) (Or.inl ⟨by rfl, ?hy18⟩) (by assumption) ?rest18
      case hy18 =>
        intro w' hS
        go_simp
        try with_reducible rfl
      try simp only [Act.put, List.setIfInBounds_toArray, List.set_cons_zero, List.set_cons_succ]
      refine' wpAnyH_take (i := 23) (v := _) (op_at rfl) (by kernel_rfl) (by kernel_rfl) (by kernel_rfl) (fun _ _ _ h => h) (Or.inl ⟨by rfl, ?hy19⟩) (by assumption) ?rest19
      case hy19 =>
        intro w' hS
        have q_ : w'.cell? ⟨X, 6, none⟩ = some (.float .f64 x.r.t) := cell_in hS 6
        go_simp
        try with_reducible rfl
      try simp only [Act.put, List.setIfInBounds_toArray, List.set_cons_zero, List.set_cons_succ]
      refine wpAnyH_ready (rs := [5]) (by kernel_rfl) (by simp) (AllReadyH.cons (op_at rfl) (fun K hK => ?_) AllReadyH.nil)
      go_simp
      (with_reducible refine (wnum4_st st0 x.c.u (by omega) pu0 pu1).mono fun e w5 hq => ?_)
      obtain ⟨rfl, st5⟩ := hq
      have h5 := st5.only
      go_wp2_with fail
      refine hK.out _ _ (h5.at hX4 hXn) (fun hHeld => ?_)
      clear hK K
      try simp only [Act.put, List.setIfInBounds_toArray, List.set_cons_zero, List.set_cons_succ]
      refine wpAnyH_ready (rs := [10]) (by kernel_rfl) (by simp) (AllReadyH.cons (op_at rfl) (fun K hK => ?_) AllReadyH.nil)
      go_simp
      (with_reducible refine (wnum4_st st5 x.c.d (by simp only [List.length_append, List.length_cons, List.length_nil, lb_len, be_len]; omega) pd0 pd1).mono fun e w6 hq => ?_)
      obtain ⟨rfl, st6⟩ := hq
      have h6 := st6.only
      go_wp2_with fail
      refine hK.out _ _ (h6.at hX4 hXn) (fun hHeld => ?_)
      clear hK K
      try simp only [Act.put, List.setIfInBounds_toArray, List.set_cons_zero, List.set_cons_succ]
      refine wpAnyH_ready (rs := [14]) (by kernel_rfl) (by simp) (AllReadyH.cons (op_at rfl) (fun K hK => ?_) AllReadyH.nil)
      go_simp
      (with_reducible refine (wpart_st st6 hW2 hx4.ag (by simp only [List.length_append, List.length_cons, List.length_nil, lb_len, be_len]; omega)).mono fun e w7 hq => ?_)
      obtain ⟨rfl, st7⟩ := hq
      have h7 := st7.only
      go_wp2_with fail
      refine hK.out _ _ (h7.at hX4 hXn) (fun hHeld => ?_)
      clear hK K
      try simp only [Act.put, List.setIfInBounds_toArray, List.set_cons_zero, List.set_cons_succ]
      refine wpAnyH_ready (rs := [18]) (by kernel_rfl) (by simp) (AllReadyH.cons (op_at rfl) (fun K hK => ?_) AllReadyH.nil)
      go_simp
      (with_reducible refine (wpart_st st7 hW2 hx4.sg (by simp only [List.length_append, List.length_cons, List.length_nil, lb_len, be_len]; omega)).mono fun e w8 hq => ?_)
      obtain ⟨rfl, st8⟩ := hq
      have h8 := st8.only
      go_wp2_with fail
      refine hK.out _ _ (h8.at hX4 hXn) (fun hHeld => ?_)
      clear hK K
      try simp only [Act.put, List.setIfInBounds_toArray, List.set_cons_zero, List.set_cons_succ]
      refine wpAnyH_ready (rs := [21]) (by kernel_rfl) (by simp) (AllReadyH.cons (op_at rfl) (fun K hK => ?_) AllReadyH.nil)
      go_simp
      (with_reducible refine (wflag_st st8 x.c.stale (by simp only [List.length_append, List.length_cons, List.length_nil, lb_len, be_len]; omega)).mono fun e w9 hq => ?_)
      obtain ⟨rfl, st9⟩ := hq
      have h9 := st9.only
      go_wp2_with fail
      refine hK.out _ _ (h9.at hX4 hXn) (fun hHeld => ?_)
      clear hK K
      try simp only [Act.put, List.setIfInBounds_toArray, List.set_cons_zero, List.set_cons_succ]
      refine wpAnyH_ready (rs := [24]) (by kernel_rfl) (by simp) (AllReadyH.cons (op_at rfl) (fun K hK => ?_) AllReadyH.nil)
      go_simp
      refine (key_any x.r.t ht _).mono fun e wk hq => ?_
      obtain ⟨rfl, hw_⟩ := hq
      subst wk
      go_wp2_with fail
      refine hK.out _ _ (h9.at hX4 hXn) (fun hHeld => ?_)
      clear hK K
      try simp only [Act.put, List.setIfInBounds_toArray, List.set_cons_zero, List.set_cons_succ]
      refine wpAnyH_ready (rs := [25]) (by kernel_rfl) (by simp) (AllReadyH.cons (op_at rfl) (fun K hK => ?_) AllReadyH.nil)
      go_simp
      (with_reducible refine (wnum8_st st9 (kKey x.r.t) (by simp only [List.length_append, List.length_cons, List.length_nil, lb_len, be_len]; omega) pk0 pk1).mono fun e w10 hq => ?_)
      obtain ⟨rfl, st10⟩ := hq
      have h10 := st10.only
      go_wp2_with fail
      refine hK.out _ _ (h10.at hX4 hXn) (fun hHeld => ?_)
      clear hK K
      try simp only [Act.put, List.setIfInBounds_toArray, List.set_cons_zero, List.set_cons_succ]
      refine wpAnyH_done (by kernel_rfl) ?_ _
      have hXN := h10.at hX4 hXn
      have c4_ := cell_in hXN 4
      simp only [List.getElem?_toArray, List.getElem?_cons_succ, List.getElem?_cons_zero] at c4_
      have oN := oW.new (k3'.step (m3.step h10 (own_list m2)) (own_list k2)) hLb
      have hx9 := HRV.out _ oN x hmem
      have HQE := Lib.hid hx9.e
      generalize hzN : zs ++ be x.c.u 4 ++ be x.c.d 4 ++ lb x.c.ag ++ lb x.c.sg ++ [if x.c.stale = true then 1 else 0] ++ be (kKey x.r.t) 8 = zN at *
      have hzNl : zN.length + (quB (x.ss.map Se.c)).length ≤ 600000 := by rw [← hzN, ← HQE.out]; simp only [List.length_append, List.length_cons, List.length_nil, lb_len, be_len]; omega
      have hlay := st10.step fun v6 r1 r2 => qulay_any 0 w.heap.size BW x.Q v6 zN x.ss w10 r1 (hW2.next r2 (Nat.le_trans oW.size m3x.size)) hx9.l oN.size hx9.n hx9.ns (by omega)
      have HzN := Lib.hid hzN
      clear hzN hXN st10 st9 st8 st7 st6 st5 st0 hX4 hx4 hx9 hHeld
      go_wp2_with fail
      refine hlay.mono ?_
      rintro e wA ⟨rfl, stA⟩
      have stE := St.trans m2 m3 stA
      have hEq : Hid (zN ++ quB (x.ss.map Se.c) = ys ++ (l.take (i + 1)).flatMap fun x => rcB x.c) := by
        show _ = _
        rw [Hft.out, ← HzN.out, ← Hzs.out, ← HQE.out, Hkk.out, rcB]
        simp only [List.append_assoc]
      rw [hEq.out] at stE
      clear hlay stA c4_
      go_wp2_with fail
      exact ⟨⟨i + 1, by simp, by omega, stE⟩, by simp [intOf]; omega⟩
    · obtain rfl : i = m.length := by omega
      have d1 : decide ((m.length : Int) < m.length) = false := by simp
      rw [List.take_of_length_le (by have := Hml.out; omega), HYS.out] at st
      have stF := St.trans k2 k3' st
      rw [List.nil_append, ← Hend.out] at stF
      have hle : (bkB (l.map Rv.c)).length ≤ 600000 := by rw [Hend.out]; simp only [List.length_append, be_len]; exact Hlen.out
      clear st HP
      go_wp2_with fail
      refine (wdone_st stF (by omega)).mono ?_
      intro e w5 hq
      obtain ⟨zs, a4, c4, Hzs, rfl, g1, g2, g3⟩ := hq.name
      clear hq
      go_wp2_with fail
      go_ret
      exact fresh_done ⟨_, rfl, g1, g2, g3⟩ oW hBl stF.only (by rw [Hzs.out])
end Go.Proofs.Ytdlbkdnpbcpjfaa
