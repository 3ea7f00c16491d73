/- A slice literal of two structs; ratchet.Lay. Printed by gen_rb3.py. -/
import Derived.Test.YtdlbkdnpbcpjfaaRb2
set_option linter.unusedSimpArgs false
set_option linter.unusedVariables false
namespace Go.Pw
open Go.RowKit
set_option linter.unusedVariables false
theorem foldl_setO (off : Nat) (cs : List Value) : ∀ (n : Nat) (z : Array Value), (cs.zipIdx n).foldl (fun (a : Array Value) (x : Value × Nat) => a.setIfInBounds (off + x.2) x.1) z = (setL z.toList (off + n) cs).toArray := by
  induction cs with
  | nil => intro n z; simp [setL]
  | cons c cs ih =>
    intro n z
    rw [List.zipIdx_cons, List.foldl_cons, ih]
    simp [setL, Nat.add_assoc]
theorem fill_one {off size : Nat} {place : Nat → Option (Nat × Nat)} {i : Nat} {cells : Array Value} {cs : List Value} {rest : List (Nat × Value)} (hp : place i = some (off, size)) (hc : cs.length = size) (ho : off + size ≤ cells.size) :
    Instr.fill place cells ((i, .agg cs.toArray) :: rest) = Instr.fill place (setL cells.toList off cs).toArray rest := by
  have hv : (Value.agg cs.toArray).cells = cs.toArray := rfl
  simp only [Instr.fill, hp, hv]
  rw [if_neg (by simp; omega)]
  have e : Array.foldl (fun (a : Array Value) (x : Value × Nat) => a.setIfInBounds (off + x.2) x.1) cells cs.toArray.zipIdx = (setL cells.toList off cs).toArray := by
    rw [← Array.foldl_toList]
    have e1 : cs.toArray.zipIdx.toList = cs.zipIdx 0 := by simp
    rw [e1, foldl_setO, Nat.add_zero]
  rw [e]
theorem split2 {xs : List Value} {k : Nat} (h : xs.length = 2 * k) : ∃ a b : List Value, a.length = k ∧ b.length = k ∧ xs = a ++ b :=
  ⟨xs.take k, xs.drop k, by simp; omega, by simp; omega, by rw [List.take_append_drop]⟩
theorem run_buildSlice_two {P : Program} (w : World) (t e : TypeId) (i : TypeInfo) (z : Value) (k : Nat) (c0 c1 : List Value) (h0 : c0.length = k) (h1 : c1.length = k) (ht : P.underlying t = some (.slice e)) (hi : P.info? e = some i) (hz : i.zero = some z) (hs : i.size = k) (hzs : z.cells.size = k) (hk : 0 < k) (hb : k ≤ 1000) :
    (Instr.buildSlice t 2 #[(0, .agg c0.toArray), (1, .agg c1.toArray)]).run P w = .ok (.slice (some ⟨w.heap.size, 0, none⟩) 2 2) (w.alloc (.cells (c0 ++ c1).toArray e)) := by
  have hne : ¬ (2 * k = 0) := by omega
  have hb2 : ¬ (16777216 < 2 * k) := by omega
  generalize hzc : z.cells = zc at *
  have hfill : Instr.fill (fun i => some (i * k, k)) ((Array.range (2 * k)).map (zc[· % zc.size]!)) [(0, .agg c0.toArray), (1, .agg c1.toArray)] = some (c0 ++ c1).toArray := by
    obtain ⟨cells, hcells⟩ : ∃ cells, cells = (Array.range (2 * k)).map (zc[· % zc.size]!) := ⟨_, rfl⟩
    rw [← hcells]
    have hcl : cells.toList.length = 2 * k := by rw [hcells]; simp
    clear hcells
    obtain ⟨a, b, ha, hb', he⟩ := split2 hcl
    have hsz : cells.size = 2 * k := by simpa using hcl
    rw [fill_one (off := 0 * k) rfl h0 (by omega), he]
    have e0 : setL (a ++ b) (0 * k) c0 = c0 ++ b := by
      have := setL_app a [] c0 b (by omega)
      simpa using this
    rw [e0, fill_one (off := 1 * k) rfl h1 (by simp; omega)]
    have e1 : setL (c0 ++ b) (1 * k) c1 = c0 ++ c1 := by
      have := setL_app b c0 c1 [] (by omega)
      rw [List.append_nil, List.append_nil, h0, show k = 1 * k by omega] at this
      exact this
    rw [show (c0 ++ b).toArray.toList = c0 ++ b from rfl, e1]
    rfl
  have hnv : ∀ cells : Array Value, (newRow e cells).run P w = .ok ⟨w.heap.size, 0, none⟩ (w.alloc (.cells cells e)) := fun cells => by simp [newRow, newObj, go_sem]; rfl
  have hzv : (zeroValue e).run P w = .ok z w := by simp [zeroValue, typeInfo, hi, hz]
  have hsz : (sizeOf e).run P w = .ok k w := by simp [sizeOf, typeInfo, hi, hs]
  simp only [Instr.buildSlice, Sem.run_bind, run_underlying ht, Result.andThen_ok, hsz]
  rw [if_neg (by omega), if_neg hne]
  simp only [Sem.run_bind, hzv, Result.andThen_ok, Sem.run_pure, hzc, hfill, hnv]
theorem wpList_buildSlice_two {P : Program} {ops : Array Oper} {rest : List Oper} {o : Oper} {a : Act} {w : World} {Q : Exit → Act → World → Prop}
    (hg : o.guard = none) (t : TypeId) (x y : Operand) (hop : o.op = .buildSlice t 2 #[(0, x), (1, y)]) (e : TypeId) (i : TypeInfo) (z : Value) (k : Nat) (c0 c1 : List Value) (hx : a.eval x = .agg c0.toArray) (hy : a.eval y = .agg c1.toArray) (h0 : c0.length = k) (h1 : c1.length = k)
    (ht : P.underlying t = some (.slice e)) (hi : P.info? e = some i) (hz : i.zero = some z) (hs : i.size = k) (hzs : z.cells.size = k) (hk : 0 < k) (hb : k ≤ 1000)
    (h : ∀ X w', Only w w' [] → w.heap.size ≤ X → w'.heap[X]? = some (.cells (c0 ++ c1).toArray e (0, 0)) → wpList P ops Q rest (a.put o.dst (.slice (some ⟨X, 0, none⟩) 2 2)) w') : wpList P ops Q (o :: rest) a w :=
  wpList_plain hg fun _ hK => by
    unfold Oper.wp execOp
    have hr := run_buildSlice_two (P := P) w t e i z k c0 c1 h0 h1 ht hi hz hs hzs hk hb
    simp only [hop, List.map_toArray, List.map_cons, List.map_nil, hx, hy, Sem.run_bind, hr, Result.andThen_ok]
    exact hK _ _ (h _ _ (Only.alloc _ _ _) (Nat.le_refl _) (heap_alloc_new w _))
end Go.Pw
namespace Go.Proofs.Ytdlbkdnpbcpjfaa
open Go.RowKit Go.Pw
set_option linter.unusedVariables false

theorem ch_info : (Try.prog.info? 92).map (fun i => (i.zero, i.size, i.bytes)) = some (some (.agg #[.slice none 0 0, .int .u32 0]), 2, 32) := by kernel_rfl
/-- A chain as it lies. -/
structure Cv where
  key : List Int
  v : Value
  n : Int
  ok : v.oneCell' = true
def chc (y : Cv) : List Value := [y.v, .int .u32 y.n]
theorem chc_len (y : Cv) : (chc y).length = 2 := rfl
def chB (y : Cv) : List Int := lb y.key ++ be y.n 4

set_option maxRecDepth 100000 in
set_option maxHeartbeats 3200000 in
theorem rlay_any (a b B : Nat) (v0 : Value) (xs : List Int) (x : Sta) (w : World) (hw : IsW 100 5 B v0 xs w) (hWr : Wr b B v0) (hI : StaI a b w x) (hb : b ≤ w.heap.size) (hn : x.l.length ≤ 1000) (hl : xs.length + (staB x.c).length ≤ 800000) :
    Calls Try.prog 71 #[.pointer (some ⟨B, 0, none⟩), .agg (stc x).toArray] w fun e w' => e = .returned (.tuple #[]) ∧ St B v0 w w' (xs ++ staB x.c) := by
  obtain ⟨i0, hi, hz0, hz1, hz2⟩ := info_parts ch_info
  have hsl : (staB x.c).length = x.c.own.length + 4 + (x.c.their.length + 4) + (x.c.root.length + 4) + (x.c.sk.length + 4 + 4) + (x.c.tk.length + 4 + 4) + 4 + (stoB x.c.l).length := by simp only [staB, List.length_append, lb_len, be_len]
  have HI := fun (w' : World) (o : Only w w' (B :: v0.ownBlock.toList)) => hI.keep o fun k hk => .inr (hWr k hk)
  have HE := Lib.hid hI.e
  have us := hI.us
  have ut := hI.ut
  have up := hI.up
  replace HI := Lib.hid HI
  have HB : Hid (b ≤ w.heap.size) := hb
  have HW : Hid (Wr b B v0) := hWr
  have HL : Hid (xs.length + (staB x.c).length ≤ 800000) := hl
  have hxl : xs.length ≤ 800000 := by omega
  have hst := stc_one x
  clear hI hb hWr
  simp only [stc] at *
  go_enter Try.func71, Try.ntmps71
  go_upto_region 1 with (refine wpList_box_new rfl 95 _ rfl (.agg #[x.vo, x.vt, x.vr, x.vs, .int .u32 x.c.sn, x.vk, .int .u32 x.c.tn, .int .u32 x.c.prev, .pointer (adr x.S)]) rfl ?_; intro Z W1 oZ hZl hZ)
  obtain ⟨v2, m2, m3, st4, hap⟩ := (St.start hw).box oZ
  have hZn := hap Z hZl
  have hx4 := HI.out W1 m3
  have hW2 : Wr b B v2 := HW.out.next m2 HB.out
  have st0 := st4.drew
  have hZ4 : W1.drew.heap[Z]? = some (.cells #[x.vo, x.vt, x.vr, x.vs, .int .u32 x.c.sn, x.vk, .int .u32 x.c.tn, .int .u32 x.c.prev, .pointer (adr x.S)] 95 (0, 0)) := hZ
  clear st4 hap hw
  refine wp_region_held_drew (S := fun w' => w'.heap[Z]? = some (.cells #[x.vo, x.vt, x.vr, x.vs, .int .u32 x.c.sn, x.vk, .int .u32 x.c.tn, .int .u32 x.c.prev, .pointer (adr x.S)] 95 (0, 0))) (by kernel_rfl) hZ4 (fun hHeld => ?_)
  refine' wpAnyH_take (i := 0) (v := _) (op_at rfl) (by kernel_rfl) (by kernel_rfl) (by kernel_rfl) (fun _ _ _ h => h) (Or.inl ⟨by rfl, ?hy1⟩) (by assumption) ?rest1
  case hy1 =>
    intro w' hS
    go_simp
    try with_reducible rfl
  try simp only [Act.put, List.setIfInBounds_toArray, List.set_cons_zero, List.set_cons_succ]
  refine' wpAnyH_take (i := 1) (v := _) (op_at rfl) (by kernel_rfl) (by kernel_rfl) (by kernel_rfl) (fun _ _ _ h => h) (Or.inl ⟨by rfl, ?hy2⟩) (by assumption) ?rest2
  case hy2 =>
    intro w' hS
    go_simp
    try with_reducible rfl
  try simp only [Act.put, List.setIfInBounds_toArray, List.set_cons_zero, List.set_cons_succ]
  refine' wpAnyH_take (i := 2) (v := _) (op_at rfl) (by kernel_rfl) (by kernel_rfl) (by kernel_rfl) (fun _ _ _ h => h) (Or.inl ⟨by rfl, ?hy3⟩) (by assumption) ?rest3
  case hy3 =>
    intro w' hS
    have q_ : w'.cell? ⟨Z, 0, none⟩ = some (x.vo) := cell_in hS 0
    go_simp
    try with_reducible rfl
  try simp only [Act.put, List.setIfInBounds_toArray, List.set_cons_zero, List.set_cons_succ]
  refine' wpAnyH_take (i := 4) (v := _) (op_at rfl) (by kernel_rfl) (by kernel_rfl) (by kernel_rfl) (fun _ _ _ h => h) (Or.inl ⟨by rfl, ?hy4⟩) (by assumption) ?rest4
  case hy4 =>
    intro w' hS
    go_simp
    try with_reducible rfl
  try simp only [Act.put, List.setIfInBounds_toArray, List.set_cons_zero, List.set_cons_succ]
  refine' wpAnyH_take (i := 5) (v := _) (op_at rfl) (by kernel_rfl) (by kernel_rfl) (by kernel_rfl) (fun _ _ _ h => h) (Or.inl ⟨by rfl, ?hy5⟩) (by assumption) ?rest5
  case hy5 =>
    intro w' hS
    have q_ : w'.cell? ⟨Z, 1, none⟩ = some (x.vt) := cell_in hS 1
    go_simp
    try with_reducible rfl
  try simp only [Act.put, List.setIfInBounds_toArray, List.set_cons_zero, List.set_cons_succ]
  refine' wpAnyH_take (i := 7) (v := _) (op_at rfl) (by kernel_rfl) (by kernel_rfl) (by kernel_rfl) (fun _ _ _ h => h) (Or.inl ⟨by rfl, ?hy6⟩) (by assumption) ?rest6
  case hy6 =>
    intro w' hS
    go_simp
    try with_reducible rfl
  try simp only [Act.put, List.setIfInBounds_toArray, List.set_cons_zero, List.set_cons_succ]
  refine' wpAnyH_take (i := 8) (v := _) (op_at rfl) (by kernel_rfl) (by kernel_rfl) (by kernel_rfl) (fun _ _ _ h => h) (Or.inl ⟨by rfl, ?hy7⟩) (by assumption) ?rest7
  case hy7 =>
    intro w' hS
    have q_ : w'.cell? ⟨Z, 2, none⟩ = some (x.vr) := cell_in hS 2
    go_simp
    try with_reducible rfl
  try simp only [Act.put, List.setIfInBounds_toArray, List.set_cons_zero, List.set_cons_succ]
  refine wpAnyH_ready (rs := [3]) (by kernel_rfl) (by simp) (AllReadyH.cons (op_at rfl) (fun K hK => ?_) AllReadyH.nil)
  go_simp
  (with_reducible refine (wpart_st st0 hW2 hx4.o (by omega)).mono fun e w5 hq => ?_)
  obtain ⟨rfl, st5⟩ := hq
  have h5 := st5.only
  go_wp2_with fail
  refine hK.out _ _ (h5.at hZ4 hZn) (fun hHeld => ?_)
  clear hK K
  try simp only [Act.put, List.setIfInBounds_toArray, List.set_cons_zero, List.set_cons_succ]
  refine wpAnyH_ready (rs := [6]) (by kernel_rfl) (by simp) (AllReadyH.cons (op_at rfl) (fun K hK => ?_) AllReadyH.nil)
  go_simp
  (with_reducible refine (wpart_st st5 hW2 hx4.t (by simp only [List.length_append, lb_len, be_len]; omega)).mono fun e w6 hq => ?_)
  obtain ⟨rfl, st6⟩ := hq
  have h6 := st6.only
  go_wp2_with fail
  refine hK.out _ _ (h6.at hZ4 hZn) (fun hHeld => ?_)
  clear hK K
  try simp only [Act.put, List.setIfInBounds_toArray, List.set_cons_zero, List.set_cons_succ]
  refine wpAnyH_ready (rs := [9]) (by kernel_rfl) (by simp) (AllReadyH.cons (op_at rfl) (fun K hK => ?_) AllReadyH.nil)
  go_simp
  (with_reducible refine (wpart_st st6 hW2 hx4.r (by simp only [List.length_append, lb_len, be_len]; omega)).mono fun e w7 hq => ?_)
  obtain ⟨rfl, st7⟩ := hq
  have h7 := st7.only
  go_wp2_with fail
  refine hK.out _ _ (h7.at hZ4 hZn) (fun hHeld => ?_)
  clear hK K
  try simp only [Act.put, List.setIfInBounds_toArray, List.set_cons_zero, List.set_cons_succ]
  refine wpAnyH_done (by kernel_rfl) ?_ _
  have hZ7 := h7.at hZ4 hZn
  have c3_ := cell_in hZ7 3
  have c4_ := cell_in hZ7 4
  have c5_ := cell_in hZ7 5
  have c6_ := cell_in hZ7 6
  have hzl7 : (xs ++ lb x.c.own ++ lb x.c.their ++ lb x.c.root).length = xs.length + x.c.own.length + x.c.their.length + x.c.root.length + 12 := by simp only [List.length_append, lb_len]; omega
  generalize hz7 : xs ++ lb x.c.own ++ lb x.c.their ++ lb x.c.root = z7 at *
  have Hz7 := Lib.hid hz7
  clear hz7 st0 st5 st6 h5 h6 hHeld
  simp only [List.getElem?_toArray, List.getElem?_cons_succ, List.getElem?_cons_zero] at c3_ c4_ c5_ c6_
  go_upto_block 0 with (refine wpList_buildSlice_two rfl 142 _ _ rfl 92 i0 _ 2 [x.vs, .int .u32 x.c.sn] [x.vk, .int .u32 x.c.tn] rfl rfl rfl rfl Try.underlying142 hi hz0 hz1 rfl (by decide) (by decide) ?_; intro Y W8 o8 hYl hY)
  clear c3_ c4_ c5_ c6_
  obtain ⟨v3, m5, m6, stB, hap2⟩ := st7.box o8
  have hYn := hap2 Y hYl
  obtain ⟨qs, hqs⟩ : ∃ qs : List Cv, qs = [⟨x.c.sk, x.vs, x.c.sn, x.ok.2.2.2.1⟩, ⟨x.c.tk, x.vk, x.c.tn, x.ok.2.2.2.2⟩] := ⟨_, rfl⟩
  have hrow : W8.ownsRow 0 92 2 (.slice (some ⟨Y, 0, none⟩) qs.length 2) qs.length (fl chc qs) := by
    subst hqs
    exact blk_row (cs := [x.vs, .int .u32 x.c.sn] ++ [x.vk, .int .u32 x.c.tn]) (n := 2) hY rfl (by decide)
  have hq2 : qs.length = 2 := by rw [hqs]; rfl
  have HQ : ∀ w', Only w w' (B :: v0.ownBlock.toList) → ∀ y ∈ qs, RdI a b w' y.v y.key ∧ U32 y.n := fun w' o y hy => by
    have := HI.out w' o
    rw [hqs] at hy
    simp only [List.mem_cons, List.not_mem_nil, or_false] at hy
    rcases hy with rfl | rfl
    · exact ⟨this.s, us⟩
    · exact ⟨this.k, ut⟩
  have HFM : Hid (qs.flatMap chB = lb x.c.sk ++ be x.c.sn 4 ++ (lb x.c.tk ++ be x.c.tn 4)) := by show _ = _; rw [hqs]; simp [chB]
  have hfm : z7.length + (qs.flatMap chB).length ≤ 800000 := by rw [HFM.out]; simp only [List.length_append, lb_len, be_len]; omega
  replace HQ := Lib.hid HQ
  have HM8 : Only w W8 (B :: v0.ownBlock.toList) := m3.step m6 (own_list m2)
  have HW3 : Hid (Wr b B v3) := hW2.next m5 (Nat.le_trans HB.out oZ.size)
  have HS3 : SoN w v0 v3 := m2.trans m5 oZ.size
  clear hqs hY
  go_wp2_with fail
  go_loopw [22] (fun y wr => ∃ i : Nat, y = .int .i64 i ∧ i ≤ 2 ∧ St B v3 W8 wr (z7 ++ (qs.take i).flatMap chB)) (fun y _ => 2 - (intOf y).toNat)
  case atStart => exact ⟨0, rfl, by omega, by simpa using stB⟩
  case round =>
    clear stB
    obtain ⟨i, rfl, hi2, st⟩ := hrel
    by_cases hil : i < 2
    · have d1 : decide ((i : Int) < 2) = true := by simp; omega
      have hil2 : i < qs.length := by omega
      have hrow4 := own_only hrow st.only (fun k hk hm => by
        have e : Y = k := by simpa [Value.ownBlock] using hk
        rw [← e] at hm
        exact hYn hm)
      have hrng := rec_range chc_len hrow4 hil2
      obtain ⟨hft, hfl⟩ := flat_take chB hil2
      have Hft := Lib.hid hft
      have hmem := List.getElem_mem hil2
      generalize (qs.take i).flatMap chB = ts at *
      generalize hy_ : qs[i] = y at *
      have hyl : (chB y).length = y.key.length + 8 := by simp [chB, lb_len, be_len]
      have hoc : ([y.v, .int .u32 y.n] : List Value).toArray.all (·.oneCell') = true := by
        have h1 := y.ok
        have h2 : (Value.int IntKind.u32 y.n).oneCell' = true := rfl
        simp [h1, h2]
      simp only [chc] at hrng
      have hIi : (0 : Int) ≤ (i : Int) ∧ (i : Int) < 2 := by omega
      clear hft hy_ hrow4
      go_upto_region 5 with (first
        | (refine wpList_load_mid rfl 92 _ rfl Y (i * 2) rfl [y.v, .int .u32 y.n] _ hrng Try.underlying92 (by rfl) (by kernel_rfl) ?_)
        | (refine wpList_alloc_new rfl 92 rfl (.agg #[.slice none 0 0, .int .u32 0]) (fun _ => by kernel_rfl) ?_; intro X wX oX hXl hX)
        | (refine wpList_store_blk rfl 92 _ _ rfl X [y.v, .int .u32 y.n] rfl rfl hX rfl (by kernel_rfl) hoc ?_; intro W4 oY hY4; have oXY := oX.new oY (fun i hi => by simp only [List.mem_singleton] at hi; omega); clear oX oY hX))
      obtain ⟨v4, n2, n3, st4, hap⟩ := st.box oXY
      have hXn := hap X hXl
      obtain ⟨hy4, hyu⟩ := HQ.out W4 (HM8.step n3 (own_list HS3)) y hmem
      have hy4 := And.intro hy4 trivial
      have hW4 : Wr b B v4 := HW3.out.next n2 (Nat.le_trans HB.out HM8.size)
      have st0 := st4.drew
      have hX4 : W4.drew.heap[X]? = some (.cells #[y.v, .int .u32 y.n] 92 (0, 0)) := hY4
      have hn0 : 0 ≤ y.n := hyu.1
      have hn1 : y.n < 18446744073709551616 := by have := hyu.2; omega
      have hu4 : IntKind.u64.wrap y.n = y.n := u64_in _ hyu.1 hyu.2
      have hzz : (z7 ++ ts).length + y.key.length + 8 ≤ 800000 := by rw [List.length_append]; omega
      generalize hzs : z7 ++ ts = zs at *
      have Hzs := Lib.hid hzs
      clear hrng st hap oXY st4 hY4 hzs hyl hfl
      refine wp_region_held_drew (S := fun w' => w'.heap[X]? = some (.cells #[y.v, .int .u32 y.n] 92 (0, 0))) (by kernel_rfl) hX4 (fun hHeld => ?_)
      refine' wpAnyH_take (i := 0) (v := _) (op_at rfl) (by kernel_rfl) (by kernel_rfl) (by kernel_rfl) (fun _ _ _ h => h) (Or.inl ⟨by rfl, ?hy8⟩) (by assumption) ?rest8
      case hy8 =>
        intro w' hS
        go_simp
        try with_reducible rfl
      try simp only [Act.put, List.setIfInBounds_toArray, List.set_cons_zero, List.set_cons_succ]
      refine' wpAnyH_take (i := 1) (v := _) (op_at rfl) (by kernel_rfl) (by kernel_rfl) (by kernel_rfl) (fun _ _ _ h => h) (Or.inl ⟨by rfl, ?hy9⟩) (by assumption) ?rest9
      case hy9 =>
        intro w' hS
        go_simp
        try with_reducible rfl
      try simp only [Act.put, List.setIfInBounds_toArray, List.set_cons_zero, List.set_cons_succ]
      refine' wpAnyH_take (i := 2) (v := _) (op_at rfl) (by kernel_rfl) (by kernel_rfl) (by kernel_rfl) (fun _ _ _ h => h) (Or.inl ⟨by rfl, ?hy10⟩) (by assumption) ?rest10
      case hy10 =>
        intro w' hS
        have q_ : w'.cell? ⟨X, 0, none⟩ = some (y.v) := cell_in hS 0
        go_simp
        try with_reducible rfl
      try simp only [Act.put, List.setIfInBounds_toArray, List.set_cons_zero, List.set_cons_succ]
      refine' wpAnyH_take (i := 4) (v := _) (op_at rfl) (by kernel_rfl) (by kernel_rfl) (by kernel_rfl) (fun _ _ _ h => h) (Or.inl ⟨by rfl, ?hy11⟩) (by assumption) ?rest11
      case hy11 =>
        intro w' hS
        go_simp
        try with_reducible rfl
      try simp only [Act.put, List.setIfInBounds_toArray, List.set_cons_zero, List.set_cons_succ]
      refine' wpAnyH_take (i := 5) (v := _) (op_at rfl) (by kernel_rfl) (by kernel_rfl) (by kernel_rfl) (fun _ _ _ h => h) (Or.inl ⟨by rfl, ?hy12⟩) (by assumption) ?rest12
      case hy12 =>
        intro w' hS
        have q_ : w'.cell? ⟨X, 1, none⟩ = some (.int .u32 y.n) := cell_in hS 1
        go_simp
        try with_reducible rfl
      try simp only [Act.put, List.setIfInBounds_toArray, List.set_cons_zero, List.set_cons_succ]
      refine' wpAnyH_take (i := 6) (v := _) (op_at rfl) (by kernel_rfl) (by kernel_rfl) (by kernel_rfl) (fun _ _ _ h => h) (Or.inl ⟨by rfl, ?hy13⟩) (by assumption) ?rest13
      case hy13 =>
        intro w' hS
        go_simp
        try with_reducible rfl
      try simp only [Act.put, List.setIfInBounds_toArray, List.set_cons_zero, List.set_cons_succ]
      refine wpAnyH_ready (rs := [3]) (by kernel_rfl) (by simp) (AllReadyH.cons (op_at rfl) (fun K hK => ?_) AllReadyH.nil)
      go_simp
      (with_reducible refine (wpart_st st0 hW4 hy4.1 (by omega)).mono fun e w8 hq => ?_)
      obtain ⟨rfl, st8⟩ := hq
      have h8 := st8.only
      go_wp2_with fail
      refine hK.out _ _ (h8.at hX4 hXn) (fun hHeld => ?_)
      clear hK K
      try simp only [Act.put, List.setIfInBounds_toArray, List.set_cons_zero, List.set_cons_succ]
      refine wpAnyH_ready (rs := [7]) (by kernel_rfl) (by simp) (AllReadyH.cons (op_at rfl) (fun K hK => ?_) AllReadyH.nil)
      go_simp
      (with_reducible refine (wnum4_st st8 y.n (by simp only [List.length_append, lb_len, be_len]; omega) hn0 hn1).mono fun e w9 hq => ?_)
      obtain ⟨rfl, st9⟩ := hq
      have h9 := st9.only
      go_wp2_with fail
      refine hK.out _ _ (h9.at hX4 hXn) (fun hHeld => ?_)
      clear hK K
      try simp only [Act.put, List.setIfInBounds_toArray, List.set_cons_zero, List.set_cons_succ]
      refine wpAnyH_done (by kernel_rfl) ?_ _
      go_wp2_with fail
      have stE := St.trans n2 n3 st9
      have hEq : Hid (zs ++ lb y.key ++ be y.n 4 = z7 ++ (qs.take (i + 1)).flatMap chB) := by
        show _ = _
        rw [Hft.out, ← Hzs.out, chB]
        simp only [List.append_assoc]
      rw [hEq.out] at stE
      exact ⟨⟨i + 1, by simp, by omega, stE⟩, by simp [intOf]; omega⟩
    · obtain rfl : i = 2 := by omega
      have d1 : decide (((2 : Nat) : Int) < 2) = false := by decide
      rw [show ((2 : Nat) : Int) = 2 from rfl] at *
      rw [List.take_of_length_le (by omega), HFM.out] at st
      have stF := St.trans m5 m6 st
      have hZf := stF.only.at hZ4 hZn
      have c7_ := cell_in hZf 7
      have c8_ := cell_in hZf 8
      simp only [List.getElem?_toArray, List.getElem?_cons_succ, List.getElem?_cons_zero] at c7_ c8_
      have hn0 : 0 ≤ x.c.prev := up.1
      have hn1 : x.c.prev < 18446744073709551616 := by have := up.2; omega
      have hu4 : IntKind.u64.wrap x.c.prev = x.c.prev := u64_in _ up.1 up.2
      have hlF : (z7 ++ (lb x.c.sk ++ be x.c.sn 4 ++ (lb x.c.tk ++ be x.c.tn 4))).length + 4 + (stoB x.c.l).length ≤ 800000 := by simp only [List.length_append, lb_len, be_len]; omega
      generalize hzF : z7 ++ (lb x.c.sk ++ be x.c.sn 4 ++ (lb x.c.tk ++ be x.c.tn 4)) = zF at *
      have HzF := Lib.hid hzF
      clear st hzF hfm
      go_wp2_with fail
      refine (wnum4_st stF x.c.prev (by omega) hn0 hn1).mono ?_
      rintro e wA ⟨rfl, stA⟩
      have hZA := stA.only.at hZ4 hZn
      clear c7_ c8_ stF hZf
      have c8_ := cell_in hZA 8
      simp only [List.getElem?_toArray, List.getElem?_cons_succ, List.getElem?_cons_zero] at c8_
      have hsl := stA.step fun v1 r1 r2 => slay_any a b B v1 (zF ++ be x.c.prev 4) x.S x.l wA r1 (hW2.next r2 (Nat.le_trans HB.out oZ.size)) ((HI.out wA (m3.step stA.only (own_list m2))).l) (Nat.le_trans HB.out (m3.step stA.only (own_list m2)).size) hn (by rw [← HE.out]; simp only [List.length_append, be_len]; omega)
      clear stA
      go_wp2_with fail
      refine hsl.mono ?_
      rintro e wB ⟨rfl, stZ⟩
      clear hsl c8_
      go_wp2_with fail
      go_end0
      refine ⟨rfl, ?_⟩
      have stY := St.trans m2 m3 stZ
      rw [← HzF.out, ← Hz7.out, ← HE.out] at stY
      have e : xs ++ staB x.c = xs ++ lb x.c.own ++ lb x.c.their ++ lb x.c.root ++ (lb x.c.sk ++ be x.c.sn 4 ++ (lb x.c.tk ++ be x.c.tn 4)) ++ be x.c.prev 4 ++ stoB x.c.l := by simp only [staB, List.append_assoc]
      rw [e]
      exact stY
end Go.Proofs.Ytdlbkdnpbcpjfaa
