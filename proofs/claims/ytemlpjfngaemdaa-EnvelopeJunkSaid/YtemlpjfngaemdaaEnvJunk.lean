/- EnvelopeJunk returns true for all bytes and envelopes: what any bytes are read as has just these bytes. No condition. -/
import Derived.Test.YtemlpjfngaemdaaEnvInv
import Derived.Test.YtemlpjfngaemdaaEnvS
import Derived.Test.YtemlpjfngaemdaaBy
import Derived.Test.YtemlpjfngaemdaaOpenE
import Derived.Test.YtemlpjfngaemdaaRegT
import Derived.Test.YtemlpjfngaemdaaSEnvelopeJunk
import Derived.Deep.CutBlock
import Derived.Deep.Cut
import Derived.Laws.BitsAllLaws
import Derived.IntWalk
namespace Go.Proofs.Ytemlpjfngaemdaa
open Go.RowKit Go.Pw
set_option linter.unusedVariables false

theorem byt_env2 {ss has hss hks dks sls : List Int} (fu fd tu td : Int) (hs : Bool) (sg : Int) (hh : Bool) (on dp dn : Int) (h1 : Byt ss) (h2 : Byt has) (h3 : Byt hss) (h4 : Byt hks) (h5 : Byt dks) (h6 : Byt sls) : Byt (envB fu fd tu td ss hs has hss hks sg hh on dks dp dn sls) :=
  (((((((((be_byt _ _).app (be_byt _ _)).app ((be_byt _ _).app (be_byt _ _))).app (be_byt _ _)).app h1).app (byt_flag _)).app (byt_if (byt_hello _ _ _ h2 h3 h4))).app ((((be_byt _ _).app h5).app (be_byt _ _)).app (be_byt _ _))).app (be_byt _ _)).app h6
theorem envB_len2 (fu fd tu td : Int) (ss : List Int) (hs : Bool) (has hss hks : List Int) (sg : Int) (hh : Bool) (on : Int) (dks : List Int) (dp dn : Int) (sls : List Int) : (envB fu fd tu td ss hs has hss hks sg hh on dks dp dn sls).length ≤ ss.length + has.length + hss.length + hks.length + dks.length + sls.length + 60 ∧ 0 < (envB fu fd tu td ss hs has hss hks sg hh on dks dp dn sls).length := by
  have := frontB_len fu fd tu td ss hs has hss hks sg hh on
  simp [envB, headB_len, be_len]
  omega
/-- The parts are no longer than the bytes. -/
theorem envB_ge (fu fd tu td : Int) (ss : List Int) (hs : Bool) (has hss hks : List Int) (sg : Int) (hh : Bool) (on : Int) (dks : List Int) (dp dn : Int) (sls : List Int) (hz : hs = false → has = [] ∧ hss = [] ∧ hks = []) : ss.length + has.length + hss.length + hks.length + dks.length + sls.length ≤ (envB fu fd tu td ss hs has hss hks sg hh on dks dp dn sls).length := by
  cases hs
  · obtain ⟨rfl, rfl, rfl⟩ := hz rfl
    simp [envB, frontB, headB, whoB, be_len]
    omega
  · simp [envB, frontB, headB, whoB, helloB, identB, be_len]
    omega
theorem bundleB_ge (u d : Int) (ags sgs : List Int) (sg : Int) (ks gs : List Int) (has : Bool) (on : Int) (os : List Int) (hz : has = false → os = []) : ags.length + sgs.length + ks.length + gs.length + os.length ≤ (bundleB u d ags sgs sg ks gs has on os).length := by
  cases has
  · obtain rfl := hz rfl
    simp [bundleB, whoB, identB, be_len]
    omega
  · simp [bundleB, whoB, identB, be_len]
    omega
theorem pEnv_h0 {ps : List Int} {a : EnvD} {s : List Int × Bool} (h : pEnv (ps, false) = (a, s)) : a.has = false → a.h.ag = [] ∧ a.h.sg = [] ∧ a.h.key = [] := by
  unfold pEnv at h
  injection h with h _
  subst h
  intro hf
  simp only at hf ⊢
  rw [pOH, if_neg (by simp [hf])]
  exact ⟨rfl, rfl, rfl⟩
theorem pBd_h0 {ps : List Int} {a : BundD} {s : List Int × Bool} (h : pBd (ps, false) = (a, s)) : a.has = false → a.oncek = [] := by
  unfold pBd at h
  simp only at h
  split at h
  · injection h with h _
    subst h
    simp
  · injection h with h _
    subst h
    simp

theorem xor_byte (x t : Int) (h0 : 0 ≤ x) (h1 : x < 256) (h2 : 0 ≤ t) (h3 : t < 256) : 0 ≤ bits .xor .u8 x t ∧ bits .xor .u8 x t < 256 := by
  rw [u8_xor _ _ h0 h1 h2 h3]
  have := Nat.xor_lt_two_pow (n := 8) (x := x.toNat) (y := t.toNat) (by omega) (by omega)
  constructor <;> omega

/-- What a reading of qs as an envelope leaves in a block: its answer's number, its cells. -/
def EnvOK (W w : World) (qs : List Int) (en : Int) (cs : List Value) : Prop :=
  (en = 0 ∧ ∃ (a : EnvD) (vs va vg vk vd vz : Value), GotE W w a vs va vg vk vd vz ∧ qs = envB a.fu a.fd a.tu a.td a.ss a.has a.h.ag a.h.sg a.h.key a.h.signed a.h.has a.h.once a.dks a.dp a.dn a.sls ∧ (a.has = false → a.h.ag = [] ∧ a.h.sg = [] ∧ a.h.key = []) ∧
    cs = [.int .i64 a.fu, .int .i64 a.fd, .int .i64 a.tu, .int .i64 a.td, vs, .bool a.has, va, vg, vk, .int .u32 a.h.signed, .bool a.h.has, .int .u32 a.h.once, vd, .int .u32 a.dp, .int .u32 a.dn, vz]) ∨
  (en = 4 ∧ cs = [.int .i64 0, .int .i64 0, .int .i64 0, .int .i64 0, .slice none 0 0, .bool false, .slice none 0 0, .slice none 0 0, .slice none 0 0, .int .u32 0, .bool false, .int .u32 0, .slice none 0 0, .int .u32 0, .int .u32 0, .slice none 0 0])
def BdOK (W w : World) (qs : List Int) (en : Int) (cs : List Value) : Prop :=
  (en = 0 ∧ ∃ (a : BundD) (va vs vk vq vo : Value), GotB W w a va vs vk vq vo ∧ qs = bundleB a.u a.d a.ag a.sg a.signed a.key a.sig a.has a.once a.oncek ∧ (a.has = false → a.oncek = []) ∧
    cs = [.int .i64 a.u, .int .i64 a.d, va, vs, .int .u32 a.signed, vk, vq, .bool a.has, .int .u32 a.once, vo]) ∨
  (en = 4 ∧ cs = [.int .i64 0, .int .i64 0, .slice none 0 0, .slice none 0 0, .int .u32 0, .slice none 0 0, .slice none 0 0, .bool false, .int .u32 0, .slice none 0 0])
def InOK (W w : World) (qs : List Int) (en : Int) (cs : List Value) : Prop :=
  (en = 0 ∧ ∃ (u n : Int) (ts : List Int) (vt : Value), Got W w vt ts ∧ U32 n ∧ qs = innerB u n ts ∧ ts.length ≤ 256 ∧ cs = [.int .i64 u, .int .u32 n, vt]) ∨
  ((en = 4 ∨ en = 5) ∧ cs = [.int .i64 0, .int .u32 0, .slice none 0 0])
theorem info_env2 : (Try.prog.info? 43).map (·.size) = some 16 := by kernel_rfl
theorem info_bd : (Try.prog.info? 76).map (·.size) = some 10 := by kernel_rfl
theorem info_inn : (Try.prog.info? 49).map (·.size) = some 3 := by kernel_rfl

set_option maxRecDepth 100000 in
set_option maxHeartbeats 12800000 in
theorem junk_main (aq : Option Addr) (cq : Nat) (P : List Int) (at_ tn ct : Int) (fu fd tu td sg on dp dn : Int) (hs hh : Bool) (ss has hss hks dks sls : List Int) (ap ax ay ak ad az : Option Addr) (cp cx cy ck cd cz : Nat) (w : World) (hq : Rd w (.slice aq P.length cq) P) (bq : Byt P) (a0 : 0 ≤ at_) (a1 : at_ < 65536) (t0 : 0 ≤ tn) (t1 : tn < 256) (c0_ : 0 ≤ ct) (c1_ : ct < 65536) (hp : Rd w (.slice ap ss.length cp) ss) (hx : Rd w (.slice ax has.length cx) has) (hy : Rd w (.slice ay hss.length cy) hss) (hk : Rd w (.slice ak hks.length ck) hks) (hd : Rd w (.slice ad dks.length cd) dks) (hz : Rd w (.slice az sls.length cz) sls) (bp : Byt ss) (bx : Byt has) (by_ : Byt hss) (bk : Byt hks) (bd : Byt dks) (bz : Byt sls) (usg : U32 sg) (uon : U32 on) (udp : U32 dp) (udn : U32 dn) (lp : ss.length ≤ 140737488351232) (lx : has.length ≤ 140737488351232) (ly : hss.length ≤ 140737488351232) (lk : hks.length ≤ 140737488351232) (ld : dks.length ≤ 140737488351232) (lz : sls.length ≤ 140737488351232) (hl0 : P.length ≤ 1000) (hl1 : ss.length + has.length + hss.length + hks.length + dks.length + sls.length ≤ 3000) :
    Calls Try.prog 12 #[.slice aq P.length cq, .agg #[.int .i64 fu, .int .i64 fd, .int .i64 tu, .int .i64 td, .slice ap ss.length cp, .bool hs, .slice ax has.length cx, .slice ay hss.length cy, .slice ak hks.length ck, .int .u32 sg, .bool hh, .int .u32 on, .slice ad dks.length cd, .int .u32 dp, .int .u32 dn, .slice az sls.length cz], .int .u16 at_, .int .u8 tn, .int .u16 ct] w fun e w' => e = .returned (.bool true) ∧ Below w.heap.size w w' := by
  obtain ⟨i0, hi, hz0, hz1, hz2⟩ := info_parts Try.info5
  have d0 : decide ((1000 : Int) < P.length) = false := by simp; omega
  have d1 : decide (ss.length + has.length + hss.length + hks.length + dks.length + sls.length ≤ 3000) = true := by simpa using hl1
  go_enter Try.func12, Try.ntmps12
  go_wp2_with fail
  obtain ⟨W, X, hW, hX, hbX, hoW, hX1, hX2⟩ := new_block w (.cells #[.int .i64 fu, .int .i64 fd, .int .i64 tu, .int .i64 td, .slice ap ss.length cp, .bool hs, .slice ax has.length cx, .slice ay hss.length cy, .slice ak hks.length ck, .int .u32 sg, .bool hh, .int .u32 on, .slice ad dks.length cd, .int .u32 dp, .int .u32 dn, .slice az sls.length cz] 43)
  rw [← hW, ← hX]
  clear hW hX
  refine (awake14 _).mono ?_
  rintro e w1 ⟨rfl, h1⟩
  have hX1' := h1.at hbX (by simp)
  have c0 := cell_in hX1' 0
  have c1 := cell_in hX1' 1
  have c2 := cell_in hX1' 2
  have c3 := cell_in hX1' 3
  have c4 := cell_in hX1' 4
  have c5 := cell_in hX1' 5
  have c6 := cell_in hX1' 6
  have c7 := cell_in hX1' 7
  have c8 := cell_in hX1' 8
  have c9 := cell_in hX1' 9
  have c10 := cell_in hX1' 10
  have c11 := cell_in hX1' 11
  have c12 := cell_in hX1' 12
  have c13 := cell_in hX1' 13
  have c14 := cell_in hX1' 14
  have c15 := cell_in hX1' 15
  go_wp2_with fail
  refine (short_any fu fd tu td sg on dp dn hs hh ss has hss hks dks sls ap ax ay ak ad az cp cx cy ck cd cz _ lp lx ly lk ld lz).mono ?_
  rintro e w2 ⟨rfl, h2⟩
  clear c0 c1 c2 c3 c4 c5 c6 c7 c8 c9 c10 c11 c12 c13 c14 c15
  have hX2' := h2.at hX1' (by simp)
  have c0 := cell_in hX2' 0
  have c1 := cell_in hX2' 1
  have c2 := cell_in hX2' 2
  have c3 := cell_in hX2' 3
  have c4 := cell_in hX2' 4
  have c5 := cell_in hX2' 5
  have c6 := cell_in hX2' 6
  have c7 := cell_in hX2' 7
  have c8 := cell_in hX2' 8
  have c9 := cell_in hX2' 9
  have c10 := cell_in hX2' 10
  have c11 := cell_in hX2' 11
  have c12 := cell_in hX2' 12
  have c13 := cell_in hX2' 13
  have c14 := cell_in hX2' 14
  have c15 := cell_in hX2' 15
  go_wp2_with fail
  have o2 := (hoW.trans h1).trans h2
  clear c0 c1 c2 c3 c4 c5 c6 c7 c8 c9 c10 c11 c12 c13 c14 c15
  refine (rfenv_any fu fd tu td sg on dp dn hs hh (.slice ap ss.length cp) (.slice ax has.length cx) (.slice ay hss.length cy) (.slice ak hks.length ck) (.slice ad dks.length cd) (.slice az sls.length cz) ss has hss hks dks sls _ (hp.new o2) (hx.new o2) (hy.new o2) (hk.new o2) (hd.new o2) (hz.new o2) usg uon udp udn (by omega)).mono fun e w3 hq0 => ?_
  obtain ⟨ys, a1, q1, Hys, rfl, g1, g2, g3⟩ := hq0.name
  clear hq0 d1 hbX
  have hyb : Byt ys := by rw [Hys.out]; exact byt_env2 _ _ _ _ _ _ _ _ _ _ bp bx by_ bk bd bz
  have hyl : ys.length ≤ 3100 ∧ 0 < ys.length := by rw [Hys.out]; have := envB_len2 fu fd tu td ss hs has hss hks sg hh on dks dp dn sls; omega
  have o3 := o2.trans g3
  have hp3 := hq.new o3
  clear hX1' hX2' hX1 hX2 h1 h2 hoW hp hx hy hk hd hz bp bx by_ bk bd bz lp lx ly lk ld lz
  have hz1s := own_rd g1
  go_wp2_with (at_builtin; refine wpList_append_src rfl _ _ 22 rfl 5 i0 (.int .u8 0) 1 1 Try.underlying22 hi hz0 hz1 hz2 rfl (by decide) (.slice none 0 0) 0 [] rfl (World.ownsRow_nil _ _ _ _) _ ys.length _ rfl hz1s (by simp [Value.oneCell']) (by unfold maxLen; omega) (by omega) ?_; intro v4 w4 k1 k2 k3; simp only [Nat.zero_add, List.nil_append] at k1; obtain ⟨a4, q4, rfl⟩ := own_slice k1)
  obtain ⟨ix, hix⟩ : ∃ ix : Nat, at_ % (ys.length : Int) = ix := ⟨(at_ % (ys.length : Int)).toNat, by have := Int.emod_nonneg at_ (show (ys.length : Int) ≠ 0 by omega); omega⟩
  have hixl : ix < ys.length := by have := Int.emod_lt_of_pos at_ (show (0 : Int) < ys.length by omega); omega
  have htm : at_.tmod (ys.length : Int) = ix := by rw [Int.tmod_eq_emod_of_nonneg a0]; exact hix
  have hwr : IntKind.i64.wrap at_ = at_ := IntWalk.i64_in _ (by omega)
  have hyn : ¬ ys = [] := fun e => by rw [e] at hyl; simp at hyl
  obtain ⟨gc, rfl, _⟩ := own_some k1 (by omega)
  have hgc : w3.heap.size ≤ gc := by
    rcases k3 gc rfl with h | h
    · simp [Value.ownBlock] at h
    · exact h
  have o4 : Only w3 w4 [] := Only.grown k2 (by simp [Value.ownBlock])
  refine wp_region_t (S := fun w' => Only w4.drew w' []) 17 (by kernel_rfl) (by kernel_rfl) (Only.refl _ _) (fun hZ hHeld => ?_)
  refine' wpAnyT_take (i := 0) (v := _) hZ (op_at' rfl) (by rfl) (by kernel_rfl) (by kernel_rfl) (by kernel_rfl) (by kernel_rfl) (fun _ _ _ h => h) (Or.inl ⟨by rfl, ?hy1⟩) (by assumption) ?rest1
  case hy1 =>
    intro w' hS
    go_simp
    try with_reducible rfl
  try simp only [Act.put, List.setIfInBounds_toArray, List.set_cons_zero, List.set_cons_succ]
  refine' wpAnyT_take (i := 1) (v := _) hZ (op_at' rfl) (by rfl) (by kernel_rfl) (by kernel_rfl) (by kernel_rfl) (by kernel_rfl) (fun _ _ _ h => h) (Or.inl ⟨by rfl, ?hy2⟩) (by assumption) ?rest2
  case hy2 =>
    intro w' hS
    go_simp
    try with_reducible rfl
  try simp only [Act.put, List.setIfInBounds_toArray, List.set_cons_zero, List.set_cons_succ]
  refine' wpAnyT_take (i := 2) (v := _) hZ (op_at' rfl) (by rfl) (by kernel_rfl) (by kernel_rfl) (by kernel_rfl) (by kernel_rfl) (fun _ _ _ h => h) (Or.inl ⟨by rfl, ?hy3⟩) (by assumption) ?rest3
  case hy3 =>
    intro w' hS
    go_simp
    try with_reducible rfl
  try simp only [Act.put, List.setIfInBounds_toArray, List.set_cons_zero, List.set_cons_succ]
  refine' wpAnyT_take (i := 3) (v := _) hZ (op_at' rfl) (by rfl) (by kernel_rfl) (by kernel_rfl) (by kernel_rfl) (by kernel_rfl) (fun _ _ _ h => h) (Or.inl ⟨by rfl, ?hy4⟩) (by assumption) ?rest4
  case hy4 =>
    intro w' hS
    go_simp
    try with_reducible rfl
  try simp only [Act.put, List.setIfInBounds_toArray, List.set_cons_zero, List.set_cons_succ]
  refine' wpAnyT_take (i := 4) (v := _) hZ (op_at' rfl) (by rfl) (by kernel_rfl) (by kernel_rfl) (by kernel_rfl) (by kernel_rfl) (fun _ _ _ h => h) (Or.inl ⟨by rfl, ?hy5⟩) (by assumption) ?rest5
  case hy5 =>
    intro w' hS
    go_simp
    try with_reducible rfl
  try simp only [Act.put, List.setIfInBounds_toArray, List.set_cons_zero, List.set_cons_succ]
  refine' wpAnyT_take (i := 5) (v := _) hZ (op_at' rfl) (by rfl) (by kernel_rfl) (by kernel_rfl) (by kernel_rfl) (by kernel_rfl) (fun _ _ _ h => h) (Or.inl ⟨by rfl, ?hy6⟩) (by assumption) ?rest6
  case hy6 =>
    intro w' hS
    go_simp
    try with_reducible rfl
  try simp only [Act.put, List.setIfInBounds_toArray, List.set_cons_zero, List.set_cons_succ]
  refine' wpAnyT_take (i := 6) (v := _) hZ (op_at' rfl) (by rfl) (by kernel_rfl) (by kernel_rfl) (by kernel_rfl) (by kernel_rfl) (fun _ _ _ h => h) (Or.inl ⟨by rfl, ?hy7⟩) (by assumption) ?rest7
  case hy7 =>
    intro w' hS
    go_simp
    try with_reducible rfl
  try simp only [Act.put, List.setIfInBounds_toArray, List.set_cons_zero, List.set_cons_succ]
  refine' wpAnyT_take (i := 7) (v := _) hZ (op_at' rfl) (by rfl) (by kernel_rfl) (by kernel_rfl) (by kernel_rfl) (by kernel_rfl) (fun _ _ _ h => h) (Or.inl ⟨by rfl, ?hy8⟩) (by assumption) ?rest8
  case hy8 =>
    intro w' hS
    go_simp
    try with_reducible rfl
  try simp only [Act.put, List.setIfInBounds_toArray, List.set_cons_zero, List.set_cons_succ]
  refine' wpAnyT_take (i := 8) (v := _) hZ (op_at' rfl) (by rfl) (by kernel_rfl) (by kernel_rfl) (by kernel_rfl) (by kernel_rfl) (fun _ _ _ h => h) (Or.inl ⟨by rfl, ?hy9⟩) (by assumption) ?rest9
  case hy9 =>
    intro w' hS
    go_simp
    try with_reducible rfl
  try simp only [Act.put, List.setIfInBounds_toArray, List.set_cons_zero, List.set_cons_succ]
  refine' wpAnyT_take (i := 9) (v := _) hZ (op_at' rfl) (by rfl) (by kernel_rfl) (by kernel_rfl) (by kernel_rfl) (by kernel_rfl) (fun _ _ _ h => h) (Or.inl ⟨by rfl, ?hy10⟩) (by assumption) ?rest10
  case hy10 =>
    intro w' hS
    go_simp
    try with_reducible rfl
  try simp only [Act.put, List.setIfInBounds_toArray, List.set_cons_zero, List.set_cons_succ]
  refine' wpAnyT_take (i := 10) (v := _) hZ (op_at' rfl) (by rfl) (by kernel_rfl) (by kernel_rfl) (by kernel_rfl) (by kernel_rfl) (fun _ _ _ h => h) (Or.inl ⟨by rfl, ?hy11⟩) (by assumption) ?rest11
  case hy11 =>
    intro w' hS
    go_simp
    try with_reducible rfl
  try simp only [Act.put, List.setIfInBounds_toArray, List.set_cons_zero, List.set_cons_succ]
  refine' wpAnyT_take (i := 11) (v := _) hZ (op_at' rfl) (by rfl) (by kernel_rfl) (by kernel_rfl) (by kernel_rfl) (by kernel_rfl) (fun _ _ _ h => h) (Or.inl ⟨by rfl, ?hy12⟩) (by assumption) ?rest12
  case hy12 =>
    intro w' hS
    go_simp
    try with_reducible rfl
  try simp only [Act.put, List.setIfInBounds_toArray, List.set_cons_zero, List.set_cons_succ]
  refine' wpAnyT_take (i := 12) (v := _) hZ (op_at' rfl) (by rfl) (by kernel_rfl) (by kernel_rfl) (by kernel_rfl) (by kernel_rfl) (fun _ _ _ h => h) (Or.inl ⟨by rfl, ?hy13⟩) (by assumption) ?rest13
  case hy13 =>
    intro w' hS
    go_simp
    try with_reducible rfl
  try simp only [Act.put, List.setIfInBounds_toArray, List.set_cons_zero, List.set_cons_succ]
  refine' wpAnyT_take (i := 13) (v := _) hZ (op_at' rfl) (by rfl) (by kernel_rfl) (by kernel_rfl) (by kernel_rfl) (by kernel_rfl) (fun _ _ _ h => h) (Or.inl ⟨by rfl, ?hy14⟩) (by assumption) ?rest14
  case hy14 =>
    intro w' hS
    have kS := own_new k1 ((Only.drew w4 []).trans hS) (by simp)
    have cx := kS.cellAt ix (by omega)
    rw [List.getElem?_map, List.getElem?_eq_getElem hixl] at cx
    simp only [Option.map_some] at cx
    go_simp
    try with_reducible rfl
  try simp only [Act.put, List.setIfInBounds_toArray, List.set_cons_zero, List.set_cons_succ]
  refine' wpAnyT_take (i := 14) (v := _) hZ (op_at' rfl) (by rfl) (by kernel_rfl) (by kernel_rfl) (by kernel_rfl) (by kernel_rfl) (fun _ _ _ h => h) (Or.inl ⟨by rfl, ?hy15⟩) (by assumption) ?rest15
  case hy15 =>
    intro w' hS
    go_simp
    try with_reducible rfl
  try simp only [Act.put, List.setIfInBounds_toArray, List.set_cons_zero, List.set_cons_succ]
  refine' wpAnyT_take (i := 15) (v := _) hZ (op_at' rfl) (by rfl) (by kernel_rfl) (by kernel_rfl) (by kernel_rfl) (by kernel_rfl) (fun _ _ _ h => h) (Or.inl ⟨by rfl, ?hy16⟩) (by assumption) ?rest16
  case hy16 =>
    intro w' hS
    go_simp
    try with_reducible rfl
  try simp only [Act.put, List.setIfInBounds_toArray, List.set_cons_zero, List.set_cons_succ]
  refine' wpAnyT_take (i := 16) (v := _) hZ (op_at' rfl) (by rfl) (by kernel_rfl) (by kernel_rfl) (by kernel_rfl) (by kernel_rfl) (fun _ _ _ h => h) (Or.inl ⟨by rfl, ?hy17⟩) (by assumption) ?rest17
  case hy17 =>
    intro w' hS
    go_simp
    try with_reducible rfl
  try simp only [Act.put, List.setIfInBounds_toArray, List.set_cons_zero, List.set_cons_succ]
  refine wpAnyT_last (by kernel_rfl) (op_at' rfl) (by kernel_rfl) (fun K hK => ?_)
  have cx := k1.cellAt ix (by omega)
  have fx := k1.frozenAt ix
  rw [List.getElem?_map, List.getElem?_eq_getElem hixl] at cx
  simp only [Option.map_some] at cx
  go_simp
  go_wp2_with fail
  refine hK.out _ _ ?_
  clear hK K
  try simp only [Act.put, List.setIfInBounds_toArray, List.set_cons_zero, List.set_cons_succ]
  have hbx := xor_byte ys[ix] tn (hyb _ (List.getElem_mem _)).1 (hyb _ (List.getElem_mem _)).2 t0 t1
  have k5 := (World.ownsRow.stored k1 ix (.int .u8 (bits .xor .u8 ys[ix] tn))).1
  have o5 : Only w3 (w4.setCell ⟨gc, ix, none⟩ (.int .u8 (bits .xor .u8 ys[ix] tn))) [gc] := (o4.mono (by simp)).trans (Only.setCell _ _ _ _ (by simp))
  have hb5 := Src.off hz1s o5 (Src.off_new hz1s (by decide) (by simpa using hgc))
  have o6 : Only w (w4.setCell ⟨gc, ix, none⟩ (.int .u8 (bits .xor .u8 ys[ix] tn))) [] := o3.new o5 (by have := o3.size; simp; omega)
  rw [← List.map_set] at k5
  have hzb : Byt (ys.set ix (bits .xor .u8 ys[ix] tn)) := fun z hz => by
    rcases List.mem_or_eq_of_mem_set hz with h | rfl
    · exact hyb z h
    · exact hbx
  have hzl : (ys.set ix (bits .xor .u8 ys[ix] tn)).length = ys.length := by simp
  generalize ys.set ix (bits .xor .u8 ys[ix] tn) = zs at *
  have Hzl := Lib.hid hzl
  clear hzl
  have hcq : ys.length ≤ q1 := by
    obtain ⟨_, _, e, h1, _⟩ := hb5
    cases e
    exact h1
  obtain ⟨kk, hkk⟩ : ∃ kk : Nat, ct % ((ys.length : Int) + 1) = kk := ⟨(ct % ((ys.length : Int) + 1)).toNat, by have := Int.emod_nonneg ct (show (ys.length : Int) + 1 ≠ 0 by omega); omega⟩
  have hkl : kk ≤ ys.length := by have := Int.emod_lt_of_pos ct (show (0 : Int) < (ys.length : Int) + 1 by omega); omega
  clear hZ hHeld hix htm hwr hyn hbx k1 k2 k3 hz1s g1 g2 g3 o4 o5
  go_upto_block 0 with fail
  have hws : w4.heap.size = (w4.setCell ⟨gc, ix, none⟩ (.int .u8 (bits .xor .u8 ys[ix] tn))).heap.size := by simp
  generalize w4.setCell ⟨gc, ix, none⟩ (.int .u8 (bits .xor .u8 ys[ix] tn)) = w5 at *
  rw [hws]
  obtain ⟨v6, Y, hW, hY, hbY0, hoY0, hY1, hY2⟩ := new_block w5 (.cells #[.slice aq P.length cq, .slice (some ⟨gc, 0, none⟩) ys.length q4, .slice a1 kk q1] 22)
  rw [← hW, ← hY]
  clear hW hY
  have hbY : v6.drew.heap[Y]? = _ := hbY0
  have hoY := hoY0.trans (Only.drew v6 [])
  clear hbY0 hoY0 hY1 hY2
  generalize v6.drew = w6 at *
  have hL3 : ∀ i : Nat, i < 3 → ∃ (a : Option Addr) (c : Nat) (qs : List Int), (∀ w', Only w6 w' [] → w'.cell? ⟨Y, i, none⟩ = some (.slice a qs.length c)) ∧ Rd w6 (.slice a qs.length c) qs ∧ Byt qs ∧ qs.length ≤ 4000 := by
    intro i hi
    rcases (by omega : i = 0 ∨ i = 1 ∨ i = 2) with rfl | rfl | rfl
    · exact ⟨aq, cq, P, fun w' ho => cell_in (ho.at hbY (by simp)) 0, hq.new (o6.trans hoY), bq, by omega⟩
    · refine ⟨some ⟨gc, 0, none⟩, q4, zs, fun w' ho => ?_, ?_, hzb, by rw [Hzl.out]; omega⟩
      · rw [Hzl.out]
        exact cell_in (ho.at hbY (by simp)) 1
      · have := own_src k5
        rw [← Hzl.out] at this
        exact Rd.new this hoY
    · refine ⟨a1, q1, ys.take kk, fun w' ho => ?_, ?_, fun z hz => hyb z (List.mem_of_mem_take hz), by simp; omega⟩
      · rw [show (ys.take kk).length = kk by simp; omega]
        exact cell_in (ho.at hbY (by simp)) 2
      · have := src_take hb5 hkl
        rw [← List.map_take] at this
        refine Rd.new ?_ hoY
        unfold Rd
        rw [show (ys.take kk).length = kk by simp; omega]
        exact this
  have hL3 := Lib.hid hL3
  have o7 := o6.trans hoY
  clear hbY hoY hws k5 hb5 o6 hq bq hzb hcq hkk hkl o3 hp3 o2
  go_wp2_with fail
  go_loopg [67] 3 (fun g u67 wr => ∃ i : Nat, i + g = 3 ∧ u67 = .int .i64 i ∧ Only w6 wr [])
  case atStart => exact ⟨0, by omega, rfl, Only.refl _ _⟩
  case round =>
    obtain ⟨i, hi0, rfl, ho⟩ := hrel
    have hi_ := Lib.hid hi0
    by_cases hi3 : i < 3
    · have t3 : decide ((i : Int) < 3) = true := by simp; omega
      obtain ⟨qa, qc, qs, hcell, hrd, hbq, hql⟩ := hL3.out i hi3
      have hcw := hcell _ ho
      clear hi0
      go_upto_region 9 with fail
      go_cut [15, 16, 67] from 67 to 150 (fun ua ue u67 wx => ∃ (Y1 : Nat) (en : Int) (cs : List Value), ua = .pointer (some ⟨Y1, 0, none⟩) ∧ ue = .int .i64 en ∧ u67 = .int .i64 i ∧ wx.heap[Y1]? = some (.cells cs.toArray 43 (0, 0)) ∧ Only w6 wx [] ∧ EnvOK w6 wx qs en cs)
      case first =>
        as_aux_lemma =>
          go_wp2_with fail
          refine (decode_any _ qs _ (hrd.new ho) hbq (by omega)).mono ?_
          rintro e w7 ⟨a, s, hd, ho7, hcase⟩
          rcases hcase with ⟨he, vs, va, vg, vk, vd, vz, rfl, hg⟩ | ⟨he, rfl⟩
          · obtain ⟨b1, d1, rfl⟩ := hg.gs.1
            obtain ⟨b2, d2, rfl⟩ := hg.gh.ga.1
            obtain ⟨b3, d3, rfl⟩ := hg.gh.gs.1
            obtain ⟨b4, d4, rfl⟩ := hg.gh.gk.1
            obtain ⟨b5, d5, rfl⟩ := hg.gd.1
            obtain ⟨b6, d6, rfl⟩ := hg.gz.1
            simp only [enV]
            go_wp2_with fail
            go_meet
            exact ⟨w7.heap.size, 0, _, rfl, rfl, rfl, heap_alloc_new w7 _, ho.trans (ho7.trans (Only.alloc _ _ _)), .inl ⟨rfl, a, _, _, _, _, _, _, (hg.mono ho.size).next (Only.alloc w7 _ []) (by simp), pEnv_inv hbq hd he, pEnv_h0 hd, rfl⟩⟩
          · simp only [en0]
            go_wp2_with fail
            go_meet
            exact ⟨w7.heap.size, 4, _, rfl, rfl, rfl, heap_alloc_new w7 _, ho.trans (ho7.trans (Only.alloc _ _ _)), .inr ⟨rfl, rfl⟩⟩
      case rest =>
        obtain ⟨Y1, en, cs, rfl, rfl, rfl, hY1, ho1, hok⟩ := hcut
        clear ho
        obtain ⟨wv0, hwv⟩ : ∃ z, z = wc := ⟨_, rfl⟩
        subst hwv
        go_upto_region 10 with fail
        go_cut [67, 99] from 67 to 150 (fun u67 ub wx => u67 = .int .i64 i ∧ ub = .bool false ∧ Only w6 wx [])
        case first =>
          as_aux_lemma =>
            rcases hok with ⟨rfl, a, vs, va, vg, vk, vd, vz, hg, hqs0, hh0, rfl⟩ | ⟨rfl, rfl⟩
            · obtain ⟨b1, d1, rfl⟩ := hg.gs.1
              obtain ⟨b2, d2, rfl⟩ := hg.gh.ga.1
              obtain ⟨b3, d3, rfl⟩ := hg.gh.gs.1
              obtain ⟨b4, d4, rfl⟩ := hg.gh.gk.1
              obtain ⟨b5, d5, rfl⟩ := hg.gd.1
              obtain ⟨b6, d6, rfl⟩ := hg.gz.1
              have hge := envB_ge a.fu a.fd a.tu a.td a.ss a.has a.h.ag a.h.sg a.h.key a.h.signed a.h.has a.h.once a.dks a.dp a.dn a.sls hh0
              rw [← hqs0] at hge
              have hqs := Lib.hid hqs0
              clear hqs0
              have hg := hg.next (Only.drew wv0 []) (by simp)
              refine wp_region_held_drew (S := fun w' => Only wv0.drew w' []) (by kernel_rfl) (Only.refl _ _) (fun hHeld => ?_)
              refine' wpAnyH_take (i := 0) (v := _) (op_at rfl) (by kernel_rfl) (by kernel_rfl) (by kernel_rfl) (fun _ _ _ h => h) (Or.inl ⟨by rfl, ?hy18⟩) (by assumption) ?rest18
              case hy18 =>
                intro w' hS
                go_simp
                try with_reducible rfl
              try simp only [Act.put, List.setIfInBounds_toArray, List.set_cons_zero, List.set_cons_succ]
              refine' wpAnyH_take (i := 1) (v := _) (op_at rfl) (by kernel_rfl) (by kernel_rfl) (by kernel_rfl) (fun _ _ _ h => h) (Or.inl ⟨by rfl, ?hy19⟩) (by assumption) ?rest19
              case hy19 =>
                intro w' hS
                go_simp
                try with_reducible rfl
              try simp only [Act.put, List.setIfInBounds_toArray, List.set_cons_zero, List.set_cons_succ]
              refine' wpAnyH_take (i := 2) (v := _) (op_at rfl) (by kernel_rfl) (by kernel_rfl) (by kernel_rfl) (fun _ _ _ h => h) (Or.inl ⟨by rfl, ?hy20⟩) (by assumption) ?rest20
              case hy20 =>
                intro w' hS
                go_simp
                try with_reducible rfl
              try simp only [Act.put, List.setIfInBounds_toArray, List.set_cons_zero, List.set_cons_succ]
              refine wpAnyH_take (i := 3) (op_at rfl) (by kernel_rfl) (by kernel_rfl) (by kernel_rfl) (fun _ _ _ h => h) (yieldsIf_load_mid (by rfl) _ _ rfl Y1 0 rfl [.int .i64 a.fu, .int .i64 a.fd, .int .i64 a.tu, .int .i64 a.td, .slice b1 a.ss.length d1, .bool a.has, .slice b2 a.h.ag.length d2, .slice b3 a.h.sg.length d3, .slice b4 a.h.key.length d4, .int .u32 a.h.signed, .bool a.h.has, .int .u32 a.h.once, .slice b5 a.dks.length d5, .int .u32 a.dp, .int .u32 a.dn, .slice b6 a.sls.length d6] _ (fun w' hS => range_of ((((Only.drew wv0 []).trans hS).at hY1 (by simp)))) Try.underlying43 (by rfl) info_env2) (by assumption) ?_
              try simp only [Act.put, List.setIfInBounds_toArray, List.set_cons_zero, List.set_cons_succ]
              refine' wpAnyH_take (i := 6) (v := _) (op_at rfl) (by kernel_rfl) (by kernel_rfl) (by kernel_rfl) (fun _ _ _ h => h) (Or.inl ⟨by rfl, ?hy22⟩) (by assumption) ?rest22
              case hy22 =>
                intro w' hS
                go_simp
                try with_reducible rfl
              try simp only [Act.put, List.setIfInBounds_toArray, List.set_cons_zero, List.set_cons_succ]
              refine' wpAnyH_take (i := 7) (v := _) (op_at rfl) (by kernel_rfl) (by kernel_rfl) (by kernel_rfl) (fun _ _ _ h => h) (Or.inl ⟨by rfl, ?hy23⟩) (by assumption) ?rest23
              case hy23 =>
                intro w' hS
                have hs_ := run_str (P := Try.prog) (w := w') (S := 22) (T := 9) Try.underlying22 Try.underlying5 Try.underlying9 (hrd.new (ho1.trans ((Only.drew wv0 []).trans hS))) rfl
                go_simp
                try with_reducible rfl
              try simp only [Act.put, List.setIfInBounds_toArray, List.set_cons_zero, List.set_cons_succ]
              refine wpAnyH_ready (rs := [4]) (by kernel_rfl) (by simp) (AllReadyH.cons (op_at rfl) (fun K hK => ?_) AllReadyH.nil)
              go_simp
              refine (encode_any a.fu a.fd a.tu a.td a.h.signed a.h.once a.dp a.dn a.has a.h.has (.slice b1 a.ss.length d1) (.slice b2 a.h.ag.length d2) (.slice b3 a.h.sg.length d3) (.slice b4 a.h.key.length d4) (.slice b5 a.dks.length d5) (.slice b6 a.sls.length d6) a.ss a.h.ag a.h.sg a.h.key a.dks a.sls _ hg.gs.2.1 hg.gh.ga.2.1 hg.gh.gs.2.1 hg.gh.gk.2.1 hg.gd.2.1 hg.gz.2.1 hg.gh.us hg.gh.uo hg.udp hg.udn (by omega)).mono fun e w9 hq9 => ?_
              obtain ⟨us, a9, k9, Hus, rfl, s1, s2, s3⟩ := hq9.name
              clear hq9
              go_wp2_with fail
              refine hK.out _ _ (s3) (fun hHeld => ?_)
              clear hK K
              try simp only [Act.put, List.setIfInBounds_toArray, List.set_cons_zero, List.set_cons_succ]
              refine wpAnyH_more (S' := fun w' => Only w9 w' []) (fun w' h => Only.trans s3 h) _ _ _ _ ?_
              clear hHeld
              have hHeld : Only w9 w9 [] := Only.refl _ _
              have o9 : Only wv0.drew w9 [] := s3
              obtain rfl : us = qs := Hus.out.trans hqs.out.symm
              refine' wpAnyH_take (i := 5) (v := _) (op_at rfl) (by kernel_rfl) (by kernel_rfl) (by kernel_rfl) (fun _ _ _ h => h) (Or.inl ⟨by rfl, ?hy24⟩) (by assumption) ?rest24
              case hy24 =>
                intro w' hS
                have hs_ := run_str (P := Try.prog) (w := w') (S := 22) (T := 9) Try.underlying22 Try.underlying5 Try.underlying9 ((own_rd s1).new hS) rfl
                go_simp
                try with_reducible rfl
              try simp only [Act.put, List.setIfInBounds_toArray, List.set_cons_zero, List.set_cons_succ]
              refine' wpAnyH_take (i := 8) (v := _) (op_at rfl) (by kernel_rfl) (by kernel_rfl) (by kernel_rfl) (fun _ _ _ h => h) (Or.inl ⟨by rfl, ?hy25⟩) (by assumption) ?rest25
              case hy25 =>
                intro w' hS
                have hxx : (!((strOfNums us).toList == (strOfNums us).toList)) = false := by simp
                go_simp
                try with_reducible rfl
              try simp only [Act.put, List.setIfInBounds_toArray, List.set_cons_zero, List.set_cons_succ]
              refine' wpAnyH_take (i := 9) (v := _) (op_at rfl) (by kernel_rfl) (by kernel_rfl) (by kernel_rfl) (fun _ _ _ h => h) (Or.inl ⟨by rfl, ?hy26⟩) (by assumption) ?rest26
              case hy26 =>
                intro w' hS
                go_simp
                try with_reducible rfl
              try simp only [Act.put, List.setIfInBounds_toArray, List.set_cons_zero, List.set_cons_succ]
              refine' wpAnyH_take (i := 10) (v := _) (op_at rfl) (by kernel_rfl) (by kernel_rfl) (by kernel_rfl) (fun _ _ _ h => h) (Or.inl ⟨by rfl, ?hy27⟩) (by assumption) ?rest27
              case hy27 =>
                intro w' hS
                go_simp
                try with_reducible rfl
              try simp only [Act.put, List.setIfInBounds_toArray, List.set_cons_zero, List.set_cons_succ]
              refine' wpAnyH_take (i := 11) (v := _) (op_at rfl) (by kernel_rfl) (by kernel_rfl) (by kernel_rfl) (fun _ _ _ h => h) (Or.inl ⟨by rfl, ?hy28⟩) (by assumption) ?rest28
              case hy28 =>
                intro w' hS
                go_simp
                try with_reducible rfl
              try simp only [Act.put, List.setIfInBounds_toArray, List.set_cons_zero, List.set_cons_succ]
              refine' wpAnyH_take (i := 12) (v := _) (op_at rfl) (by kernel_rfl) (by kernel_rfl) (by kernel_rfl) (fun _ _ _ h => h) (Or.inl ⟨by rfl, ?hy29⟩) (by assumption) ?rest29
              case hy29 =>
                intro w' hS
                go_simp
                try with_reducible rfl
              try simp only [Act.put, List.setIfInBounds_toArray, List.set_cons_zero, List.set_cons_succ]
              refine' wpAnyH_take (i := 13) (v := _) (op_at rfl) (by kernel_rfl) (by kernel_rfl) (by kernel_rfl) (fun _ _ _ h => h) (Or.inl ⟨by rfl, ?hy30⟩) (by assumption) ?rest30
              case hy30 =>
                intro w' hS
                go_simp
                try with_reducible rfl
              try simp only [Act.put, List.setIfInBounds_toArray, List.set_cons_zero, List.set_cons_succ]
              refine wpAnyH_take (i := 14) (v := undef) (op_at rfl) (by kernel_rfl) (by kernel_rfl) (by kernel_rfl) (fun _ _ _ h => h) (Or.inr ⟨by rfl, rfl⟩) (by assumption) ?_
              try simp only [Act.put, List.setIfInBounds_toArray, List.set_cons_zero, List.set_cons_succ]
              refine wpAnyH_take (i := 15) (v := undef) (op_at rfl) (by kernel_rfl) (by kernel_rfl) (by kernel_rfl) (fun _ _ _ h => h) (Or.inr ⟨by rfl, rfl⟩) (by assumption) ?_
              try simp only [Act.put, List.setIfInBounds_toArray, List.set_cons_zero, List.set_cons_succ]
              refine wpAnyH_take (i := 16) (v := undef) (op_at rfl) (by kernel_rfl) (by kernel_rfl) (by kernel_rfl) (fun _ _ _ h => h) (Or.inr ⟨by rfl, rfl⟩) (by assumption) ?_
              try simp only [Act.put, List.setIfInBounds_toArray, List.set_cons_zero, List.set_cons_succ]
              refine wpAnyH_take (i := 17) (v := undef) (op_at rfl) (by kernel_rfl) (by kernel_rfl) (by kernel_rfl) (fun _ _ _ h => h) (Or.inr ⟨by rfl, rfl⟩) (by assumption) ?_
              try simp only [Act.put, List.setIfInBounds_toArray, List.set_cons_zero, List.set_cons_succ]
              refine wpAnyH_take (i := 18) (v := undef) (op_at rfl) (by kernel_rfl) (by kernel_rfl) (by kernel_rfl) (fun _ _ _ h => h) (Or.inr ⟨by rfl, rfl⟩) (by assumption) ?_
              try simp only [Act.put, List.setIfInBounds_toArray, List.set_cons_zero, List.set_cons_succ]
              refine wpAnyH_take (i := 19) (v := undef) (op_at rfl) (by kernel_rfl) (by kernel_rfl) (by kernel_rfl) (fun _ _ _ h => h) (Or.inr ⟨by rfl, rfl⟩) (by assumption) ?_
              try simp only [Act.put, List.setIfInBounds_toArray, List.set_cons_zero, List.set_cons_succ]
              refine wpAnyH_take (i := 20) (v := undef) (op_at rfl) (by kernel_rfl) (by kernel_rfl) (by kernel_rfl) (fun _ _ _ h => h) (Or.inr ⟨by rfl, rfl⟩) (by assumption) ?_
              try simp only [Act.put, List.setIfInBounds_toArray, List.set_cons_zero, List.set_cons_succ]
              refine wpAnyH_take (i := 21) (v := undef) (op_at rfl) (by kernel_rfl) (by kernel_rfl) (by kernel_rfl) (fun _ _ _ h => h) (Or.inr ⟨by rfl, rfl⟩) (by assumption) ?_
              try simp only [Act.put, List.setIfInBounds_toArray, List.set_cons_zero, List.set_cons_succ]
              refine' wpAnyH_take (i := 22) (v := _) (op_at rfl) (by kernel_rfl) (by kernel_rfl) (by kernel_rfl) (fun _ _ _ h => h) (Or.inl ⟨by rfl, ?hy39⟩) (by assumption) ?rest39
              case hy39 =>
                intro w' hS
                go_simp
                try with_reducible rfl
              try simp only [Act.put, List.setIfInBounds_toArray, List.set_cons_zero, List.set_cons_succ]
              refine' wpAnyH_take (i := 23) (v := _) (op_at rfl) (by kernel_rfl) (by kernel_rfl) (by kernel_rfl) (fun _ _ _ h => h) (Or.inl ⟨by rfl, ?hy40⟩) (by assumption) ?rest40
              case hy40 =>
                intro w' hS
                go_simp
                try with_reducible rfl
              try simp only [Act.put, List.setIfInBounds_toArray, List.set_cons_zero, List.set_cons_succ]
              refine wpAnyH_done (by kernel_rfl) ?_ _
              go_wp2_with fail
              go_meet
              exact ⟨rfl, rfl, ho1.trans ((Only.drew wv0 []).trans (o9.trans hHeld))⟩
            · skip
              refine wp_region_held_drew (S := fun w' => Only wv0.drew w' []) (by kernel_rfl) (Only.refl _ _) (fun hHeld => ?_)
              refine' wpAnyH_take (i := 0) (v := _) (op_at rfl) (by kernel_rfl) (by kernel_rfl) (by kernel_rfl) (fun _ _ _ h => h) (Or.inl ⟨by rfl, ?hy41⟩) (by assumption) ?rest41
              case hy41 =>
                intro w' hS
                go_simp
                try with_reducible rfl
              try simp only [Act.put, List.setIfInBounds_toArray, List.set_cons_zero, List.set_cons_succ]
              refine' wpAnyH_take (i := 1) (v := _) (op_at rfl) (by kernel_rfl) (by kernel_rfl) (by kernel_rfl) (fun _ _ _ h => h) (Or.inl ⟨by rfl, ?hy42⟩) (by assumption) ?rest42
              case hy42 =>
                intro w' hS
                go_simp
                try with_reducible rfl
              try simp only [Act.put, List.setIfInBounds_toArray, List.set_cons_zero, List.set_cons_succ]
              refine' wpAnyH_take (i := 2) (v := _) (op_at rfl) (by kernel_rfl) (by kernel_rfl) (by kernel_rfl) (fun _ _ _ h => h) (Or.inl ⟨by rfl, ?hy43⟩) (by assumption) ?rest43
              case hy43 =>
                intro w' hS
                go_simp
                try with_reducible rfl
              try simp only [Act.put, List.setIfInBounds_toArray, List.set_cons_zero, List.set_cons_succ]
              refine wpAnyH_take (i := 3) (v := undef) (op_at rfl) (by kernel_rfl) (by kernel_rfl) (by kernel_rfl) (fun _ _ _ h => h) (Or.inr ⟨by rfl, rfl⟩) (by assumption) ?_
              try simp only [Act.put, List.setIfInBounds_toArray, List.set_cons_zero, List.set_cons_succ]
              refine wpAnyH_take (i := 4) (v := undef) (op_at rfl) (by kernel_rfl) (by kernel_rfl) (by kernel_rfl) (fun _ _ _ h => h) (Or.inr ⟨by rfl, rfl⟩) (by assumption) ?_
              try simp only [Act.put, List.setIfInBounds_toArray, List.set_cons_zero, List.set_cons_succ]
              refine wpAnyH_take (i := 5) (v := undef) (op_at rfl) (by kernel_rfl) (by kernel_rfl) (by kernel_rfl) (fun _ _ _ h => h) (Or.inr ⟨by rfl, rfl⟩) (by assumption) ?_
              try simp only [Act.put, List.setIfInBounds_toArray, List.set_cons_zero, List.set_cons_succ]
              refine wpAnyH_take (i := 6) (v := undef) (op_at rfl) (by kernel_rfl) (by kernel_rfl) (by kernel_rfl) (fun _ _ _ h => h) (Or.inr ⟨by rfl, rfl⟩) (by assumption) ?_
              try simp only [Act.put, List.setIfInBounds_toArray, List.set_cons_zero, List.set_cons_succ]
              refine wpAnyH_take (i := 7) (v := undef) (op_at rfl) (by kernel_rfl) (by kernel_rfl) (by kernel_rfl) (fun _ _ _ h => h) (Or.inr ⟨by rfl, rfl⟩) (by assumption) ?_
              try simp only [Act.put, List.setIfInBounds_toArray, List.set_cons_zero, List.set_cons_succ]
              refine wpAnyH_take (i := 8) (v := undef) (op_at rfl) (by kernel_rfl) (by kernel_rfl) (by kernel_rfl) (fun _ _ _ h => h) (Or.inr ⟨by rfl, rfl⟩) (by assumption) ?_
              try simp only [Act.put, List.setIfInBounds_toArray, List.set_cons_zero, List.set_cons_succ]
              refine' wpAnyH_take (i := 9) (v := _) (op_at rfl) (by kernel_rfl) (by kernel_rfl) (by kernel_rfl) (fun _ _ _ h => h) (Or.inl ⟨by rfl, ?hy50⟩) (by assumption) ?rest50
              case hy50 =>
                intro w' hS
                go_simp
                try with_reducible rfl
              try simp only [Act.put, List.setIfInBounds_toArray, List.set_cons_zero, List.set_cons_succ]
              refine' wpAnyH_take (i := 10) (v := _) (op_at rfl) (by kernel_rfl) (by kernel_rfl) (by kernel_rfl) (fun _ _ _ h => h) (Or.inl ⟨by rfl, ?hy51⟩) (by assumption) ?rest51
              case hy51 =>
                intro w' hS
                go_simp
                try with_reducible rfl
              try simp only [Act.put, List.setIfInBounds_toArray, List.set_cons_zero, List.set_cons_succ]
              refine' wpAnyH_take (i := 11) (v := _) (op_at rfl) (by kernel_rfl) (by kernel_rfl) (by kernel_rfl) (fun _ _ _ h => h) (Or.inl ⟨by rfl, ?hy52⟩) (by assumption) ?rest52
              case hy52 =>
                intro w' hS
                go_simp
                try with_reducible rfl
              try simp only [Act.put, List.setIfInBounds_toArray, List.set_cons_zero, List.set_cons_succ]
              refine' wpAnyH_take (i := 12) (v := _) (op_at rfl) (by kernel_rfl) (by kernel_rfl) (by kernel_rfl) (fun _ _ _ h => h) (Or.inl ⟨by rfl, ?hy53⟩) (by assumption) ?rest53
              case hy53 =>
                intro w' hS
                go_simp
                try with_reducible rfl
              try simp only [Act.put, List.setIfInBounds_toArray, List.set_cons_zero, List.set_cons_succ]
              refine' wpAnyH_take (i := 13) (v := _) (op_at rfl) (by kernel_rfl) (by kernel_rfl) (by kernel_rfl) (fun _ _ _ h => h) (Or.inl ⟨by rfl, ?hy54⟩) (by assumption) ?rest54
              case hy54 =>
                intro w' hS
                go_simp
                try with_reducible rfl
              try simp only [Act.put, List.setIfInBounds_toArray, List.set_cons_zero, List.set_cons_succ]
              refine' wpAnyH_take (i := 14) (v := _) (op_at rfl) (by kernel_rfl) (by kernel_rfl) (by kernel_rfl) (fun _ _ _ h => h) (Or.inl ⟨by rfl, ?hy55⟩) (by assumption) ?rest55
              case hy55 =>
                intro w' hS
                go_simp
                try with_reducible rfl
              try simp only [Act.put, List.setIfInBounds_toArray, List.set_cons_zero, List.set_cons_succ]
              refine' wpAnyH_take (i := 15) (v := _) (op_at rfl) (by kernel_rfl) (by kernel_rfl) (by kernel_rfl) (fun _ _ _ h => h) (Or.inl ⟨by rfl, ?hy56⟩) (by assumption) ?rest56
              case hy56 =>
                intro w' hS
                go_simp
                try with_reducible rfl
              try simp only [Act.put, List.setIfInBounds_toArray, List.set_cons_zero, List.set_cons_succ]
              refine' wpAnyH_take (i := 16) (v := _) (op_at rfl) (by kernel_rfl) (by kernel_rfl) (by kernel_rfl) (fun _ _ _ h => h) (Or.inl ⟨by rfl, ?hy57⟩) (by assumption) ?rest57
              case hy57 =>
                intro w' hS
                go_simp
                try with_reducible rfl
              try simp only [Act.put, List.setIfInBounds_toArray, List.set_cons_zero, List.set_cons_succ]
              refine' wpAnyH_take (i := 17) (v := _) (op_at rfl) (by kernel_rfl) (by kernel_rfl) (by kernel_rfl) (fun _ _ _ h => h) (Or.inl ⟨by rfl, ?hy58⟩) (by assumption) ?rest58
              case hy58 =>
                intro w' hS
                go_simp
                try with_reducible rfl
              try simp only [Act.put, List.setIfInBounds_toArray, List.set_cons_zero, List.set_cons_succ]
              refine' wpAnyH_take (i := 18) (v := _) (op_at rfl) (by kernel_rfl) (by kernel_rfl) (by kernel_rfl) (fun _ _ _ h => h) (Or.inl ⟨by rfl, ?hy59⟩) (by assumption) ?rest59
              case hy59 =>
                intro w' hS
                have cz := cell_in (((Only.drew wv0 []).trans hS).at hY1 (by simp)) 15
                go_simp
                try with_reducible rfl
              try simp only [Act.put, List.setIfInBounds_toArray, List.set_cons_zero, List.set_cons_succ]
              refine' wpAnyH_take (i := 19) (v := _) (op_at rfl) (by kernel_rfl) (by kernel_rfl) (by kernel_rfl) (fun _ _ _ h => h) (Or.inl ⟨by rfl, ?hy60⟩) (by assumption) ?rest60
              case hy60 =>
                intro w' hS
                go_simp
                try with_reducible rfl
              try simp only [Act.put, List.setIfInBounds_toArray, List.set_cons_zero, List.set_cons_succ]
              refine' wpAnyH_take (i := 20) (v := _) (op_at rfl) (by kernel_rfl) (by kernel_rfl) (by kernel_rfl) (fun _ _ _ h => h) (Or.inl ⟨by rfl, ?hy61⟩) (by assumption) ?rest61
              case hy61 =>
                intro w' hS
                go_simp
                try with_reducible rfl
              try simp only [Act.put, List.setIfInBounds_toArray, List.set_cons_zero, List.set_cons_succ]
              refine' wpAnyH_take (i := 21) (v := _) (op_at rfl) (by kernel_rfl) (by kernel_rfl) (by kernel_rfl) (fun _ _ _ h => h) (Or.inl ⟨by rfl, ?hy62⟩) (by assumption) ?rest62
              case hy62 =>
                intro w' hS
                go_simp
                try with_reducible rfl
              try simp only [Act.put, List.setIfInBounds_toArray, List.set_cons_zero, List.set_cons_succ]
              refine' wpAnyH_take (i := 22) (v := _) (op_at rfl) (by kernel_rfl) (by kernel_rfl) (by kernel_rfl) (fun _ _ _ h => h) (Or.inl ⟨by rfl, ?hy63⟩) (by assumption) ?rest63
              case hy63 =>
                intro w' hS
                go_simp
                try with_reducible rfl
              try simp only [Act.put, List.setIfInBounds_toArray, List.set_cons_zero, List.set_cons_succ]
              refine' wpAnyH_take (i := 23) (v := _) (op_at rfl) (by kernel_rfl) (by kernel_rfl) (by kernel_rfl) (fun _ _ _ h => h) (Or.inl ⟨by rfl, ?hy64⟩) (by assumption) ?rest64
              case hy64 =>
                intro w' hS
                go_simp
                try with_reducible rfl
              try simp only [Act.put, List.setIfInBounds_toArray, List.set_cons_zero, List.set_cons_succ]
              refine wpAnyH_done (by kernel_rfl) ?_ _
              go_wp2_with fail
              go_meet
              exact ⟨rfl, rfl, ho1.trans ((Only.drew wv0 []).trans hHeld)⟩
        case rest =>
          obtain ⟨rfl, rfl, ho⟩ := hcut
          clear hY1 ho1 hok
          go_upto_region 12 with fail
          go_cut [17, 18, 67] from 67 to 150 (fun ua ue u67 wx => ∃ (Y1 : Nat) (en : Int) (cs : List Value), ua = .pointer (some ⟨Y1, 0, none⟩) ∧ ue = .int .i64 en ∧ u67 = .int .i64 i ∧ wx.heap[Y1]? = some (.cells cs.toArray 76 (0, 0)) ∧ Only w6 wx [] ∧ BdOK w6 wx qs en cs)
          case first =>
            as_aux_lemma =>
              go_wp2_with fail
              refine (decbundle_any _ qs _ (hrd.new ho) hbq (by omega)).mono ?_
              rintro e w7 ⟨a, s, hd, ho7, hcase⟩
              rcases hcase with ⟨he, va, vs, vk, vq, vo, rfl, hg⟩ | ⟨he, rfl⟩
              · obtain ⟨b1, d1, rfl⟩ := hg.ga.1
                obtain ⟨b2, d2, rfl⟩ := hg.gs.1
                obtain ⟨b3, d3, rfl⟩ := hg.gk.1
                obtain ⟨b4, d4, rfl⟩ := hg.gq.1
                obtain ⟨b5, d5, rfl⟩ := hg.go.1
                simp only [bdV]
                go_wp2_with fail
                go_meet
                exact ⟨w7.heap.size, 0, _, rfl, rfl, rfl, heap_alloc_new w7 _, ho.trans (ho7.trans (Only.alloc _ _ _)), .inl ⟨rfl, a, _, _, _, _, _, (hg.mono ho.size).next (Only.alloc w7 _ []) (by simp), pBd_inv hbq hd he, pBd_h0 hd, rfl⟩⟩
              · simp only [bd0]
                go_wp2_with fail
                go_meet
                exact ⟨w7.heap.size, 4, _, rfl, rfl, rfl, heap_alloc_new w7 _, ho.trans (ho7.trans (Only.alloc _ _ _)), .inr ⟨rfl, rfl⟩⟩
          case rest =>
            obtain ⟨Y1, en, cs, rfl, rfl, rfl, hY1, ho1, hok⟩ := hcut
            clear ho
            obtain ⟨wv0, hwv⟩ : ∃ z, z = wc := ⟨_, rfl⟩
            subst hwv
            go_upto_region 13 with fail
            go_cut [67, 122] from 67 to 150 (fun u67 ub wx => u67 = .int .i64 i ∧ ub = .bool false ∧ Only w6 wx [])
            case first =>
              as_aux_lemma =>
                rcases hok with ⟨rfl, a, va, vs, vk, vq, vo, hg, hqs0, hh0, rfl⟩ | ⟨rfl, rfl⟩
                · obtain ⟨b1, d1, rfl⟩ := hg.ga.1
                  obtain ⟨b2, d2, rfl⟩ := hg.gs.1
                  obtain ⟨b3, d3, rfl⟩ := hg.gk.1
                  obtain ⟨b4, d4, rfl⟩ := hg.gq.1
                  obtain ⟨b5, d5, rfl⟩ := hg.go.1
                  have hge := bundleB_ge a.u a.d a.ag a.sg a.signed a.key a.sig a.has a.once a.oncek hh0
                  rw [← hqs0] at hge
                  have hqs := Lib.hid hqs0
                  clear hqs0
                  have hg := hg.next (Only.drew wv0 []) (by simp)
                  refine wp_region_held_drew (S := fun w' => Only wv0.drew w' []) (by kernel_rfl) (Only.refl _ _) (fun hHeld => ?_)
                  refine' wpAnyH_take (i := 0) (v := _) (op_at rfl) (by kernel_rfl) (by kernel_rfl) (by kernel_rfl) (fun _ _ _ h => h) (Or.inl ⟨by rfl, ?hy65⟩) (by assumption) ?rest65
                  case hy65 =>
                    intro w' hS
                    go_simp
                    try with_reducible rfl
                  try simp only [Act.put, List.setIfInBounds_toArray, List.set_cons_zero, List.set_cons_succ]
                  refine' wpAnyH_take (i := 1) (v := _) (op_at rfl) (by kernel_rfl) (by kernel_rfl) (by kernel_rfl) (fun _ _ _ h => h) (Or.inl ⟨by rfl, ?hy66⟩) (by assumption) ?rest66
                  case hy66 =>
                    intro w' hS
                    go_simp
                    try with_reducible rfl
                  try simp only [Act.put, List.setIfInBounds_toArray, List.set_cons_zero, List.set_cons_succ]
                  refine' wpAnyH_take (i := 2) (v := _) (op_at rfl) (by kernel_rfl) (by kernel_rfl) (by kernel_rfl) (fun _ _ _ h => h) (Or.inl ⟨by rfl, ?hy67⟩) (by assumption) ?rest67
                  case hy67 =>
                    intro w' hS
                    go_simp
                    try with_reducible rfl
                  try simp only [Act.put, List.setIfInBounds_toArray, List.set_cons_zero, List.set_cons_succ]
                  refine wpAnyH_take (i := 3) (op_at rfl) (by kernel_rfl) (by kernel_rfl) (by kernel_rfl) (fun _ _ _ h => h) (yieldsIf_load_mid (by rfl) _ _ rfl Y1 0 rfl [.int .i64 a.u, .int .i64 a.d, .slice b1 a.ag.length d1, .slice b2 a.sg.length d2, .int .u32 a.signed, .slice b3 a.key.length d3, .slice b4 a.sig.length d4, .bool a.has, .int .u32 a.once, .slice b5 a.oncek.length d5] _ (fun w' hS => range_of ((((Only.drew wv0 []).trans hS).at hY1 (by simp)))) Try.underlying76 (by rfl) info_bd) (by assumption) ?_
                  try simp only [Act.put, List.setIfInBounds_toArray, List.set_cons_zero, List.set_cons_succ]
                  refine' wpAnyH_take (i := 6) (v := _) (op_at rfl) (by kernel_rfl) (by kernel_rfl) (by kernel_rfl) (fun _ _ _ h => h) (Or.inl ⟨by rfl, ?hy69⟩) (by assumption) ?rest69
                  case hy69 =>
                    intro w' hS
                    go_simp
                    try with_reducible rfl
                  try simp only [Act.put, List.setIfInBounds_toArray, List.set_cons_zero, List.set_cons_succ]
                  refine' wpAnyH_take (i := 7) (v := _) (op_at rfl) (by kernel_rfl) (by kernel_rfl) (by kernel_rfl) (fun _ _ _ h => h) (Or.inl ⟨by rfl, ?hy70⟩) (by assumption) ?rest70
                  case hy70 =>
                    intro w' hS
                    have hs_ := run_str (P := Try.prog) (w := w') (S := 22) (T := 9) Try.underlying22 Try.underlying5 Try.underlying9 (hrd.new (ho1.trans ((Only.drew wv0 []).trans hS))) rfl
                    go_simp
                    try with_reducible rfl
                  try simp only [Act.put, List.setIfInBounds_toArray, List.set_cons_zero, List.set_cons_succ]
                  refine wpAnyH_ready (rs := [4]) (by kernel_rfl) (by simp) (AllReadyH.cons (op_at rfl) (fun K hK => ?_) AllReadyH.nil)
                  go_simp
                  refine (encbundle_any a.u a.d a.signed a.once a.has (.slice b1 a.ag.length d1) (.slice b2 a.sg.length d2) (.slice b3 a.key.length d3) (.slice b4 a.sig.length d4) (.slice b5 a.oncek.length d5) a.ag a.sg a.key a.sig a.oncek _ hg.ga.2.1 hg.gs.2.1 hg.gk.2.1 hg.gq.2.1 hg.go.2.1 hg.us hg.uo (by omega)).mono fun e w9 hq9 => ?_
                  obtain ⟨us, a9, k9, Hus, rfl, s1, s2, s3⟩ := hq9.name
                  clear hq9
                  go_wp2_with fail
                  refine hK.out _ _ (s3) (fun hHeld => ?_)
                  clear hK K
                  try simp only [Act.put, List.setIfInBounds_toArray, List.set_cons_zero, List.set_cons_succ]
                  refine wpAnyH_more (S' := fun w' => Only w9 w' []) (fun w' h => Only.trans s3 h) _ _ _ _ ?_
                  clear hHeld
                  have hHeld : Only w9 w9 [] := Only.refl _ _
                  have o9 : Only wv0.drew w9 [] := s3
                  obtain rfl : us = qs := Hus.out.trans hqs.out.symm
                  refine' wpAnyH_take (i := 5) (v := _) (op_at rfl) (by kernel_rfl) (by kernel_rfl) (by kernel_rfl) (fun _ _ _ h => h) (Or.inl ⟨by rfl, ?hy71⟩) (by assumption) ?rest71
                  case hy71 =>
                    intro w' hS
                    have hs_ := run_str (P := Try.prog) (w := w') (S := 22) (T := 9) Try.underlying22 Try.underlying5 Try.underlying9 ((own_rd s1).new hS) rfl
                    go_simp
                    try with_reducible rfl
                  try simp only [Act.put, List.setIfInBounds_toArray, List.set_cons_zero, List.set_cons_succ]
                  refine' wpAnyH_take (i := 8) (v := _) (op_at rfl) (by kernel_rfl) (by kernel_rfl) (by kernel_rfl) (fun _ _ _ h => h) (Or.inl ⟨by rfl, ?hy72⟩) (by assumption) ?rest72
                  case hy72 =>
                    intro w' hS
                    have hxx : (!((strOfNums us).toList == (strOfNums us).toList)) = false := by simp
                    go_simp
                    try with_reducible rfl
                  try simp only [Act.put, List.setIfInBounds_toArray, List.set_cons_zero, List.set_cons_succ]
                  refine' wpAnyH_take (i := 9) (v := _) (op_at rfl) (by kernel_rfl) (by kernel_rfl) (by kernel_rfl) (fun _ _ _ h => h) (Or.inl ⟨by rfl, ?hy73⟩) (by assumption) ?rest73
                  case hy73 =>
                    intro w' hS
                    go_simp
                    try with_reducible rfl
                  try simp only [Act.put, List.setIfInBounds_toArray, List.set_cons_zero, List.set_cons_succ]
                  refine' wpAnyH_take (i := 10) (v := _) (op_at rfl) (by kernel_rfl) (by kernel_rfl) (by kernel_rfl) (fun _ _ _ h => h) (Or.inl ⟨by rfl, ?hy74⟩) (by assumption) ?rest74
                  case hy74 =>
                    intro w' hS
                    go_simp
                    try with_reducible rfl
                  try simp only [Act.put, List.setIfInBounds_toArray, List.set_cons_zero, List.set_cons_succ]
                  refine' wpAnyH_take (i := 11) (v := _) (op_at rfl) (by kernel_rfl) (by kernel_rfl) (by kernel_rfl) (fun _ _ _ h => h) (Or.inl ⟨by rfl, ?hy75⟩) (by assumption) ?rest75
                  case hy75 =>
                    intro w' hS
                    go_simp
                    try with_reducible rfl
                  try simp only [Act.put, List.setIfInBounds_toArray, List.set_cons_zero, List.set_cons_succ]
                  refine' wpAnyH_take (i := 12) (v := _) (op_at rfl) (by kernel_rfl) (by kernel_rfl) (by kernel_rfl) (fun _ _ _ h => h) (Or.inl ⟨by rfl, ?hy76⟩) (by assumption) ?rest76
                  case hy76 =>
                    intro w' hS
                    go_simp
                    try with_reducible rfl
                  try simp only [Act.put, List.setIfInBounds_toArray, List.set_cons_zero, List.set_cons_succ]
                  refine' wpAnyH_take (i := 13) (v := _) (op_at rfl) (by kernel_rfl) (by kernel_rfl) (by kernel_rfl) (fun _ _ _ h => h) (Or.inl ⟨by rfl, ?hy77⟩) (by assumption) ?rest77
                  case hy77 =>
                    intro w' hS
                    go_simp
                    try with_reducible rfl
                  try simp only [Act.put, List.setIfInBounds_toArray, List.set_cons_zero, List.set_cons_succ]
                  refine wpAnyH_take (i := 14) (v := undef) (op_at rfl) (by kernel_rfl) (by kernel_rfl) (by kernel_rfl) (fun _ _ _ h => h) (Or.inr ⟨by rfl, rfl⟩) (by assumption) ?_
                  try simp only [Act.put, List.setIfInBounds_toArray, List.set_cons_zero, List.set_cons_succ]
                  refine wpAnyH_take (i := 15) (v := undef) (op_at rfl) (by kernel_rfl) (by kernel_rfl) (by kernel_rfl) (fun _ _ _ h => h) (Or.inr ⟨by rfl, rfl⟩) (by assumption) ?_
                  try simp only [Act.put, List.setIfInBounds_toArray, List.set_cons_zero, List.set_cons_succ]
                  refine' wpAnyH_take (i := 16) (v := _) (op_at rfl) (by kernel_rfl) (by kernel_rfl) (by kernel_rfl) (fun _ _ _ h => h) (Or.inl ⟨by rfl, ?hy80⟩) (by assumption) ?rest80
                  case hy80 =>
                    intro w' hS
                    go_simp
                    try with_reducible rfl
                  try simp only [Act.put, List.setIfInBounds_toArray, List.set_cons_zero, List.set_cons_succ]
                  refine' wpAnyH_take (i := 17) (v := _) (op_at rfl) (by kernel_rfl) (by kernel_rfl) (by kernel_rfl) (fun _ _ _ h => h) (Or.inl ⟨by rfl, ?hy81⟩) (by assumption) ?rest81
                  case hy81 =>
                    intro w' hS
                    go_simp
                    try with_reducible rfl
                  try simp only [Act.put, List.setIfInBounds_toArray, List.set_cons_zero, List.set_cons_succ]
                  refine wpAnyH_done (by kernel_rfl) ?_ _
                  go_wp2_with fail
                  go_meet
                  exact ⟨rfl, rfl, ho1.trans ((Only.drew wv0 []).trans (o9.trans hHeld))⟩
                · skip
                  refine wp_region_held_drew (S := fun w' => Only wv0.drew w' []) (by kernel_rfl) (Only.refl _ _) (fun hHeld => ?_)
                  refine' wpAnyH_take (i := 0) (v := _) (op_at rfl) (by kernel_rfl) (by kernel_rfl) (by kernel_rfl) (fun _ _ _ h => h) (Or.inl ⟨by rfl, ?hy82⟩) (by assumption) ?rest82
                  case hy82 =>
                    intro w' hS
                    go_simp
                    try with_reducible rfl
                  try simp only [Act.put, List.setIfInBounds_toArray, List.set_cons_zero, List.set_cons_succ]
                  refine' wpAnyH_take (i := 1) (v := _) (op_at rfl) (by kernel_rfl) (by kernel_rfl) (by kernel_rfl) (fun _ _ _ h => h) (Or.inl ⟨by rfl, ?hy83⟩) (by assumption) ?rest83
                  case hy83 =>
                    intro w' hS
                    go_simp
                    try with_reducible rfl
                  try simp only [Act.put, List.setIfInBounds_toArray, List.set_cons_zero, List.set_cons_succ]
                  refine' wpAnyH_take (i := 2) (v := _) (op_at rfl) (by kernel_rfl) (by kernel_rfl) (by kernel_rfl) (fun _ _ _ h => h) (Or.inl ⟨by rfl, ?hy84⟩) (by assumption) ?rest84
                  case hy84 =>
                    intro w' hS
                    go_simp
                    try with_reducible rfl
                  try simp only [Act.put, List.setIfInBounds_toArray, List.set_cons_zero, List.set_cons_succ]
                  refine wpAnyH_take (i := 3) (v := undef) (op_at rfl) (by kernel_rfl) (by kernel_rfl) (by kernel_rfl) (fun _ _ _ h => h) (Or.inr ⟨by rfl, rfl⟩) (by assumption) ?_
                  try simp only [Act.put, List.setIfInBounds_toArray, List.set_cons_zero, List.set_cons_succ]
                  refine wpAnyH_take (i := 4) (v := undef) (op_at rfl) (by kernel_rfl) (by kernel_rfl) (by kernel_rfl) (fun _ _ _ h => h) (Or.inr ⟨by rfl, rfl⟩) (by assumption) ?_
                  try simp only [Act.put, List.setIfInBounds_toArray, List.set_cons_zero, List.set_cons_succ]
                  refine wpAnyH_take (i := 5) (v := undef) (op_at rfl) (by kernel_rfl) (by kernel_rfl) (by kernel_rfl) (fun _ _ _ h => h) (Or.inr ⟨by rfl, rfl⟩) (by assumption) ?_
                  try simp only [Act.put, List.setIfInBounds_toArray, List.set_cons_zero, List.set_cons_succ]
                  refine wpAnyH_take (i := 6) (v := undef) (op_at rfl) (by kernel_rfl) (by kernel_rfl) (by kernel_rfl) (fun _ _ _ h => h) (Or.inr ⟨by rfl, rfl⟩) (by assumption) ?_
                  try simp only [Act.put, List.setIfInBounds_toArray, List.set_cons_zero, List.set_cons_succ]
                  refine wpAnyH_take (i := 7) (v := undef) (op_at rfl) (by kernel_rfl) (by kernel_rfl) (by kernel_rfl) (fun _ _ _ h => h) (Or.inr ⟨by rfl, rfl⟩) (by assumption) ?_
                  try simp only [Act.put, List.setIfInBounds_toArray, List.set_cons_zero, List.set_cons_succ]
                  refine wpAnyH_take (i := 8) (v := undef) (op_at rfl) (by kernel_rfl) (by kernel_rfl) (by kernel_rfl) (fun _ _ _ h => h) (Or.inr ⟨by rfl, rfl⟩) (by assumption) ?_
                  try simp only [Act.put, List.setIfInBounds_toArray, List.set_cons_zero, List.set_cons_succ]
                  refine' wpAnyH_take (i := 9) (v := _) (op_at rfl) (by kernel_rfl) (by kernel_rfl) (by kernel_rfl) (fun _ _ _ h => h) (Or.inl ⟨by rfl, ?hy91⟩) (by assumption) ?rest91
                  case hy91 =>
                    intro w' hS
                    go_simp
                    try with_reducible rfl
                  try simp only [Act.put, List.setIfInBounds_toArray, List.set_cons_zero, List.set_cons_succ]
                  refine' wpAnyH_take (i := 10) (v := _) (op_at rfl) (by kernel_rfl) (by kernel_rfl) (by kernel_rfl) (fun _ _ _ h => h) (Or.inl ⟨by rfl, ?hy92⟩) (by assumption) ?rest92
                  case hy92 =>
                    intro w' hS
                    go_simp
                    try with_reducible rfl
                  try simp only [Act.put, List.setIfInBounds_toArray, List.set_cons_zero, List.set_cons_succ]
                  refine' wpAnyH_take (i := 11) (v := _) (op_at rfl) (by kernel_rfl) (by kernel_rfl) (by kernel_rfl) (fun _ _ _ h => h) (Or.inl ⟨by rfl, ?hy93⟩) (by assumption) ?rest93
                  case hy93 =>
                    intro w' hS
                    go_simp
                    try with_reducible rfl
                  try simp only [Act.put, List.setIfInBounds_toArray, List.set_cons_zero, List.set_cons_succ]
                  refine' wpAnyH_take (i := 12) (v := _) (op_at rfl) (by kernel_rfl) (by kernel_rfl) (by kernel_rfl) (fun _ _ _ h => h) (Or.inl ⟨by rfl, ?hy94⟩) (by assumption) ?rest94
                  case hy94 =>
                    intro w' hS
                    go_simp
                    try with_reducible rfl
                  try simp only [Act.put, List.setIfInBounds_toArray, List.set_cons_zero, List.set_cons_succ]
                  refine' wpAnyH_take (i := 13) (v := _) (op_at rfl) (by kernel_rfl) (by kernel_rfl) (by kernel_rfl) (fun _ _ _ h => h) (Or.inl ⟨by rfl, ?hy95⟩) (by assumption) ?rest95
                  case hy95 =>
                    intro w' hS
                    go_simp
                    try with_reducible rfl
                  try simp only [Act.put, List.setIfInBounds_toArray, List.set_cons_zero, List.set_cons_succ]
                  refine' wpAnyH_take (i := 14) (v := _) (op_at rfl) (by kernel_rfl) (by kernel_rfl) (by kernel_rfl) (fun _ _ _ h => h) (Or.inl ⟨by rfl, ?hy96⟩) (by assumption) ?rest96
                  case hy96 =>
                    intro w' hS
                    go_simp
                    try with_reducible rfl
                  try simp only [Act.put, List.setIfInBounds_toArray, List.set_cons_zero, List.set_cons_succ]
                  refine' wpAnyH_take (i := 15) (v := _) (op_at rfl) (by kernel_rfl) (by kernel_rfl) (by kernel_rfl) (fun _ _ _ h => h) (Or.inl ⟨by rfl, ?hy97⟩) (by assumption) ?rest97
                  case hy97 =>
                    intro w' hS
                    go_simp
                    try with_reducible rfl
                  try simp only [Act.put, List.setIfInBounds_toArray, List.set_cons_zero, List.set_cons_succ]
                  refine' wpAnyH_take (i := 16) (v := _) (op_at rfl) (by kernel_rfl) (by kernel_rfl) (by kernel_rfl) (fun _ _ _ h => h) (Or.inl ⟨by rfl, ?hy98⟩) (by assumption) ?rest98
                  case hy98 =>
                    intro w' hS
                    go_simp
                    try with_reducible rfl
                  try simp only [Act.put, List.setIfInBounds_toArray, List.set_cons_zero, List.set_cons_succ]
                  refine' wpAnyH_take (i := 17) (v := _) (op_at rfl) (by kernel_rfl) (by kernel_rfl) (by kernel_rfl) (fun _ _ _ h => h) (Or.inl ⟨by rfl, ?hy99⟩) (by assumption) ?rest99
                  case hy99 =>
                    intro w' hS
                    go_simp
                    try with_reducible rfl
                  try simp only [Act.put, List.setIfInBounds_toArray, List.set_cons_zero, List.set_cons_succ]
                  refine wpAnyH_done (by kernel_rfl) ?_ _
                  go_wp2_with fail
                  go_meet
                  exact ⟨rfl, rfl, ho1.trans ((Only.drew wv0 []).trans hHeld)⟩
            case rest =>
              obtain ⟨rfl, rfl, ho⟩ := hcut
              clear hY1 ho1 hok
              go_upto_region 15 with fail
              go_cut [19, 20, 67] from 67 to 150 (fun ua ue u67 wx => ∃ (Y1 : Nat) (en : Int) (cs : List Value), ua = .pointer (some ⟨Y1, 0, none⟩) ∧ ue = .int .i64 en ∧ u67 = .int .i64 i ∧ wx.heap[Y1]? = some (.cells cs.toArray 49 (0, 0)) ∧ Only w6 wx [] ∧ InOK w6 wx qs en cs)
              case first =>
                as_aux_lemma =>
                  go_wp2_with fail
                  refine (decinner_any _ qs _ (hrd.new ho) hbq (by omega)).mono ?_
                  rintro e w7 ⟨u, n, ts, s, hd, hu, hun, hbt, ho7, hcase⟩
                  rcases hcase with ⟨he, h256, vt, rfl, hg⟩ | ⟨he, h256, rfl⟩ | ⟨he, rfl⟩
                  · obtain ⟨b1, d1, rfl⟩ := hg.1
                    go_wp2_with fail
                    go_meet
                    exact ⟨w7.heap.size, 0, _, rfl, rfl, rfl, heap_alloc_new w7 _, ho.trans (ho7.trans (Only.alloc _ _ _)), .inl ⟨rfl, u, n, ts, _, (hg.mono ho.size).next (Only.alloc w7 _ []) (by simp), hun, pInner_inv hbq hd he, h256, rfl⟩⟩
                  · go_wp2_with fail
                    go_meet
                    exact ⟨w7.heap.size, 5, _, rfl, rfl, rfl, heap_alloc_new w7 _, ho.trans (ho7.trans (Only.alloc _ _ _)), .inr ⟨.inr rfl, rfl⟩⟩
                  · go_wp2_with fail
                    go_meet
                    exact ⟨w7.heap.size, 4, _, rfl, rfl, rfl, heap_alloc_new w7 _, ho.trans (ho7.trans (Only.alloc _ _ _)), .inr ⟨.inl rfl, rfl⟩⟩
              case rest =>
                obtain ⟨Y1, en, cs, rfl, rfl, rfl, hY1, ho1, hok⟩ := hcut
                clear ho
                obtain ⟨wv0, hwv⟩ : ∃ z, z = wc := ⟨_, rfl⟩
                subst hwv
                go_upto_region 16 with fail
                go_cut [67, 149] from 67 to 150 (fun u67 ub wx => u67 = .int .i64 i ∧ ub = .bool false ∧ Only w6 wx [])
                case first =>
                  as_aux_lemma =>
                    rcases hok with ⟨rfl, u, n, ts, vt, hg, hun, hqs0, h256, rfl⟩ | ⟨rfl | rfl, rfl⟩
                    · obtain ⟨b1, d1, rfl⟩ := hg.1
                      have hqs := Lib.hid hqs0
                      clear hqs0
                      have hg := hg.next (Only.drew wv0 []) (by simp)
                      refine wp_region_held_drew (S := fun w' => Only wv0.drew w' []) (by kernel_rfl) (Only.refl _ _) (fun hHeld => ?_)
                      refine' wpAnyH_take (i := 0) (v := _) (op_at rfl) (by kernel_rfl) (by kernel_rfl) (by kernel_rfl) (fun _ _ _ h => h) (Or.inl ⟨by rfl, ?hy100⟩) (by assumption) ?rest100
                      case hy100 =>
                        intro w' hS
                        go_simp
                        try with_reducible rfl
                      try simp only [Act.put, List.setIfInBounds_toArray, List.set_cons_zero, List.set_cons_succ]
                      refine' wpAnyH_take (i := 1) (v := _) (op_at rfl) (by kernel_rfl) (by kernel_rfl) (by kernel_rfl) (fun _ _ _ h => h) (Or.inl ⟨by rfl, ?hy101⟩) (by assumption) ?rest101
                      case hy101 =>
                        intro w' hS
                        go_simp
                        try with_reducible rfl
                      try simp only [Act.put, List.setIfInBounds_toArray, List.set_cons_zero, List.set_cons_succ]
                      refine' wpAnyH_take (i := 2) (v := _) (op_at rfl) (by kernel_rfl) (by kernel_rfl) (by kernel_rfl) (fun _ _ _ h => h) (Or.inl ⟨by rfl, ?hy102⟩) (by assumption) ?rest102
                      case hy102 =>
                        intro w' hS
                        go_simp
                        try with_reducible rfl
                      try simp only [Act.put, List.setIfInBounds_toArray, List.set_cons_zero, List.set_cons_succ]
                      refine wpAnyH_take (i := 3) (op_at rfl) (by kernel_rfl) (by kernel_rfl) (by kernel_rfl) (fun _ _ _ h => h) (yieldsIf_load_mid (by rfl) _ _ rfl Y1 0 rfl [.int .i64 u, .int .u32 n, .slice b1 ts.length d1] _ (fun w' hS => range_of ((((Only.drew wv0 []).trans hS).at hY1 (by simp)))) Try.underlying49 (by rfl) info_inn) (by assumption) ?_
                      try simp only [Act.put, List.setIfInBounds_toArray, List.set_cons_zero, List.set_cons_succ]
                      refine' wpAnyH_take (i := 6) (v := _) (op_at rfl) (by kernel_rfl) (by kernel_rfl) (by kernel_rfl) (fun _ _ _ h => h) (Or.inl ⟨by rfl, ?hy104⟩) (by assumption) ?rest104
                      case hy104 =>
                        intro w' hS
                        go_simp
                        try with_reducible rfl
                      try simp only [Act.put, List.setIfInBounds_toArray, List.set_cons_zero, List.set_cons_succ]
                      refine' wpAnyH_take (i := 7) (v := _) (op_at rfl) (by kernel_rfl) (by kernel_rfl) (by kernel_rfl) (fun _ _ _ h => h) (Or.inl ⟨by rfl, ?hy105⟩) (by assumption) ?rest105
                      case hy105 =>
                        intro w' hS
                        have hs_ := run_str (P := Try.prog) (w := w') (S := 22) (T := 9) Try.underlying22 Try.underlying5 Try.underlying9 (hrd.new (ho1.trans ((Only.drew wv0 []).trans hS))) rfl
                        go_simp
                        try with_reducible rfl
                      try simp only [Act.put, List.setIfInBounds_toArray, List.set_cons_zero, List.set_cons_succ]
                      refine wpAnyH_ready (rs := [4]) (by kernel_rfl) (by simp) (AllReadyH.cons (op_at rfl) (fun K hK => ?_) AllReadyH.nil)
                      go_simp
                      refine (encinner_any u n (.slice b1 ts.length d1) ts _ hg.2.1 hun (by omega)).mono fun e w9 hq9 => ?_
                      obtain ⟨us, a9, k9, Hus, rfl, s1, s2, s3⟩ := hq9.name
                      clear hq9
                      go_wp2_with fail
                      refine hK.out _ _ (s3) (fun hHeld => ?_)
                      clear hK K
                      try simp only [Act.put, List.setIfInBounds_toArray, List.set_cons_zero, List.set_cons_succ]
                      refine wpAnyH_more (S' := fun w' => Only w9 w' []) (fun w' h => Only.trans s3 h) _ _ _ _ ?_
                      clear hHeld
                      have hHeld : Only w9 w9 [] := Only.refl _ _
                      have o9 : Only wv0.drew w9 [] := s3
                      obtain rfl : us = qs := Hus.out.trans hqs.out.symm
                      refine' wpAnyH_take (i := 5) (v := _) (op_at rfl) (by kernel_rfl) (by kernel_rfl) (by kernel_rfl) (fun _ _ _ h => h) (Or.inl ⟨by rfl, ?hy106⟩) (by assumption) ?rest106
                      case hy106 =>
                        intro w' hS
                        have hs_ := run_str (P := Try.prog) (w := w') (S := 22) (T := 9) Try.underlying22 Try.underlying5 Try.underlying9 ((own_rd s1).new hS) rfl
                        go_simp
                        try with_reducible rfl
                      try simp only [Act.put, List.setIfInBounds_toArray, List.set_cons_zero, List.set_cons_succ]
                      refine' wpAnyH_take (i := 8) (v := _) (op_at rfl) (by kernel_rfl) (by kernel_rfl) (by kernel_rfl) (fun _ _ _ h => h) (Or.inl ⟨by rfl, ?hy107⟩) (by assumption) ?rest107
                      case hy107 =>
                        intro w' hS
                        have hxx : (!((strOfNums us).toList == (strOfNums us).toList)) = false := by simp
                        go_simp
                        try with_reducible rfl
                      try simp only [Act.put, List.setIfInBounds_toArray, List.set_cons_zero, List.set_cons_succ]
                      refine' wpAnyH_take (i := 9) (v := _) (op_at rfl) (by kernel_rfl) (by kernel_rfl) (by kernel_rfl) (fun _ _ _ h => h) (Or.inl ⟨by rfl, ?hy108⟩) (by assumption) ?rest108
                      case hy108 =>
                        intro w' hS
                        go_simp
                        try with_reducible rfl
                      try simp only [Act.put, List.setIfInBounds_toArray, List.set_cons_zero, List.set_cons_succ]
                      refine' wpAnyH_take (i := 10) (v := _) (op_at rfl) (by kernel_rfl) (by kernel_rfl) (by kernel_rfl) (fun _ _ _ h => h) (Or.inl ⟨by rfl, ?hy109⟩) (by assumption) ?rest109
                      case hy109 =>
                        intro w' hS
                        go_simp
                        try with_reducible rfl
                      try simp only [Act.put, List.setIfInBounds_toArray, List.set_cons_zero, List.set_cons_succ]
                      refine' wpAnyH_take (i := 11) (v := _) (op_at rfl) (by kernel_rfl) (by kernel_rfl) (by kernel_rfl) (fun _ _ _ h => h) (Or.inl ⟨by rfl, ?hy110⟩) (by assumption) ?rest110
                      case hy110 =>
                        intro w' hS
                        go_simp
                        try with_reducible rfl
                      try simp only [Act.put, List.setIfInBounds_toArray, List.set_cons_zero, List.set_cons_succ]
                      refine' wpAnyH_take (i := 12) (v := _) (op_at rfl) (by kernel_rfl) (by kernel_rfl) (by kernel_rfl) (fun _ _ _ h => h) (Or.inl ⟨by rfl, ?hy111⟩) (by assumption) ?rest111
                      case hy111 =>
                        intro w' hS
                        go_simp
                        try with_reducible rfl
                      try simp only [Act.put, List.setIfInBounds_toArray, List.set_cons_zero, List.set_cons_succ]
                      refine' wpAnyH_take (i := 13) (v := _) (op_at rfl) (by kernel_rfl) (by kernel_rfl) (by kernel_rfl) (fun _ _ _ h => h) (Or.inl ⟨by rfl, ?hy112⟩) (by assumption) ?rest112
                      case hy112 =>
                        intro w' hS
                        go_simp
                        try with_reducible rfl
                      try simp only [Act.put, List.setIfInBounds_toArray, List.set_cons_zero, List.set_cons_succ]
                      refine wpAnyH_take (i := 14) (v := undef) (op_at rfl) (by kernel_rfl) (by kernel_rfl) (by kernel_rfl) (fun _ _ _ h => h) (Or.inr ⟨by rfl, rfl⟩) (by assumption) ?_
                      try simp only [Act.put, List.setIfInBounds_toArray, List.set_cons_zero, List.set_cons_succ]
                      refine wpAnyH_take (i := 15) (v := undef) (op_at rfl) (by kernel_rfl) (by kernel_rfl) (by kernel_rfl) (fun _ _ _ h => h) (Or.inr ⟨by rfl, rfl⟩) (by assumption) ?_
                      try simp only [Act.put, List.setIfInBounds_toArray, List.set_cons_zero, List.set_cons_succ]
                      refine' wpAnyH_take (i := 16) (v := _) (op_at rfl) (by kernel_rfl) (by kernel_rfl) (by kernel_rfl) (fun _ _ _ h => h) (Or.inl ⟨by rfl, ?hy115⟩) (by assumption) ?rest115
                      case hy115 =>
                        intro w' hS
                        go_simp
                        try with_reducible rfl
                      try simp only [Act.put, List.setIfInBounds_toArray, List.set_cons_zero, List.set_cons_succ]
                      refine' wpAnyH_take (i := 17) (v := _) (op_at rfl) (by kernel_rfl) (by kernel_rfl) (by kernel_rfl) (fun _ _ _ h => h) (Or.inl ⟨by rfl, ?hy116⟩) (by assumption) ?rest116
                      case hy116 =>
                        intro w' hS
                        go_simp
                        try with_reducible rfl
                      try simp only [Act.put, List.setIfInBounds_toArray, List.set_cons_zero, List.set_cons_succ]
                      refine wpAnyH_take (i := 18) (v := undef) (op_at rfl) (by kernel_rfl) (by kernel_rfl) (by kernel_rfl) (fun _ _ _ h => h) (Or.inr ⟨by rfl, rfl⟩) (by assumption) ?_
                      try simp only [Act.put, List.setIfInBounds_toArray, List.set_cons_zero, List.set_cons_succ]
                      refine wpAnyH_take (i := 19) (v := undef) (op_at rfl) (by kernel_rfl) (by kernel_rfl) (by kernel_rfl) (fun _ _ _ h => h) (Or.inr ⟨by rfl, rfl⟩) (by assumption) ?_
                      try simp only [Act.put, List.setIfInBounds_toArray, List.set_cons_zero, List.set_cons_succ]
                      refine' wpAnyH_take (i := 20) (v := _) (op_at rfl) (by kernel_rfl) (by kernel_rfl) (by kernel_rfl) (fun _ _ _ h => h) (Or.inl ⟨by rfl, ?hy119⟩) (by assumption) ?rest119
                      case hy119 =>
                        intro w' hS
                        go_simp
                        try with_reducible rfl
                      try simp only [Act.put, List.setIfInBounds_toArray, List.set_cons_zero, List.set_cons_succ]
                      refine' wpAnyH_take (i := 21) (v := _) (op_at rfl) (by kernel_rfl) (by kernel_rfl) (by kernel_rfl) (fun _ _ _ h => h) (Or.inl ⟨by rfl, ?hy120⟩) (by assumption) ?rest120
                      case hy120 =>
                        intro w' hS
                        go_simp
                        try with_reducible rfl
                      try simp only [Act.put, List.setIfInBounds_toArray, List.set_cons_zero, List.set_cons_succ]
                      refine wpAnyH_done (by kernel_rfl) ?_ _
                      go_wp2_with fail
                      go_meet
                      exact ⟨rfl, rfl, ho1.trans ((Only.drew wv0 []).trans (o9.trans hHeld))⟩
                    · skip
                      refine wp_region_held_drew (S := fun w' => Only wv0.drew w' []) (by kernel_rfl) (Only.refl _ _) (fun hHeld => ?_)
                      refine' wpAnyH_take (i := 0) (v := _) (op_at rfl) (by kernel_rfl) (by kernel_rfl) (by kernel_rfl) (fun _ _ _ h => h) (Or.inl ⟨by rfl, ?hy121⟩) (by assumption) ?rest121
                      case hy121 =>
                        intro w' hS
                        go_simp
                        try with_reducible rfl
                      try simp only [Act.put, List.setIfInBounds_toArray, List.set_cons_zero, List.set_cons_succ]
                      refine' wpAnyH_take (i := 1) (v := _) (op_at rfl) (by kernel_rfl) (by kernel_rfl) (by kernel_rfl) (fun _ _ _ h => h) (Or.inl ⟨by rfl, ?hy122⟩) (by assumption) ?rest122
                      case hy122 =>
                        intro w' hS
                        go_simp
                        try with_reducible rfl
                      try simp only [Act.put, List.setIfInBounds_toArray, List.set_cons_zero, List.set_cons_succ]
                      refine' wpAnyH_take (i := 2) (v := _) (op_at rfl) (by kernel_rfl) (by kernel_rfl) (by kernel_rfl) (fun _ _ _ h => h) (Or.inl ⟨by rfl, ?hy123⟩) (by assumption) ?rest123
                      case hy123 =>
                        intro w' hS
                        go_simp
                        try with_reducible rfl
                      try simp only [Act.put, List.setIfInBounds_toArray, List.set_cons_zero, List.set_cons_succ]
                      refine wpAnyH_take (i := 3) (v := undef) (op_at rfl) (by kernel_rfl) (by kernel_rfl) (by kernel_rfl) (fun _ _ _ h => h) (Or.inr ⟨by rfl, rfl⟩) (by assumption) ?_
                      try simp only [Act.put, List.setIfInBounds_toArray, List.set_cons_zero, List.set_cons_succ]
                      refine wpAnyH_take (i := 4) (v := undef) (op_at rfl) (by kernel_rfl) (by kernel_rfl) (by kernel_rfl) (fun _ _ _ h => h) (Or.inr ⟨by rfl, rfl⟩) (by assumption) ?_
                      try simp only [Act.put, List.setIfInBounds_toArray, List.set_cons_zero, List.set_cons_succ]
                      refine wpAnyH_take (i := 5) (v := undef) (op_at rfl) (by kernel_rfl) (by kernel_rfl) (by kernel_rfl) (fun _ _ _ h => h) (Or.inr ⟨by rfl, rfl⟩) (by assumption) ?_
                      try simp only [Act.put, List.setIfInBounds_toArray, List.set_cons_zero, List.set_cons_succ]
                      refine wpAnyH_take (i := 6) (v := undef) (op_at rfl) (by kernel_rfl) (by kernel_rfl) (by kernel_rfl) (fun _ _ _ h => h) (Or.inr ⟨by rfl, rfl⟩) (by assumption) ?_
                      try simp only [Act.put, List.setIfInBounds_toArray, List.set_cons_zero, List.set_cons_succ]
                      refine wpAnyH_take (i := 7) (v := undef) (op_at rfl) (by kernel_rfl) (by kernel_rfl) (by kernel_rfl) (fun _ _ _ h => h) (Or.inr ⟨by rfl, rfl⟩) (by assumption) ?_
                      try simp only [Act.put, List.setIfInBounds_toArray, List.set_cons_zero, List.set_cons_succ]
                      refine wpAnyH_take (i := 8) (v := undef) (op_at rfl) (by kernel_rfl) (by kernel_rfl) (by kernel_rfl) (fun _ _ _ h => h) (Or.inr ⟨by rfl, rfl⟩) (by assumption) ?_
                      try simp only [Act.put, List.setIfInBounds_toArray, List.set_cons_zero, List.set_cons_succ]
                      refine' wpAnyH_take (i := 9) (v := _) (op_at rfl) (by kernel_rfl) (by kernel_rfl) (by kernel_rfl) (fun _ _ _ h => h) (Or.inl ⟨by rfl, ?hy130⟩) (by assumption) ?rest130
                      case hy130 =>
                        intro w' hS
                        go_simp
                        try with_reducible rfl
                      try simp only [Act.put, List.setIfInBounds_toArray, List.set_cons_zero, List.set_cons_succ]
                      refine' wpAnyH_take (i := 10) (v := _) (op_at rfl) (by kernel_rfl) (by kernel_rfl) (by kernel_rfl) (fun _ _ _ h => h) (Or.inl ⟨by rfl, ?hy131⟩) (by assumption) ?rest131
                      case hy131 =>
                        intro w' hS
                        go_simp
                        try with_reducible rfl
                      try simp only [Act.put, List.setIfInBounds_toArray, List.set_cons_zero, List.set_cons_succ]
                      refine' wpAnyH_take (i := 11) (v := _) (op_at rfl) (by kernel_rfl) (by kernel_rfl) (by kernel_rfl) (fun _ _ _ h => h) (Or.inl ⟨by rfl, ?hy132⟩) (by assumption) ?rest132
                      case hy132 =>
                        intro w' hS
                        go_simp
                        try with_reducible rfl
                      try simp only [Act.put, List.setIfInBounds_toArray, List.set_cons_zero, List.set_cons_succ]
                      refine' wpAnyH_take (i := 12) (v := _) (op_at rfl) (by kernel_rfl) (by kernel_rfl) (by kernel_rfl) (fun _ _ _ h => h) (Or.inl ⟨by rfl, ?hy133⟩) (by assumption) ?rest133
                      case hy133 =>
                        intro w' hS
                        go_simp
                        try with_reducible rfl
                      try simp only [Act.put, List.setIfInBounds_toArray, List.set_cons_zero, List.set_cons_succ]
                      refine' wpAnyH_take (i := 13) (v := _) (op_at rfl) (by kernel_rfl) (by kernel_rfl) (by kernel_rfl) (fun _ _ _ h => h) (Or.inl ⟨by rfl, ?hy134⟩) (by assumption) ?rest134
                      case hy134 =>
                        intro w' hS
                        go_simp
                        try with_reducible rfl
                      try simp only [Act.put, List.setIfInBounds_toArray, List.set_cons_zero, List.set_cons_succ]
                      refine' wpAnyH_take (i := 14) (v := _) (op_at rfl) (by kernel_rfl) (by kernel_rfl) (by kernel_rfl) (fun _ _ _ h => h) (Or.inl ⟨by rfl, ?hy135⟩) (by assumption) ?rest135
                      case hy135 =>
                        intro w' hS
                        go_simp
                        try with_reducible rfl
                      try simp only [Act.put, List.setIfInBounds_toArray, List.set_cons_zero, List.set_cons_succ]
                      refine' wpAnyH_take (i := 15) (v := _) (op_at rfl) (by kernel_rfl) (by kernel_rfl) (by kernel_rfl) (fun _ _ _ h => h) (Or.inl ⟨by rfl, ?hy136⟩) (by assumption) ?rest136
                      case hy136 =>
                        intro w' hS
                        go_simp
                        try with_reducible rfl
                      try simp only [Act.put, List.setIfInBounds_toArray, List.set_cons_zero, List.set_cons_succ]
                      refine' wpAnyH_take (i := 16) (v := _) (op_at rfl) (by kernel_rfl) (by kernel_rfl) (by kernel_rfl) (fun _ _ _ h => h) (Or.inl ⟨by rfl, ?hy137⟩) (by assumption) ?rest137
                      case hy137 =>
                        intro w' hS
                        go_simp
                        try with_reducible rfl
                      try simp only [Act.put, List.setIfInBounds_toArray, List.set_cons_zero, List.set_cons_succ]
                      refine' wpAnyH_take (i := 17) (v := _) (op_at rfl) (by kernel_rfl) (by kernel_rfl) (by kernel_rfl) (fun _ _ _ h => h) (Or.inl ⟨by rfl, ?hy138⟩) (by assumption) ?rest138
                      case hy138 =>
                        intro w' hS
                        go_simp
                        try with_reducible rfl
                      try simp only [Act.put, List.setIfInBounds_toArray, List.set_cons_zero, List.set_cons_succ]
                      refine wpAnyH_take (i := 18) (v := undef) (op_at rfl) (by kernel_rfl) (by kernel_rfl) (by kernel_rfl) (fun _ _ _ h => h) (Or.inr ⟨by rfl, rfl⟩) (by assumption) ?_
                      try simp only [Act.put, List.setIfInBounds_toArray, List.set_cons_zero, List.set_cons_succ]
                      refine wpAnyH_take (i := 19) (v := undef) (op_at rfl) (by kernel_rfl) (by kernel_rfl) (by kernel_rfl) (fun _ _ _ h => h) (Or.inr ⟨by rfl, rfl⟩) (by assumption) ?_
                      try simp only [Act.put, List.setIfInBounds_toArray, List.set_cons_zero, List.set_cons_succ]
                      refine' wpAnyH_take (i := 20) (v := _) (op_at rfl) (by kernel_rfl) (by kernel_rfl) (by kernel_rfl) (fun _ _ _ h => h) (Or.inl ⟨by rfl, ?hy141⟩) (by assumption) ?rest141
                      case hy141 =>
                        intro w' hS
                        go_simp
                        try with_reducible rfl
                      try simp only [Act.put, List.setIfInBounds_toArray, List.set_cons_zero, List.set_cons_succ]
                      refine' wpAnyH_take (i := 21) (v := _) (op_at rfl) (by kernel_rfl) (by kernel_rfl) (by kernel_rfl) (fun _ _ _ h => h) (Or.inl ⟨by rfl, ?hy142⟩) (by assumption) ?rest142
                      case hy142 =>
                        intro w' hS
                        go_simp
                        try with_reducible rfl
                      try simp only [Act.put, List.setIfInBounds_toArray, List.set_cons_zero, List.set_cons_succ]
                      refine wpAnyH_done (by kernel_rfl) ?_ _
                      go_wp2_with fail
                      go_meet
                      exact ⟨rfl, rfl, ho1.trans ((Only.drew wv0 []).trans hHeld)⟩
                    · skip
                      refine wp_region_held_drew (S := fun w' => Only wv0.drew w' []) (by kernel_rfl) (Only.refl _ _) (fun hHeld => ?_)
                      refine' wpAnyH_take (i := 0) (v := _) (op_at rfl) (by kernel_rfl) (by kernel_rfl) (by kernel_rfl) (fun _ _ _ h => h) (Or.inl ⟨by rfl, ?hy143⟩) (by assumption) ?rest143
                      case hy143 =>
                        intro w' hS
                        go_simp
                        try with_reducible rfl
                      try simp only [Act.put, List.setIfInBounds_toArray, List.set_cons_zero, List.set_cons_succ]
                      refine' wpAnyH_take (i := 1) (v := _) (op_at rfl) (by kernel_rfl) (by kernel_rfl) (by kernel_rfl) (fun _ _ _ h => h) (Or.inl ⟨by rfl, ?hy144⟩) (by assumption) ?rest144
                      case hy144 =>
                        intro w' hS
                        go_simp
                        try with_reducible rfl
                      try simp only [Act.put, List.setIfInBounds_toArray, List.set_cons_zero, List.set_cons_succ]
                      refine' wpAnyH_take (i := 2) (v := _) (op_at rfl) (by kernel_rfl) (by kernel_rfl) (by kernel_rfl) (fun _ _ _ h => h) (Or.inl ⟨by rfl, ?hy145⟩) (by assumption) ?rest145
                      case hy145 =>
                        intro w' hS
                        go_simp
                        try with_reducible rfl
                      try simp only [Act.put, List.setIfInBounds_toArray, List.set_cons_zero, List.set_cons_succ]
                      refine wpAnyH_take (i := 3) (v := undef) (op_at rfl) (by kernel_rfl) (by kernel_rfl) (by kernel_rfl) (fun _ _ _ h => h) (Or.inr ⟨by rfl, rfl⟩) (by assumption) ?_
                      try simp only [Act.put, List.setIfInBounds_toArray, List.set_cons_zero, List.set_cons_succ]
                      refine wpAnyH_take (i := 4) (v := undef) (op_at rfl) (by kernel_rfl) (by kernel_rfl) (by kernel_rfl) (fun _ _ _ h => h) (Or.inr ⟨by rfl, rfl⟩) (by assumption) ?_
                      try simp only [Act.put, List.setIfInBounds_toArray, List.set_cons_zero, List.set_cons_succ]
                      refine wpAnyH_take (i := 5) (v := undef) (op_at rfl) (by kernel_rfl) (by kernel_rfl) (by kernel_rfl) (fun _ _ _ h => h) (Or.inr ⟨by rfl, rfl⟩) (by assumption) ?_
                      try simp only [Act.put, List.setIfInBounds_toArray, List.set_cons_zero, List.set_cons_succ]
                      refine wpAnyH_take (i := 6) (v := undef) (op_at rfl) (by kernel_rfl) (by kernel_rfl) (by kernel_rfl) (fun _ _ _ h => h) (Or.inr ⟨by rfl, rfl⟩) (by assumption) ?_
                      try simp only [Act.put, List.setIfInBounds_toArray, List.set_cons_zero, List.set_cons_succ]
                      refine wpAnyH_take (i := 7) (v := undef) (op_at rfl) (by kernel_rfl) (by kernel_rfl) (by kernel_rfl) (fun _ _ _ h => h) (Or.inr ⟨by rfl, rfl⟩) (by assumption) ?_
                      try simp only [Act.put, List.setIfInBounds_toArray, List.set_cons_zero, List.set_cons_succ]
                      refine wpAnyH_take (i := 8) (v := undef) (op_at rfl) (by kernel_rfl) (by kernel_rfl) (by kernel_rfl) (fun _ _ _ h => h) (Or.inr ⟨by rfl, rfl⟩) (by assumption) ?_
                      try simp only [Act.put, List.setIfInBounds_toArray, List.set_cons_zero, List.set_cons_succ]
                      refine' wpAnyH_take (i := 9) (v := _) (op_at rfl) (by kernel_rfl) (by kernel_rfl) (by kernel_rfl) (fun _ _ _ h => h) (Or.inl ⟨by rfl, ?hy152⟩) (by assumption) ?rest152
                      case hy152 =>
                        intro w' hS
                        go_simp
                        try with_reducible rfl
                      try simp only [Act.put, List.setIfInBounds_toArray, List.set_cons_zero, List.set_cons_succ]
                      refine' wpAnyH_take (i := 10) (v := _) (op_at rfl) (by kernel_rfl) (by kernel_rfl) (by kernel_rfl) (fun _ _ _ h => h) (Or.inl ⟨by rfl, ?hy153⟩) (by assumption) ?rest153
                      case hy153 =>
                        intro w' hS
                        go_simp
                        try with_reducible rfl
                      try simp only [Act.put, List.setIfInBounds_toArray, List.set_cons_zero, List.set_cons_succ]
                      refine' wpAnyH_take (i := 11) (v := _) (op_at rfl) (by kernel_rfl) (by kernel_rfl) (by kernel_rfl) (fun _ _ _ h => h) (Or.inl ⟨by rfl, ?hy154⟩) (by assumption) ?rest154
                      case hy154 =>
                        intro w' hS
                        go_simp
                        try with_reducible rfl
                      try simp only [Act.put, List.setIfInBounds_toArray, List.set_cons_zero, List.set_cons_succ]
                      refine' wpAnyH_take (i := 12) (v := _) (op_at rfl) (by kernel_rfl) (by kernel_rfl) (by kernel_rfl) (fun _ _ _ h => h) (Or.inl ⟨by rfl, ?hy155⟩) (by assumption) ?rest155
                      case hy155 =>
                        intro w' hS
                        go_simp
                        try with_reducible rfl
                      try simp only [Act.put, List.setIfInBounds_toArray, List.set_cons_zero, List.set_cons_succ]
                      refine' wpAnyH_take (i := 13) (v := _) (op_at rfl) (by kernel_rfl) (by kernel_rfl) (by kernel_rfl) (fun _ _ _ h => h) (Or.inl ⟨by rfl, ?hy156⟩) (by assumption) ?rest156
                      case hy156 =>
                        intro w' hS
                        go_simp
                        try with_reducible rfl
                      try simp only [Act.put, List.setIfInBounds_toArray, List.set_cons_zero, List.set_cons_succ]
                      refine' wpAnyH_take (i := 14) (v := _) (op_at rfl) (by kernel_rfl) (by kernel_rfl) (by kernel_rfl) (fun _ _ _ h => h) (Or.inl ⟨by rfl, ?hy157⟩) (by assumption) ?rest157
                      case hy157 =>
                        intro w' hS
                        go_simp
                        try with_reducible rfl
                      try simp only [Act.put, List.setIfInBounds_toArray, List.set_cons_zero, List.set_cons_succ]
                      refine' wpAnyH_take (i := 15) (v := _) (op_at rfl) (by kernel_rfl) (by kernel_rfl) (by kernel_rfl) (fun _ _ _ h => h) (Or.inl ⟨by rfl, ?hy158⟩) (by assumption) ?rest158
                      case hy158 =>
                        intro w' hS
                        go_simp
                        try with_reducible rfl
                      try simp only [Act.put, List.setIfInBounds_toArray, List.set_cons_zero, List.set_cons_succ]
                      refine' wpAnyH_take (i := 16) (v := _) (op_at rfl) (by kernel_rfl) (by kernel_rfl) (by kernel_rfl) (fun _ _ _ h => h) (Or.inl ⟨by rfl, ?hy159⟩) (by assumption) ?rest159
                      case hy159 =>
                        intro w' hS
                        go_simp
                        try with_reducible rfl
                      try simp only [Act.put, List.setIfInBounds_toArray, List.set_cons_zero, List.set_cons_succ]
                      refine' wpAnyH_take (i := 17) (v := _) (op_at rfl) (by kernel_rfl) (by kernel_rfl) (by kernel_rfl) (fun _ _ _ h => h) (Or.inl ⟨by rfl, ?hy160⟩) (by assumption) ?rest160
                      case hy160 =>
                        intro w' hS
                        go_simp
                        try with_reducible rfl
                      try simp only [Act.put, List.setIfInBounds_toArray, List.set_cons_zero, List.set_cons_succ]
                      refine' wpAnyH_take (i := 18) (v := _) (op_at rfl) (by kernel_rfl) (by kernel_rfl) (by kernel_rfl) (fun _ _ _ h => h) (Or.inl ⟨by rfl, ?hy161⟩) (by assumption) ?rest161
                      case hy161 =>
                        intro w' hS
                        go_simp
                        try with_reducible rfl
                      try simp only [Act.put, List.setIfInBounds_toArray, List.set_cons_zero, List.set_cons_succ]
                      refine' wpAnyH_take (i := 19) (v := _) (op_at rfl) (by kernel_rfl) (by kernel_rfl) (by kernel_rfl) (fun _ _ _ h => h) (Or.inl ⟨by rfl, ?hy162⟩) (by assumption) ?rest162
                      case hy162 =>
                        intro w' hS
                        go_simp
                        try with_reducible rfl
                      try simp only [Act.put, List.setIfInBounds_toArray, List.set_cons_zero, List.set_cons_succ]
                      refine' wpAnyH_take (i := 20) (v := _) (op_at rfl) (by kernel_rfl) (by kernel_rfl) (by kernel_rfl) (fun _ _ _ h => h) (Or.inl ⟨by rfl, ?hy163⟩) (by assumption) ?rest163
                      case hy163 =>
                        intro w' hS
                        go_simp
                        try with_reducible rfl
                      try simp only [Act.put, List.setIfInBounds_toArray, List.set_cons_zero, List.set_cons_succ]
                      refine' wpAnyH_take (i := 21) (v := _) (op_at rfl) (by kernel_rfl) (by kernel_rfl) (by kernel_rfl) (fun _ _ _ h => h) (Or.inl ⟨by rfl, ?hy164⟩) (by assumption) ?rest164
                      case hy164 =>
                        intro w' hS
                        go_simp
                        try with_reducible rfl
                      try simp only [Act.put, List.setIfInBounds_toArray, List.set_cons_zero, List.set_cons_succ]
                      refine wpAnyH_done (by kernel_rfl) ?_ _
                      go_wp2_with fail
                      go_meet
                      exact ⟨rfl, rfl, ho1.trans ((Only.drew wv0 []).trans hHeld)⟩
                case rest =>
                  obtain ⟨rfl, rfl, ho⟩ := hcut
                  clear hY1 ho1 hok
                  go_wp2_with fail
                  go_roundg (3 - (i + 1))
                  case measure => have := hi_.out; omega
                  case rel => exact ⟨i + 1, by omega, by simp, ho⟩



    · obtain rfl : i = 3 := by omega
      clear hi0
      go_wp2_with fail
      go_ret
      exact ⟨rfl, (o7.trans ho).below (Nat.le_refl _) (by simp)⟩


set_option maxRecDepth 100000 in
set_option maxHeartbeats 3200000 in
theorem junk_bail (aq : Option Addr) (cq : Nat) (P : List Int) (at_ tn ct : Int) (fu fd tu td sg on dp dn : Int) (hs hh : Bool) (ss has hss hks dks sls : List Int) (ap ax ay ak ad az : Option Addr) (cp cx cy ck cd cz : Nat) (w : World) (hq : Rd w (.slice aq P.length cq) P) (bq : Byt P) (a0 : 0 ≤ at_) (a1 : at_ < 65536) (t0 : 0 ≤ tn) (t1 : tn < 256) (c0_ : 0 ≤ ct) (c1_ : ct < 65536) (hp : Rd w (.slice ap ss.length cp) ss) (hx : Rd w (.slice ax has.length cx) has) (hy : Rd w (.slice ay hss.length cy) hss) (hk : Rd w (.slice ak hks.length ck) hks) (hd : Rd w (.slice ad dks.length cd) dks) (hz : Rd w (.slice az sls.length cz) sls) (bp : Byt ss) (bx : Byt has) (by_ : Byt hss) (bk : Byt hks) (bd : Byt dks) (bz : Byt sls) (usg : U32 sg) (uon : U32 on) (udp : U32 dp) (udn : U32 dn) (lp : ss.length ≤ 140737488351232) (lx : has.length ≤ 140737488351232) (ly : hss.length ≤ 140737488351232) (lk : hks.length ≤ 140737488351232) (ld : dks.length ≤ 140737488351232) (lz : sls.length ≤ 140737488351232) (hl0 : ¬ P.length ≤ 1000) :
    Calls Try.prog 12 #[.slice aq P.length cq, .agg #[.int .i64 fu, .int .i64 fd, .int .i64 tu, .int .i64 td, .slice ap ss.length cp, .bool hs, .slice ax has.length cx, .slice ay hss.length cy, .slice ak hks.length ck, .int .u32 sg, .bool hh, .int .u32 on, .slice ad dks.length cd, .int .u32 dp, .int .u32 dn, .slice az sls.length cz], .int .u16 at_, .int .u8 tn, .int .u16 ct] w fun e w' => e = .returned (.bool true) ∧ Below w.heap.size w w' := by
  have d0 : decide ((1000 : Int) < P.length) = true := by simp; omega
  go_enter Try.func12, Try.ntmps12
  go_wp2_with fail
  have hoW : Only w (w.alloc (.cells #[.int .i64 fu, .int .i64 fd, .int .i64 tu, .int .i64 td, .slice ap ss.length cp, .bool hs, .slice ax has.length cx, .slice ay hss.length cy, .slice ak hks.length ck, .int .u32 sg, .bool hh, .int .u32 on, .slice ad dks.length cd, .int .u32 dp, .int .u32 dn, .slice az sls.length cz] 43)) [] := Only.alloc _ _ _
  refine (awake14 _).mono ?_
  rintro e w1 ⟨rfl, h1⟩
  go_wp2_with fail
  refine (awake14 _).mono ?_
  rintro e w2 ⟨rfl, h2⟩
  go_wp2_with fail
  go_ret
  exact ⟨rfl, ((hoW.trans h1).trans h2).below (Nat.le_refl _) (by simp)⟩
set_option maxRecDepth 100000 in
set_option maxHeartbeats 3200000 in
theorem junk_bail2 (aq : Option Addr) (cq : Nat) (P : List Int) (at_ tn ct : Int) (fu fd tu td sg on dp dn : Int) (hs hh : Bool) (ss has hss hks dks sls : List Int) (ap ax ay ak ad az : Option Addr) (cp cx cy ck cd cz : Nat) (w : World) (hq : Rd w (.slice aq P.length cq) P) (bq : Byt P) (a0 : 0 ≤ at_) (a1 : at_ < 65536) (t0 : 0 ≤ tn) (t1 : tn < 256) (c0_ : 0 ≤ ct) (c1_ : ct < 65536) (hp : Rd w (.slice ap ss.length cp) ss) (hx : Rd w (.slice ax has.length cx) has) (hy : Rd w (.slice ay hss.length cy) hss) (hk : Rd w (.slice ak hks.length ck) hks) (hd : Rd w (.slice ad dks.length cd) dks) (hz : Rd w (.slice az sls.length cz) sls) (bp : Byt ss) (bx : Byt has) (by_ : Byt hss) (bk : Byt hks) (bd : Byt dks) (bz : Byt sls) (usg : U32 sg) (uon : U32 on) (udp : U32 dp) (udn : U32 dn) (lp : ss.length ≤ 140737488351232) (lx : has.length ≤ 140737488351232) (ly : hss.length ≤ 140737488351232) (lk : hks.length ≤ 140737488351232) (ld : dks.length ≤ 140737488351232) (lz : sls.length ≤ 140737488351232) (hl0 : P.length ≤ 1000) (hl1 : ¬ ss.length + has.length + hss.length + hks.length + dks.length + sls.length ≤ 3000) :
    Calls Try.prog 12 #[.slice aq P.length cq, .agg #[.int .i64 fu, .int .i64 fd, .int .i64 tu, .int .i64 td, .slice ap ss.length cp, .bool hs, .slice ax has.length cx, .slice ay hss.length cy, .slice ak hks.length ck, .int .u32 sg, .bool hh, .int .u32 on, .slice ad dks.length cd, .int .u32 dp, .int .u32 dn, .slice az sls.length cz], .int .u16 at_, .int .u8 tn, .int .u16 ct] w fun e w' => e = .returned (.bool true) ∧ Below w.heap.size w w' := by
  have d0 : decide ((1000 : Int) < P.length) = false := by simp; omega
  have d1 : decide (ss.length + has.length + hss.length + hks.length + dks.length + sls.length ≤ 3000) = false := by simpa using hl1
  go_enter Try.func12, Try.ntmps12
  go_wp2_with fail
  obtain ⟨W, X, hW, hX, hbX, hoW, hX1, hX2⟩ := new_block w (.cells #[.int .i64 fu, .int .i64 fd, .int .i64 tu, .int .i64 td, .slice ap ss.length cp, .bool hs, .slice ax has.length cx, .slice ay hss.length cy, .slice ak hks.length ck, .int .u32 sg, .bool hh, .int .u32 on, .slice ad dks.length cd, .int .u32 dp, .int .u32 dn, .slice az sls.length cz] 43)
  rw [← hW, ← hX]
  clear hW hX
  refine (awake14 _).mono ?_
  rintro e w1 ⟨rfl, h1⟩
  have hX1' := h1.at hbX (by simp)
  have c0 := cell_in hX1' 0
  have c1 := cell_in hX1' 1
  have c2 := cell_in hX1' 2
  have c3 := cell_in hX1' 3
  have c4 := cell_in hX1' 4
  have c5 := cell_in hX1' 5
  have c6 := cell_in hX1' 6
  have c7 := cell_in hX1' 7
  have c8 := cell_in hX1' 8
  have c9 := cell_in hX1' 9
  have c10 := cell_in hX1' 10
  have c11 := cell_in hX1' 11
  have c12 := cell_in hX1' 12
  have c13 := cell_in hX1' 13
  have c14 := cell_in hX1' 14
  have c15 := cell_in hX1' 15
  go_wp2_with fail
  refine (short_any fu fd tu td sg on dp dn hs hh ss has hss hks dks sls ap ax ay ak ad az cp cx cy ck cd cz _ lp lx ly lk ld lz).mono ?_
  rintro e w2 ⟨rfl, h2⟩
  clear c0 c1 c2 c3 c4 c5 c6 c7 c8 c9 c10 c11 c12 c13 c14 c15
  go_wp2_with fail
  refine (awake14 _).mono ?_
  rintro e w9 ⟨rfl, h9⟩
  go_wp2_with fail
  go_ret
  exact ⟨rfl, (((hoW.trans h1).trans h2).trans h9).below (Nat.le_refl _) (by simp)⟩

theorem u16_rng {x : Int} (h : (Lit.int .u16 x).wf = true) : 0 ≤ x ∧ x < 65536 := by
  simp [Lit.wf, IntKind.min, IntKind.max, IntKind.signed, IntKind.bits] at h
  omega
theorem u8_rng {x : Int} (h : (Lit.int .u8 x).wf = true) : 0 ≤ x ∧ x < 256 := by
  simp [Lit.wf, IntKind.min, IntKind.max, IntKind.signed, IntKind.bits] at h
  omega

theorem envelopeJunk_holds : Rows.EnvelopeJunkSaid := envelopeJunk.said fun H enc base W v0 v1 v2 v3 v4 d0 p0 d1 p1 d2 p2 d3 p3 d4 p4 h0 t0 h1 t1 h2 t2 h3 t3 h4 t4 z0 z1 z2 z3 z4 => by
  obtain ⟨aq, cq, P, rfl, hq, bq⟩ := open_bytes Try.underlying22 Try.underlying5 (by kernel_rfl) h0 t0
  obtain ⟨_, _, _, _, _, _, _, _, _, _, _, _, _, _, _, _, rfl, ⟨fu, rfl⟩, ⟨fd, rfl⟩, ⟨tu, rfl⟩, ⟨td, rfl⟩, ⟨ap, cp, ss, rfl, hp, bp, lp⟩, ⟨hs, rfl⟩, ⟨ax, cx, has, rfl, hx, bx, lx⟩, ⟨ay, cy, hss, rfl, hy, by_, ly⟩, ⟨ak, ck, hks, rfl, hk, bk, lk⟩, ⟨sg, rfl, usg⟩, ⟨hh, rfl⟩, ⟨on, rfl, uon⟩, ⟨ad, cd, dks, rfl, hd, bd, ld⟩, ⟨dp, rfl, udp⟩, ⟨dn, rfl, udn⟩, ⟨az, cz, sls, rfl, hz, bz, lz⟩⟩ := open_env h1 t1 z1
  obtain ⟨at_, rfl, _, _, ha⟩ := Go.ChangeShapes.open_int Try.underlying84 h2 t2
  obtain ⟨tn, rfl, _, _, ht⟩ := Go.ChangeShapes.open_int Try.underlying5 h3 t3
  obtain ⟨ct, rfl, _, _, hc⟩ := Go.ChangeShapes.open_int Try.underlying84 h4 t4
  have ha := u16_rng ha
  have ht := u8_rng ht
  have hc := u16_rng hc
  by_cases hl0 : P.length ≤ 1000
  · by_cases hl1 : ss.length + has.length + hss.length + hks.length + dks.length + sls.length ≤ 3000
    · exact junk_main aq cq P at_ tn ct fu fd tu td sg on dp dn hs hh ss has hss hks dks sls ap ax ay ak ad az cp cx cy ck cd cz W hq bq ha.1 ha.2 ht.1 ht.2 hc.1 hc.2 hp hx hy hk hd hz bp bx by_ bk bd bz usg uon udp udn lp lx ly lk ld lz hl0 hl1
    · exact junk_bail2 aq cq P at_ tn ct fu fd tu td sg on dp dn hs hh ss has hss hks dks sls ap ax ay ak ad az cp cx cy ck cd cz W hq bq ha.1 ha.2 ht.1 ht.2 hc.1 hc.2 hp hx hy hk hd hz bp bx by_ bk bd bz usg uon udp udn lp lx ly lk ld lz hl0 hl1
  · exact junk_bail aq cq P at_ tn ct fu fd tu td sg on dp dn hs hh ss has hss hks dks sls ap ax ay ak ad az cp cx cy ck cd cz W hq bq ha.1 ha.2 ht.1 ht.2 hc.1 hc.2 hp hx hy hk hd hz bp bx by_ bk bd bz usg uon udp udn lp lx ly lk ld lz hl0
end Go.Proofs.Ytemlpjfngaemdaa
