/- DeviceStale: all ways together. -/
import Derived.Test.YtjfmelmiegnmjaaGreatDoorXStDStale0
import Derived.Test.YtjfmelmiegnmjaaGreatDoorXStDStale1
import Derived.Test.YtjfmelmiegnmjaaGreatDoorXStXk
import Derived.Test.YtjfmelmiegnmjaaGreatDoorXSe
set_option linter.all false
open Go Go.Sx Go.Proofs Go.RowKit Go.Pw.Fl
set_option linter.all false
namespace Go.Proofs.YtjfmelmiegnmjaaGreatDoor
set_option maxRecDepth 1000000

/-- The names: the two times. -/
def nmW (ls : List Sx.Loc) : Nat → Option Sx.Loc := fun id => if id < 200 then none else ls[id - 200]?
theorem hroW : (roW.all fun p => Nat.blt p.1 roN && Nat.blt p.1 Tryz.prog.globals.size) = true := by kernel_rfl
theorem hglW : Nat.ble Tryz.prog.globals.size 200 = true := by kernel_rfl
theorem nm_at {ls : List Sx.Loc} {id : Nat} (h1 : 200 ≤ id) (h2 : id < 256) : envN Tryz.prog (nmW ls) id = nmW ls id := envN_at _ _ (Nat.le_trans (Nat.le_of_ble_eq_true hglW) h1) h2
theorem fCls_lt (a b d : Nat) : fCls a b d ≤ 4 := by
  unfold fCls
  split
  · omega
  · split
    · omega
    · split
      · omega
      · split <;> omega
theorem goodS : CallGood Tryz.prog clS := call_good (okT := okT) okt callsOK mixed hW_good dhC_good 1000 60
noncomputable def sig (now later : Nat) : Env := envN Tryz.prog (nmW [⟨0, 0, 0⟩, ⟨0, 0, now⟩, ⟨0, 0, later⟩])
theorem args_den (n now later r k : Nat) (h : n % 2 = r ∧ n < 256) (hk : fCls later now 4621819117588971520 = k) : denL (sig now later) (aS (.par .u8 n 2 r h) k) = some [.int .u8 n, .float .f64 now, .float .f64 later] :=
  have e1 : sig now later 201 = some ⟨0, 0, now⟩ := (nm_at (by decide) (by decide)).trans rfl
  have e2 : sig now later 202 = some ⟨0, 0, later⟩ := (nm_at (by decide) (by decide)).trans rfl
  denL_cons' rfl (denL_cons' (den_vflt (l := ⟨0, 0, now⟩) e1) (denL_cons' (den_vfo (l := ⟨0, 0, later⟩) (m := ⟨0, 0, now⟩) e2 e1 hk) denL_nil'))
theorem law_S {W : World} {E : Nat → Nat} (hW : ∀ id c, (id, c) ∈ roW → BlkOK (env0 Tryz.prog) W id (.mk (E id) 0 c)) {n now later r k : Nat} {h : n % 2 = r ∧ n < 256} (hk : fCls later now 4621819117588971520 = k) {rr : Rs}
    (hruns : RunsAs Tryz.prog nS cS (argsTr 0 (aS (.par .u8 n 2 r h) k) .lf) [] (st0 roW E) rr) (ht : (xleave Tryz.prog dhC rsS rr).isTrue = true) :
    Calls Tryz.prog 6 #[.int .u8 n, .float .f64 now, .float .f64 later] W fun e W' => e = .returned (.bool true) ∧ Below W.heap.size W W' :=
  law_runs callsOK dhC_good cS_fn (args_den n now later r k h hk) (Nat.le_refl _) (envN_hi _ _ (Nat.le_trans (Nat.le_of_ble_eq_true hglW) (by decide))) (envN_glob _ _) ((rep_st0 hroW hW).1.names (envN_le _ _)) (fun id b e => ((rep_st0 hroW hW).2 id b e).1) hruns ht

theorem pre_runs {E : Nat → Nat} {m : AV} {k : Nat} (r : Rs) (hr : xcode Tryz.prog okT clS nS 1000 cPre (argsTr 0 (aS m k) .lf) [] (st0 roW E) = r) (ha : r.isNorm = true) {rr : Rs} (ht : RunsAs Tryz.prog nS cTl r.t r.d r.s rr) : RunsAs Tryz.prog nS cS (argsTr 0 (aS m k) .lf) [] (st0 roW E) rr := by
  subst hr
  exact ahead_runs okt callsOK mixed goodS cS_ahead 1000 _ _ _ _ ha ht
theorem tail_runs0 (r : Rs) (hb : getP (path 1) r.t = some (.vflt 201)) (hc : getP (path 2) r.t = some (.vfo 202 201 4621819117588971520 0)) (y : Rs) (hy : yC0 r = y) (hd : y.isNorm = true) : RunsAs Tryz.prog nS cTl r.t r.d r.s (yZ y) := by
  rw [cTl_eq]
  have h1 : RunsAs Tryz.prog nS cR16 r.t r.d r.s (.norm (t16_0 r.t r.s) r.d (r.s)) := r16_0 hb hc
  have h2 : RunsAs Tryz.prog nS (.cond cO cR17 .skip) (t16_0 r.t r.s) r.d (r.s) y := by
    rw [← hy]
    exact runs_code okt callsOK mixed goodS 1000 (.cond cO cR17 .skip) _ _ _
  have h3 : RunsAs Tryz.prog nS (.seq cR16 (.cond cO cR17 .skip)) r.t r.d r.s y := RunsAs.seq h1 rfl h2
  exact RunsAs.seq h3 hd (runs_code okt callsOK mixed goodS 1000 cEnd _ _ _)
theorem tail_runs1 (r : Rs) (hb : getP (path 1) r.t = some (.vflt 201)) (hc : getP (path 2) r.t = some (.vfo 202 201 4621819117588971520 1)) (y : Rs) (hy : yC1 r = y) (hd : y.isNorm = true) : RunsAs Tryz.prog nS cTl r.t r.d r.s (yZ y) := by
  rw [cTl_eq]
  have h1 : RunsAs Tryz.prog nS cR16 r.t r.d r.s (.norm (t16_1 r.t r.s) r.d (r.s)) := r16_1 hb hc
  have h2 : RunsAs Tryz.prog nS (.cond cO cR17 .skip) (t16_1 r.t r.s) r.d (r.s) y := by
    rw [← hy]
    exact runs_code okt callsOK mixed goodS 1000 (.cond cO cR17 .skip) _ _ _
  have h3 : RunsAs Tryz.prog nS (.seq cR16 (.cond cO cR17 .skip)) r.t r.d r.s y := RunsAs.seq h1 rfl h2
  exact RunsAs.seq h3 hd (runs_code okt callsOK mixed goodS 1000 cEnd _ _ _)
theorem tail_runs2 (r : Rs) (hb : getP (path 1) r.t = some (.vflt 201)) (hc : getP (path 2) r.t = some (.vfo 202 201 4621819117588971520 2)) (y : Rs) (hy : yC2 r = y) (hd : y.isNorm = true) : RunsAs Tryz.prog nS cTl r.t r.d r.s (yZ y) := by
  rw [cTl_eq]
  have h1 : RunsAs Tryz.prog nS cR16 r.t r.d r.s (.norm (t16_2 r.t r.s) r.d (bumpS r.s)) := r16_2 hb hc
  have h2 : RunsAs Tryz.prog nS (.cond cO cR17 .skip) (t16_2 r.t r.s) r.d (bumpS r.s) y := by
    rw [← hy]
    exact runs_code okt callsOK mixed goodS 1000 (.cond cO cR17 .skip) _ _ _
  have h3 : RunsAs Tryz.prog nS (.seq cR16 (.cond cO cR17 .skip)) r.t r.d r.s y := RunsAs.seq h1 rfl h2
  exact RunsAs.seq h3 hd (runs_code okt callsOK mixed goodS 1000 cEnd _ _ _)
theorem tail_runs3 (r : Rs) (hb : getP (path 1) r.t = some (.vflt 201)) (hc : getP (path 2) r.t = some (.vfo 202 201 4621819117588971520 3)) (y : Rs) (hy : yC3 r = y) (hd : y.isNorm = true) : RunsAs Tryz.prog nS cTl r.t r.d r.s (yZ y) := by
  rw [cTl_eq]
  have h1 : RunsAs Tryz.prog nS cR16 r.t r.d r.s (.norm (t16_3 r.t r.s) r.d (bumpS r.s)) := r16_3 hb hc
  have h2 : RunsAs Tryz.prog nS (.cond cO cR17 .skip) (t16_3 r.t r.s) r.d (bumpS r.s) y := by
    rw [← hy]
    exact runs_code okt callsOK mixed goodS 1000 (.cond cO cR17 .skip) _ _ _
  have h3 : RunsAs Tryz.prog nS (.seq cR16 (.cond cO cR17 .skip)) r.t r.d r.s y := RunsAs.seq h1 rfl h2
  exact RunsAs.seq h3 hd (runs_code okt callsOK mixed goodS 1000 cEnd _ _ _)
theorem tail_runs4 (r : Rs) (hb : getP (path 1) r.t = some (.vflt 201)) (hc : getP (path 2) r.t = some (.vfo 202 201 4621819117588971520 4)) (y : Rs) (hy : yC4 r = y) (hd : y.isNorm = true) : RunsAs Tryz.prog nS cTl r.t r.d r.s (yZ y) := by
  rw [cTl_eq]
  have h1 : RunsAs Tryz.prog nS cR16 r.t r.d r.s (.norm (t16_4 r.t r.s) r.d (bumpS r.s)) := r16_4 hb hc
  have h2 : RunsAs Tryz.prog nS (.cond cO cR17 .skip) (t16_4 r.t r.s) r.d (bumpS r.s) y := by
    rw [← hy]
    exact runs_code okt callsOK mixed goodS 1000 (.cond cO cR17 .skip) _ _ _
  have h3 : RunsAs Tryz.prog nS (.seq cR16 (.cond cO cR17 .skip)) r.t r.d r.s y := RunsAs.seq h1 rfl h2
  exact RunsAs.seq h3 hd (runs_code okt callsOK mixed goodS 1000 cEnd _ _ _)
theorem runs00 (E : Nat → Nat) (n : Nat) (h : n % 2 = 0 ∧ n < 256) : RunsAs Tryz.prog nS cS (argsTr 0 (aS (.par .u8 n 2 0 h) 0) .lf) [] (st0 roW E) (yZ (yC0 (yP E (.par .u8 n 2 0 h) 0))) := pre_runs (yP E (.par .u8 n 2 0 h) 0) rfl (a00 E n h) (tail_runs0 (yP E (.par .u8 n 2 0 h) 0) (b00 E n h) (c00 E n h) (yC0 (yP E (.par .u8 n 2 0 h) 0)) rfl (d00 E n h))
theorem runs01 (E : Nat → Nat) (n : Nat) (h : n % 2 = 0 ∧ n < 256) : RunsAs Tryz.prog nS cS (argsTr 0 (aS (.par .u8 n 2 0 h) 1) .lf) [] (st0 roW E) (yZ (yC1 (yP E (.par .u8 n 2 0 h) 1))) := pre_runs (yP E (.par .u8 n 2 0 h) 1) rfl (a01 E n h) (tail_runs1 (yP E (.par .u8 n 2 0 h) 1) (b01 E n h) (c01 E n h) (yC1 (yP E (.par .u8 n 2 0 h) 1)) rfl (d01 E n h))
theorem runs02 (E : Nat → Nat) (n : Nat) (h : n % 2 = 0 ∧ n < 256) : RunsAs Tryz.prog nS cS (argsTr 0 (aS (.par .u8 n 2 0 h) 2) .lf) [] (st0 roW E) (yZ (yC2 (yP E (.par .u8 n 2 0 h) 2))) := pre_runs (yP E (.par .u8 n 2 0 h) 2) rfl (a02 E n h) (tail_runs2 (yP E (.par .u8 n 2 0 h) 2) (b02 E n h) (c02 E n h) (yC2 (yP E (.par .u8 n 2 0 h) 2)) rfl (d02 E n h))
theorem runs03 (E : Nat → Nat) (n : Nat) (h : n % 2 = 0 ∧ n < 256) : RunsAs Tryz.prog nS cS (argsTr 0 (aS (.par .u8 n 2 0 h) 3) .lf) [] (st0 roW E) (yZ (yC3 (yP E (.par .u8 n 2 0 h) 3))) := pre_runs (yP E (.par .u8 n 2 0 h) 3) rfl (a03 E n h) (tail_runs3 (yP E (.par .u8 n 2 0 h) 3) (b03 E n h) (c03 E n h) (yC3 (yP E (.par .u8 n 2 0 h) 3)) rfl (d03 E n h))
theorem runs04 (E : Nat → Nat) (n : Nat) (h : n % 2 = 0 ∧ n < 256) : RunsAs Tryz.prog nS cS (argsTr 0 (aS (.par .u8 n 2 0 h) 4) .lf) [] (st0 roW E) (yZ (yC4 (yP E (.par .u8 n 2 0 h) 4))) := pre_runs (yP E (.par .u8 n 2 0 h) 4) rfl (a04 E n h) (tail_runs4 (yP E (.par .u8 n 2 0 h) 4) (b04 E n h) (c04 E n h) (yC4 (yP E (.par .u8 n 2 0 h) 4)) rfl (d04 E n h))
theorem runs10 (E : Nat → Nat) (n : Nat) (h : n % 2 = 1 ∧ n < 256) : RunsAs Tryz.prog nS cS (argsTr 0 (aS (.par .u8 n 2 1 h) 0) .lf) [] (st0 roW E) (yZ (yC0 (yP E (.par .u8 n 2 1 h) 0))) := pre_runs (yP E (.par .u8 n 2 1 h) 0) rfl (a10 E n h) (tail_runs0 (yP E (.par .u8 n 2 1 h) 0) (b10 E n h) (c10 E n h) (yC0 (yP E (.par .u8 n 2 1 h) 0)) rfl (d10 E n h))
theorem runs11 (E : Nat → Nat) (n : Nat) (h : n % 2 = 1 ∧ n < 256) : RunsAs Tryz.prog nS cS (argsTr 0 (aS (.par .u8 n 2 1 h) 1) .lf) [] (st0 roW E) (yZ (yC1 (yP E (.par .u8 n 2 1 h) 1))) := pre_runs (yP E (.par .u8 n 2 1 h) 1) rfl (a11 E n h) (tail_runs1 (yP E (.par .u8 n 2 1 h) 1) (b11 E n h) (c11 E n h) (yC1 (yP E (.par .u8 n 2 1 h) 1)) rfl (d11 E n h))
theorem runs12 (E : Nat → Nat) (n : Nat) (h : n % 2 = 1 ∧ n < 256) : RunsAs Tryz.prog nS cS (argsTr 0 (aS (.par .u8 n 2 1 h) 2) .lf) [] (st0 roW E) (yZ (yC2 (yP E (.par .u8 n 2 1 h) 2))) := pre_runs (yP E (.par .u8 n 2 1 h) 2) rfl (a12 E n h) (tail_runs2 (yP E (.par .u8 n 2 1 h) 2) (b12 E n h) (c12 E n h) (yC2 (yP E (.par .u8 n 2 1 h) 2)) rfl (d12 E n h))
theorem runs13 (E : Nat → Nat) (n : Nat) (h : n % 2 = 1 ∧ n < 256) : RunsAs Tryz.prog nS cS (argsTr 0 (aS (.par .u8 n 2 1 h) 3) .lf) [] (st0 roW E) (yZ (yC3 (yP E (.par .u8 n 2 1 h) 3))) := pre_runs (yP E (.par .u8 n 2 1 h) 3) rfl (a13 E n h) (tail_runs3 (yP E (.par .u8 n 2 1 h) 3) (b13 E n h) (c13 E n h) (yC3 (yP E (.par .u8 n 2 1 h) 3)) rfl (d13 E n h))
theorem runs14 (E : Nat → Nat) (n : Nat) (h : n % 2 = 1 ∧ n < 256) : RunsAs Tryz.prog nS cS (argsTr 0 (aS (.par .u8 n 2 1 h) 4) .lf) [] (st0 roW E) (yZ (yC4 (yP E (.par .u8 n 2 1 h) 4))) := pre_runs (yP E (.par .u8 n 2 1 h) 4) rfl (a14 E n h) (tail_runs4 (yP E (.par .u8 n 2 1 h) 4) (b14 E n h) (c14 E n h) (yC4 (yP E (.par .u8 n 2 1 h) 4)) rfl (d14 E n h))
theorem deviceStale_any {W : World} {E : Nat → Nat} (hW : ∀ id c, (id, c) ∈ roW → BlkOK (env0 Tryz.prog) W id (.mk (E id) 0 c)) (n now later : Nat) (hn : n < 256) :
    Calls Tryz.prog 6 #[.int .u8 n, .float .f64 now, .float .f64 later] W fun e W' => e = .returned (.bool true) ∧ Below W.heap.size W W' := by
  have h5 := fCls_lt later now 4621819117588971520
  rcases (show fCls later now 4621819117588971520 = 0 ∨ fCls later now 4621819117588971520 = 1 ∨ fCls later now 4621819117588971520 = 2 ∨ fCls later now 4621819117588971520 = 3 ∨ fCls later now 4621819117588971520 = 4 by omega) with k | k | k | k | k <;> rcases Nat.mod_two_eq_zero_or_one n with h | h
  · exact law_S hW k (runs00 E n ⟨h, hn⟩) (e00 E n ⟨h, hn⟩)
  · exact law_S hW k (runs10 E n ⟨h, hn⟩) (e10 E n ⟨h, hn⟩)
  · exact law_S hW k (runs01 E n ⟨h, hn⟩) (e01 E n ⟨h, hn⟩)
  · exact law_S hW k (runs11 E n ⟨h, hn⟩) (e11 E n ⟨h, hn⟩)
  · exact law_S hW k (runs02 E n ⟨h, hn⟩) (e02 E n ⟨h, hn⟩)
  · exact law_S hW k (runs12 E n ⟨h, hn⟩) (e12 E n ⟨h, hn⟩)
  · exact law_S hW k (runs03 E n ⟨h, hn⟩) (e03 E n ⟨h, hn⟩)
  · exact law_S hW k (runs13 E n ⟨h, hn⟩) (e13 E n ⟨h, hn⟩)
  · exact law_S hW k (runs04 E n ⟨h, hn⟩) (e04 E n ⟨h, hn⟩)
  · exact law_S hW k (runs14 E n ⟨h, hn⟩) (e14 E n ⟨h, hn⟩)
end Go.Proofs.YtjfmelmiegnmjaaGreatDoor
