/- addressed of layer 19 (server). Printed by gen_sv4.py. -/
import Derived.Test.YticojdepepkdlaaSv3
import Derived.Test.YticojdepepkdlaaBy
set_option linter.unusedSimpArgs false
set_option linter.unusedVariables false
namespace Go.Proofs.Yticojdepepkdlaa
open Go.RowKit Go.Pw
set_option linter.unusedVariables false

/-- The bytes of an envelope with nothing but whose it is, and for whom. -/
def eB (fu fd tu td : Int) : List Int := envB fu fd tu td [] false [] [] [] 0 false 0 [] 0 0 []
theorem byt_nil : Byt [] := fun x hx => by simp at hx
theorem eB_byt (fu fd tu td : Int) : Byt (eB fu fd tu td) :=
  (((((((((be_byt _ _).app (be_byt _ _)).app ((be_byt _ _).app (be_byt _ _))).app (be_byt _ _)).app byt_nil).app (byt_flag _)).app (byt_if (byt_hello _ _ _ byt_nil byt_nil byt_nil))).app ((((be_byt _ _).app byt_nil).app (be_byt _ _)).app (be_byt _ _))).app (be_byt _ _)).app byt_nil
theorem eB_len (fu fd tu td : Int) : (eB fu fd tu td).length ≤ 100 := by
  have := frontB_len fu fd tu td [] false [] [] [] 0 false 0
  simp [eB, envB, headB_len, be_len]
  simp at this
  omega
def W32 (x : Int) : Prop := 0 ≤ x ∧ x < 4294967296
theorem wrap32 {x : Int} (h : W32 x) : IntKind.u32.wrap x = x := by
  obtain ⟨h0, h1⟩ := h
  simp [IntKind.wrap, IntKind.bits, IntKind.signed]
  omega

/-- What Decode makes of such bytes. -/
def DecQ (fu fd tu td : Int) (w : World) (e : Ending) (w' : World) : Prop :=
  ∃ cs : List Value, cs.length = 16 ∧ cs[0]? = some (.int .i64 fu) ∧ cs[1]? = some (.int .i64 fd) ∧ cs[2]? = some (.int .i64 tu) ∧ cs[3]? = some (.int .i64 td) ∧ (∀ u ∈ cs, u.oneCell' = true) ∧ e = .returned (.tuple #[.agg cs.toArray, .int .i64 0]) ∧ Only w w' []
theorem dec_eB (fu fd tu td : Int) (h1 : W32 fu) (h2 : W32 fd) (h3 : W32 tu) (h4 : W32 td) (p : Value) (w : World) (hp : Rd w p (eB fu fd tu td)) :
    Calls Try.prog 58 #[p] w (DecQ fu fd tu td w) := by
  refine (decode_any p _ w hp (eB_byt _ _ _ _) (by have := eB_len fu fd tu td; omega)).mono fun e w' hq => ?_
  obtain ⟨a, s, ha, ho, hq⟩ := hq
  have hz : U32 (0 : Int) := by simp [U32]
  have he := pEnv_be fu fd tu td [] false [] [] [] 0 false 0 [] 0 0 [] (by simp) (by simp) (by simp) (by simp) (by simp) (by simp) hz hz hz hz
  rw [show pEnv (eB fu fd tu td, false) = _ from he] at ha
  rw [wrap32 h1, wrap32 h2, wrap32 h3, wrap32 h4] at ha
  simp only [Prod.mk.injEq] at ha
  obtain ⟨rfl, rfl⟩ := ha
  rcases hq with ⟨_, vs, va, vg, vk, vd, vz, rfl, hg⟩ | ⟨hb, _⟩
  · obtain ⟨_, _, rfl⟩ := hg.gs.1
    obtain ⟨_, _, rfl⟩ := hg.gh.ga.1
    obtain ⟨_, _, rfl⟩ := hg.gh.gs.1
    obtain ⟨_, _, rfl⟩ := hg.gh.gk.1
    obtain ⟨_, _, rfl⟩ := hg.gd.1
    obtain ⟨_, _, rfl⟩ := hg.gz.1
    exact ⟨[_, _, _, _, _, _, _, _, _, _, _, _, _, _, _, _], rfl, rfl, rfl, rfl, rfl, by simp [Value.oneCell'], rfl, ho⟩
  · simp [Ends] at hb

/-- An Ask, cell by cell. -/
def ac (k u d n tr to : Int) (ev : Value) (up : Int) (vb : Value) : List Value := [.int .u8 k, .int .i64 u, .int .i64 d, .int .u32 n, .int .u32 tr, .int .i64 to, ev, .int .u64 up, vb]
theorem ac_len (k u d n tr to : Int) (ev : Value) (up : Int) (vb : Value) : (ac k u d n tr to ev up vb).length = 9 := rfl
/-- Envelopes of a device that are read: where their bytes lie, and for whom they are. -/
def Envs (u d : Int) (ev : Value) (qs : List (Value × (Int × Int))) (w : World) : Prop :=
  Pw.Src w ev 1 qs.length (qs.map (·.1)) ∧ ∀ q ∈ qs, Rd w q.1 (eB u d q.2.1 q.2.2) ∧ W32 q.2.1 ∧ W32 q.2.2
theorem Envs.new {u d : Int} {ev : Value} {qs : List (Value × (Int × Int))} {w w' : World} (h : Envs u d ev qs w) (ho : Only w w' []) : Envs u d ev qs w' :=
  ⟨h.1.off ho (fun _ _ _ => by simp), fun q hq => ⟨(h.2 q hq).1.new ho, (h.2 q hq).2⟩⟩
/-- A new row of devices, and no error. -/
def Whos2 (ws : List (Int × Int)) (w : World) (e : Ending) (w' : World) : Prop := ∃ ao c, e = .returned (.tuple #[.slice ao ws.length c, .int .i64 0]) ∧ Sep w w' [row 27 2 (.slice ao ws.length c) ws.length (fl wc ws)]

set_option maxRecDepth 100000 in
set_option maxHeartbeats 1600000 in
theorem addressed_any (k u d n tr to : Int) (ev : Value) (up : Int) (vb : Value) (qs : List (Value × (Int × Int))) (w : World) (h : Envs u d ev qs w) (hu : W32 u) (hd : W32 d) (hl : qs.length ≤ 100) (hnd : (qs.map (·.2)).Nodup) :
    Calls Try.prog 39 #[.agg (ac k u d n tr to ev up vb).toArray] w (Whos2 (qs.map (·.2)) w) := by
  obtain ⟨i0, hi, hz0, hz1, hz2⟩ := info_parts who_info
  obtain ⟨ae, ce, rfl, _⟩ := id h.1
  have g1 : (ac k u d n tr to (.slice ae qs.length ce) up vb).toArray[1]? = some (.int .i64 u) := rfl
  have g2 : (ac k u d n tr to (.slice ae qs.length ce) up vb).toArray[2]? = some (.int .i64 d) := rfl
  have g6 : (ac k u d n tr to (.slice ae qs.length ce) up vb).toArray[6]? = some (.slice ae qs.length ce) := rfl
  have hal := ac_len k u d n tr to (.slice ae qs.length ce) up vb
  generalize ac k u d n tr to (.slice ae qs.length ce) up vb = cs at *
  go_enter Try.func39, Try.ntmps39
  go_wp2_with (refine wpList_box_new rfl 45 _ rfl (.agg cs.toArray) rfl ?_; intro Z wZ oZ hZl hZ; have gz6 := (cell_in hZ 6).trans g6)
  have s0 : Sep w wZ (row 27 2 (.slice none 0 0) 0 [] :: blk Z cs 45 :: []) := ((Sep.nil w).add (b := blk Z cs 45) oZ hZ (fun k hk => by simp [blk] at hk; omega)).rown _ _
  clear oZ hZl hZ gz6
  go_loopw [4, 6, 7, 8, 12] (fun y _ _ _ z wr => ∃ (i : Nat) (a : Option Addr) (c : Nat), y = .slice a i c ∧ z = .int .i64 i ∧ i ≤ qs.length ∧ Pw.Sep w wr (row 27 2 (.slice a i c) i (fl wc ((qs.take i).map (·.2))) :: blk Z cs 45 :: [])) (fun _ _ _ _ z _ => qs.length - (intOf z).toNat)
  case atStart => exact ⟨0, none, 0, rfl, rfl, Nat.zero_le _, s0⟩
  case round =>
    clear s0
    obtain ⟨i, a, c, rfl, rfl, hik, hs⟩ := hrel
    by_cases hlt : i < qs.length
    · have d1 : decide ((i : Int) < (qs.length : Int)) = true := by simpa using hlt
      have h' := h.new hs.only
      obtain ⟨b, o, rfl, hcell⟩ := src_at h'.1 hlt
      have hp := hcell i qs[i].1 (by simp [hlt])
      obtain ⟨hrd, w1, w2⟩ := h'.2 qs[i] (List.getElem_mem hlt)
      obtain ⟨ap, cp, hpe⟩ := hrd.slice
      have htk : fl wc ((qs.take i).map (·.2)) ++ wc qs[i].2 = fl wc ((qs.take (i + 1)).map (·.2)) := by
        rw [List.take_succ_eq_append_getElem hlt, List.map_append, fl_app]
        rfl
      have hln : ((qs.take i).map (·.2)).length = i := by rw [List.length_map, List.length_take]; omega
      have hnot : qs[i].2 ∉ (qs.take i).map (·.2) := fun hm => by
        have h3 : ((qs.take (i + 1)).map (·.2)).Nodup := hnd.sublist ((List.take_sublist _ _).map _)
        rw [List.take_succ_eq_append_getElem hlt, List.map_append, List.nodup_append] at h3
        exact h3.2.2 _ hm _ (by simp) rfl
      generalize qs[i].2 = q at *
      generalize qs[i].1 = pv at *
      obtain ⟨tu, td⟩ := q
      simp only at hrd w1 w2 htk
      have hhas : hasW ((qs.take i).map (·.2)) tu td = false := decide_eq_false hnot
      generalize (qs.take i).map (·.2) = ws at *
      have Htk := Lib.hid htk
      have Hln := Lib.hid hln
      have hrow : ∀ w', Only wr w' [] → w'.ownsRow 0 27 2 (.slice a i c) ws.length (fl wc ws) := fun w' o => by rw [hln]; exact (hs.quiet o).head
      have hZ : wr.heap[Z]? = some (.cells cs.toArray 45 (0, 0)) := (hs.sel 2 [1]).head
      have heb := eB_len u d tu td
      subst hpe
      clear htk hln hcell h' hnot
      have hel : ((eB u d tu td).length : Int) ≤ 65536 := by omega
      have dlen : decide ((65536 : Int) < ((eB u d tu td).length : Int)) = false := by simp; omega
      generalize hebl : (eB u d tu td).length = el at *
      have Hebl := Lib.hid hebl
      clear hebl
      go_wp2_with fail
      refine (dec_eB u d tu td hu hd w1 w2 _ _ hrd).mono ?_
      rintro e w5 ⟨es, e0, e1, e2, e3, e4, e5, rfl, o5⟩
      have hs5 := hs.quiet o5
      have hrow5 := fun (w' : World) (o : Only w5 w' []) => hrow w' (o5.trans o)
      have hZ5 := o5.at hZ (by simp)
      have h1c : es.toArray.all (·.oneCell') = true := all_oneCell_toArray e5
      have q0 : es.toArray[0]? = some (.int .i64 u) := by simpa using e1
      have q1 : es.toArray[1]? = some (.int .i64 d) := by simpa using e2
      have q2 : es.toArray[2]? = some (.int .i64 tu) := by simpa using e3
      have q3 : es.toArray[3]? = some (.int .i64 td) := by simpa using e4
      clear hs hrow hZ hp hrd e1 e2 e3 e4 e5
      go_upto_region 6 with (first
        | (refine wpList_alloc_new rfl 41 rfl en0 (fun _ => by kernel_rfl) ?_; intro X wX oX hXl hX)
        | (refine wpList_store_blk rfl 41 _ _ rfl X es rfl rfl hX (by rw [e0]; rfl) (by rw [e0]; kernel_rfl) h1c ?_; intro wY oY hY; have oXY := oX.new oY (fun i hi => by simp only [List.mem_singleton] at hi; omega); have hs6 := hs5.quiet oXY; have hrow6 := fun (w' : World) (o : Only wY w' []) => hrow5 w' (oXY.trans o); have hZ6 := oXY.at hZ5 (by simp); have y0 := (cell_in hY 0).trans q0; have y1 := (cell_in hY 1).trans q1; have y2 := (cell_in hY 2).trans q2; have y3 := (cell_in hY 3).trans q3; have z1 := (cell_in hZ6 1).trans g1; have z2 := (cell_in hZ6 2).trans g2; clear hs5 hrow5 hX oX oY oXY hZ5))
      go_wp2_with fail
      refine (wcontains_any ws _ tu td _ (hrow6 _ (Only.refl _ _)) (by have := Hln.out; omega)).mono ?_
      rw [hhas]
      rintro e w6 ⟨rfl, o6⟩
      have hs7 := hs6.quiet o6
      have hY6 := o6.at hY (by simp)
      clear y0 y1 y2 y3 z1 z2 hs6 hrow6 hZ6 hY
      have y2 := (cell_in hY6 2).trans q2
      have y3 := (cell_in hY6 3).trans q3
      clear hY6
      go_wp2_with (at_builtin; refine wpList_append_sep rfl _ _ 46 rfl 27 i0 _ 2 16 Try.underlying46 hi hz0 hz1 hz2 rfl (by decide) (.slice a i c) i _ rfl (hs7.quiet (Only.alloc _ (.cells #[.int .i64 tu, .int .i64 td] 27) [])) _ 1 (wc (tu, td)) rfl (src_lit _ [.int .i64 tu, .int .i64 td] _ 1 2 rfl) (wc_one _) (by unfold maxLen; omega) (by omega) ?_; intro a7 c7 w7 o7 s7; rw [Htk.out] at s7)
      exact ⟨⟨i + 1, a7, c7, rfl, by simp, by omega, s7⟩, by simp [intOf]; omega⟩
    · obtain rfl : i = qs.length := by omega
      have d1 : decide ((qs.length : Int) < (qs.length : Int)) = false := by simp
      have hlm : (qs.map (·.2)).length = qs.length := by simp
      rw [List.take_length] at hs
      have hs2 := hs.sel 2 [0]
      clear hs
      go_wp2_with fail
      refine bodyPost_ret (v := .tuple #[.slice a qs.length c, .int .i64 0]) (by simp [results, Try.results39, go_sem]) rfl ?_
      exact ⟨a, c, by rw [hlm], by rw [hlm]; exact hs2⟩
end Go.Proofs.Yticojdepepkdlaa
