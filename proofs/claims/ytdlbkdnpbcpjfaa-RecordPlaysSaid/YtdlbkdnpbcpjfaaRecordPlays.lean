/- RecordPlays returns true for every list of acts: devices that are put, marked, dropped, with sessions that are put: what is known. No condition. -/
import Derived.Test.YtdlbkdnpbcpjfaaRsA
import Derived.Test.YtdlbkdnpbcpjfaaRt
import Derived.Test.YtdlbkdnpbcpjfaaOpenR
import Derived.Test.YtdlbkdnpbcpjfaaSRecordPlays
namespace Go.Proofs.Ytdlbkdnpbcpjfaa
open Go.RowKit Go.Pw Go.Pw.Fl
set_option linter.unusedVariables false

/-- An act, as it lies. -/
structure Ac where
  ka : Int
  a : Int
  i : Int
  t : Nat
  d : Nat
instance : Inhabited Ac := ⟨⟨0, 0, 0, 0, 0⟩⟩
def acc (x : Ac) : List Value := [.int .u8 x.ka, .int .u8 x.a, .int .u8 x.i, .float .f64 x.t, .float .f64 x.d]
theorem acc_len (x : Ac) : (acc x).length = 5 := rfl
def AcOk (x : Ac) : Prop := (0 ≤ x.ka ∧ x.ka < 256) ∧ (0 ≤ x.a ∧ x.a < 256) ∧ (0 ≤ x.i ∧ x.i < 256) ∧ x.t < 18446744073709551616 ∧ x.d < 18446744073709551616

set_option maxRecDepth 100000 in
set_option maxHeartbeats 3200000 in
theorem plays_walk (ap : Option Addr) (cp : Nat) (xs : List Ac) (w : World) (h : Pw.Src w (.slice ap xs.length cp) 5 xs.length (fl acc xs)) (hx : ∀ x ∈ xs, AcOk x) (hn : xs.length ≤ 60) :
    Calls Try.prog 5 #[.slice ap xs.length cp] w fun e w' => e = .returned (.bool true) ∧ Below w.heap.size w w' := by
  have d0 : decide ((60 : Int) < xs.length) = false := by simp; omega
  have HA : ∀ k (hk : k < xs.length), ∃ g o, ap = some ⟨g, o, none⟩ ∧ ∀ w', Only w w' [] → w'.rangeAt g (o + k * 5) (acc xs[k]) := fun k hk => by
    obtain ⟨g, o, rfl, hr⟩ := src_rec acc_len (by decide) h (by omega)
    exact ⟨g, o, rfl, fun w' ho => hr w' ho k hk⟩
  clear h
  go_enter Try.func5, Try.ntmps5
  go_wp2_with fail
  refine (awake_any _).mono ?_
  rintro e w1 ⟨rfl, o1⟩
  go_wp2_with fail
  refine (new_any w1).mono ?_
  rintro e w2 ⟨rfl, rfl⟩
  have s1 : Pw.Sep w _ (row 36 7 (.slice none 0 0) (([] : List Rcd).map re).length (fl rc (([] : List Rcd).map re)) :: blk w1.heap.size [.slice none 0 0] 68 :: many (([] : List Rcd).map recR) :: row 86 6 (.slice none 0 0) ([] : List Ln).length (fl lnc []) :: []) :=
    (((((Sep.nil w).quiet o1).box [.slice none 0 0] 68).rown 86 6).many_nil.rown 36 7).sel 4 [0, 3, 1, 2]
  obtain ⟨B, hB⟩ : ∃ B, B = w1.heap.size := ⟨_, rfl⟩
  rw [← hB] at s1 ⊢
  clear hB
  generalize w1.alloc (.cells #[Value.slice none 0 0] 68) = w2 at *
  clear o1
  go_wp2_with fail
  go_loopw [4, 5] (fun x y wr => ∃ (k : Nat) (v mv : Value) (L : List Rcd) (M : List Ln), mv = x ∧ y = .int .i64 k ∧ k ≤ xs.length ∧ Pw.Sep w wr (row 36 7 v (L.map re).length (fl rc (L.map re)) :: blk B [v] 68 :: many (L.map recR) :: row 86 6 mv M.length (fl lnc M) :: []) ∧ Inv k L M) (fun _ y _ => xs.length - (intOf y).toNat)
  case atStart => exact ⟨0, .slice none 0 0, .slice none 0 0, [], [], rfl, rfl, Nat.zero_le _, s1, inv_nil⟩
  case round =>
    clear s1
    obtain ⟨k, v, mv, L, M, rfl, rfl, hk, hs, hV⟩ := hrel
    by_cases hkl : k < xs.length
    · have d1 : decide ((k : Int) < xs.length) = true := by simpa using hkl
      obtain ⟨g, o, rfl, HR⟩ := HA k hkl
      have hrng := HR wr hs.only
      have hok := hx _ (List.getElem_mem hkl)
      have hst := step_any B L M v mv xs[k].ka xs[k].a xs[k].i xs[k].t xs[k].d k wr hs hV (by omega) hok.2.1 hok.2.2.1 hok.2.2.2.1 hok.2.2.2.2 hok.1
      have hcl := acc_len xs[k]
      have HV := Lib.hid hV
      clear hV hok hs
      go_wp2_with (refine wpList_load_mid rfl 58 _ rfl g (o + k * 5) rfl (acc xs[k]) _ hrng Try.underlying58 (by rfl) (by rw [hcl]; kernel_rfl) ?_)
      refine hst.mono ?_
      rintro e w4 ⟨v4, L4, mv4, M4, rfl, s4, hV4⟩
      have htd := told_any B L4 M4 v4 mv4 (k + 1) w4 s4 hV4 (by omega)
      have HV4 := Lib.hid hV4
      clear hst hrng hV4
      go_wp2_with fail
      refine htd.mono ?_
      rintro e w5 ⟨rfl, o5⟩
      have s5 := s4.quiet o5
      clear htd s4 o5
      go_wp2_with fail
      exact ⟨⟨k + 1, v4, mv4, L4, M4, rfl, by simp, by omega, s5, HV4.out⟩, by simp [intOf]; omega⟩
    · obtain rfl : k = xs.length := by omega
      have d1 : decide ((xs.length : Int) < xs.length) = false := by simp
      have oF := hs.only
      clear hs hV HA
      go_wp2_with fail
      go_ret
      exact ⟨rfl, oF.below (Nat.le_refl _) (by simp)⟩

theorem plays_bail (ap : Option Addr) (n cp : Nat) (w : World) (h : 60 < n) :
    Calls Try.prog 5 #[.slice ap n cp] w fun e w' => e = .returned (.bool true) ∧ Below w.heap.size w w' := by
  have d0 : decide ((60 : Int) < n) = true := by simp; omega
  clear h
  go_enter Try.func5, Try.ntmps5
  go_wp2_with fail
  refine (awake_any _).mono ?_
  rintro e w1 ⟨rfl, h1⟩
  go_wp2_with fail
  refine (awake_any _).mono ?_
  rintro e w2 ⟨rfl, h2⟩
  go_wp2_with fail
  go_ret
  exact ⟨rfl, (h1.trans h2).below (Nat.le_refl _) (by simp)⟩

theorem cnAct : Try.prog.cellsOf 58 = 5 := by kernel_rfl
theorem cnU8 : Try.prog.cellsOf 5 = 1 := by kernel_rfl
theorem cnF64 : Try.prog.cellsOf 22 = 1 := by kernel_rfl
set_option maxRecDepth 100000 in
theorem act_of {W : World} {cs : List Value} (h : Reads Try.prog W 58 cs) (hl : cs.length = 5) : ∃ x : Ac, cs = acc x ∧ AcOk x := by
  obtain ⟨a, ea, wa⟩ := reads_int Try.underlying5 (reads_field Try.underlying58 h 0 _ rfl 0 1 5 rfl rfl cnU8)
  obtain ⟨b, eb, wb⟩ := reads_int Try.underlying5 (reads_field Try.underlying58 h 1 _ rfl 1 1 5 rfl rfl cnU8)
  obtain ⟨c, ec, wc⟩ := reads_int Try.underlying5 (reads_field Try.underlying58 h 2 _ rfl 2 1 5 rfl rfl cnU8)
  obtain ⟨d, ed, wd⟩ := reads_float Try.underlying22 (reads_field Try.underlying58 h 3 _ rfl 3 1 22 rfl rfl cnF64)
  obtain ⟨e, ee, we⟩ := reads_float Try.underlying22 (reads_field Try.underlying58 h 4 _ rfl 4 1 22 rfl rfl cnF64)
  refine ⟨⟨a, b, c, d, e⟩, ?_, u8_wf wa, u8_wf wb, u8_wf wc, wd, we⟩
  match cs, hl with
  | [x0, x1, x2, x3, x4], _ =>
    simp at ea eb ec ed ee
    simp [acc, ea, eb, ec, ed, ee]

set_option maxRecDepth 100000 in
theorem recordPlays_holds : Rows.RecordPlaysSaid := recordPlays.said fun H enc base W v0 d0 p0 h0 t0 => by
  obtain ⟨fuel, hf⟩ := t0
  obtain ⟨ap', len', cap', rfl⟩ := Go.WideShapes.okWide_slice Try.underlying53 h0
  obtain ⟨ap, cp, xs, e, hp, hr⟩ := reads_recs (enc := acc) (Q := AcOk) acc_len (by decide) Try.underlying53 cnAct (fun cs' hl hc => act_of hc hl) ⟨H, enc, fuel, _, hf⟩
  have e : [Value.slice ap' len' cap'] = [.slice ap xs.length cp] := e
  injection e with e
  rw [e]
  by_cases hc : xs.length ≤ 60
  · exact plays_walk ap cp xs W hp hr hc
  · exact plays_bail ap _ cp W (by omega)
end Go.Proofs.Ytdlbkdnpbcpjfaa
