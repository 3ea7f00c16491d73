/- What a registry tells is what the reference tells (layer 17). Printed by gen_rfi.py. -/
import Derived.Test.YteljkfihmbddaaaRfH
import Derived.Test.YteljkfihmbddaaaRfF
import Derived.Test.YteljkfihmbddaaaRfP
import Derived.Test.YteljkfihmbddaaaRf8
import Derived.Test.YteljkfihmbddaaaPb
import Derived.Test.YteljkfihmbddaaaRdR
import Derived.Deep.Cut
import Derived.Deep.CutBlock
import Derived.Deep.CutRange
set_option linter.unusedSimpArgs false
set_option linter.unusedVariables false
namespace Go.Proofs.Yteljkfihmbddaaa
open Go.RowKit Go.Pw
set_option linter.unusedVariables false

set_option maxRecDepth 100000 in
set_option maxHeartbeats 1200000 in
theorem left_all {w0 : World} {rs : List Res} (B : Nat) (l : List Li) (v : Value) (u d : Int) (k : Nat) (x : Li) (w : World) (h : Sep w0 w (regR B v l rs)) (hl : l.length ≤ 1000000) (hr : Rise l)
    (hf : foundL l u d = true) (hp : placeL l u d = k) (hk : k < l.length) (hx : l[k] = x) :
    Calls Try.prog 15 #[.pointer (some ⟨B, 0, none⟩), wv u d] w fun e w' => e = .returned (.int .i64 x.os.length) ∧ Only w w' [] := by
  obtain ⟨ao, c, rfl⟩ := own_slice (show w.ownsRow 0 _ 14 v l.length (fl lc l) from h.head)
  obtain ⟨g, rfl, _⟩ := own_some (show w.ownsRow 0 _ 14 (.slice ao l.length c) l.length (fl lc l) from h.head) (by omega)
  have Hfind := fun (w' : World) (o : Only w w' []) => find_any B l _ u d w' (h.quiet o) hl hr
  rw [hf, hp] at Hfind
  simp only [wv] at *
  clear hf hp hr
  have hlrow : ∀ w' : World, w'.ownsRow 0 76 14 (.slice (some ⟨g, 0, none⟩) l.length c) l.length (fl lc l) → w'.cell? ⟨g, k * 14 + 2, none⟩ = some (.bool x.on) ∧ w'.cell? ⟨g, k * 14 + 13, none⟩ = some x.v ∧ w'.rangeAt g (k * 14 + 3) (bc x.b) := fun w' h' => by
    refine ⟨?_, rec_cell lc_len h' hk 13 (by rw [hx]; rfl), fun j v hj => ?_⟩
    · have := rec_cell lc_len h' hk 2 (v := .bool l[k].on) rfl
      rw [hx] at this
      exact this
    · rw [Nat.add_assoc]
      refine rec_cell lc_len h' hk (3 + j) ?_
      rw [hx, lc, Nat.add_comm]
      simp only [List.getElem?_cons_succ]
      rw [List.getElem?_append_left (List.getElem?_eq_some_iff.1 hj).1]
      exact hj
  have hkI : (k : Int) < l.length := by omega
  have hpk : (l.map ow)[k]? = some (ow x) := by rw [List.getElem?_map, List.getElem?_eq_getElem hk, hx]; rfl
  have howk : (ow x).ok w := many_ok (h.sel 3 [2]).head (List.mem_of_getElem? hpk)
  obtain ⟨av, cv, hv⟩ := own_slice (show w.ownsRow 0 40 10 x.v x.os.length (fl bc x.os) from howk)
  rw [hv] at hlrow
  clear howk hpk
  have oZ := Only.alloc w (.cells #[.int .i64 u, .int .i64 d] 30) []
  go_enter Try.func15, Try.ntmps15
  go_wp2_with fail
  refine (Hfind _ oZ).mono ?_
  rintro e w1 ⟨rfl, o1⟩
  have s1 := h.quiet (oZ.trans o1)
  obtain ⟨c2, c13, hrg⟩ := hlrow w1 s1.head
  have hBc := cell_of_one s1.tail.head
  have oF := oZ.trans o1
  clear Hfind s1 o1 oZ hrg h
  go_wp2_with fail
  go_ret
  exact ⟨rfl, oF⟩

set_option maxRecDepth 100000 in
set_option maxHeartbeats 1600000 in
theorem told_any {w0 : World} {rs : List Res} (B S : Nat) (l : List Li) (ms : List Rl) (v rv : Value) (P : List Bu) (w : World) (h : Pw.Sep w0 w (regR B v l (refR S rv ms (many (P.map rdB) :: rs)))) (hV : RInv l ms) (hlen : l.length ≤ 100) (hbs : ∀ x ∈ l, x.b = b0 ∨ x.b ∈ P) :
    Calls Try.prog 23 #[.pointer (some ⟨B, 0, none⟩), .pointer (some ⟨S, 0, none⟩)] w fun e w' => e = .returned (.bool true) ∧ Only w w' [] := by
  obtain ⟨i0, hi, hz0, hz1, hz2⟩ := info_parts who_info
  have hml : ms.length ≤ 100 := by rw [hV.len]; exact hlen
  have hr := hV.strict.rise
  have hR : Pw.Sep w0 w (refR S rv ms (regR B v l (many (P.map rdB) :: rs))) := h.sel 7 [3, 4, 5, 0, 1, 2, 6]
  have HALL := fun (w' : World) (o : Only w w' []) => all_any B l v w' ((h.quiet o).sel 2 [0, 1]) (by omega)
  have HNX := fun (w' : World) (o : Only w w' []) (u : Int) => next_any B l v u w' ((h.quiet o).sel 2 [0, 1]) (by omega) hr
  have HRN := fun (w' : World) (o : Only w w' []) (u : Int) => rnext_any S ms rv u w' ((hR.quiet o).sel 2 [0, 1]) (by omega)
  simp only [hV.next] at HRN
  have HLI := fun (w' : World) (o : Only w w' []) (u : Int) => list_any B l v u w' ((h.quiet o).sel 2 [0, 1]) (by omega) hr
  have HRL := fun (w' : World) (o : Only w w' []) (u : Int) => rlist_any S ms rv u w' ((hR.quiet o).sel 2 [0, 1]) (by omega)
  simp only [hV.list] at HRL
  have HAU := fun (w' : World) (o : Only w w' []) (fu fd tu : Int) => audience_any B l v fu fd tu w' ((h.quiet o).sel 2 [0, 1]) (by omega) hr
  have HRA := fun (w' : World) (o : Only w w' []) (fu fd tu : Int) => raud_any S ms rv fu fd tu w' ((hR.quiet o).sel 2 [0, 1]) (by omega)
  simp only [hV.aud] at HRA
  have HFD := fun (w' : World) (o : Only w w' []) (u d : Int) => rfind_any S ms rv u d w' ((hR.quiet o).sel 2 [0, 1]) (by omega)
  have HID : ∀ w', Only w w' [] → ∀ k (hk : k < l.length), Calls Try.prog 24 #[.pointer (some ⟨B, 0, none⟩), wv l[k].u l[k].d] w' fun e w'' => e = .returned (.tuple #[.agg #[l[k].b.s1, l[k].b.s2], .bool true]) ∧ Only w' w'' [] := fun w' o k hk =>
    rident_any B l v l[k].u l[k].d k w' (h.quiet o) (by omega) hr (found_self hV.strict hk) (place_self hV.strict hk) hk
  have HIS : ∀ w', Only w w' [] → ∀ k (hk : k < l.length), Calls Try.prog 25 #[.pointer (some ⟨B, 0, none⟩), wv l[k].u l[k].d] w' fun e w'' => e = .returned (.bool l[k].on) ∧ Only w' w'' [] := fun w' o k hk => by
    have := is_any B l v l[k].u l[k].d w' ((h.quiet o).sel 2 [0, 1]) (by omega) hr
    rwa [isL_self hV.strict hk] at this
  have HLE : ∀ w', Only w w' [] → ∀ k (hk : k < l.length), Calls Try.prog 15 #[.pointer (some ⟨B, 0, none⟩), wv l[k].u l[k].d] w' fun e w'' => e = .returned (.int .i64 l[k].os.length) ∧ Only w' w'' [] := fun w' o k hk =>
    left_all B l v l[k].u l[k].d k l[k] w' (h.quiet o) (by omega) hr (found_self hV.strict hk) (place_self hV.strict hk) hk rfl
  have HRI := hV.all
  obtain ⟨ao, c, rfl⟩ := own_slice (show w.ownsRow 0 _ 18 rv ms.length (fl rlc ms) from hR.head)
  have hrow0 := show w.ownsRow 0 85 18 (.slice ao ms.length c) ms.length (fl rlc ms) from hR.head
  have hS0 : w.heap[S]? = some (.cells #[.slice ao ms.length c, .slice none 0 0] 53 (0, 0)) := (hR.sel 2 [1]).head
  have HM := fun (hp : 0 < ms.length) => own_some hrow0 hp
  have hMR : ∀ k (hk : k < l.length), ∃ j, ∃ hj : j < ms.length, rfi ms l[k].u l[k].d = j ∧ enL l[k] = enR ms[j] := fun k hk => by
    obtain ⟨j, hj, e⟩ := hV.both hk
    have hf := rfp_at hV.nodup hj
    have e1 : l[k].u = ms[j].u := congrArg En.u e
    have e2 : l[k].d = ms[j].d := congrArg En.d e
    refine ⟨j, hj, ?_, e⟩
    rw [e1, e2]
    unfold rfi
    rw [hf.1, if_pos hj]
  have HOW : ∀ j (hj : j < ms.length), ∃ vo vc, ms[j].v = .slice vo ms[j].os.length vc := fun j hj => by
    have hpk : (ms.map oo)[j]? = some (oo ms[j]) := by rw [List.getElem?_map, List.getElem?_eq_getElem hj]; rfl
    have : (oo ms[j]).ok w := many_ok (hR.sel 3 [2]).head (List.mem_of_getElem? hpk)
    exact OwnO.slice (show OwnO w 40 10 ms[j].v ms[j].os.length (fl bc ms[j].os) from this)
  have hSL : ∀ x ∈ l, ∃ (so : Option Addr) (sc : Nat) (xs : List Int), x.b.s1 = .slice so xs.length sc ∧ ∀ w', Only w w' [] → Pw.Src w' (.slice so xs.length sc) 1 xs.length (xs.map (Value.int .u8)) := fun x hx => by
    have HRD : RdS w x.b.s1 := by
      rcases hbs x hx with e | e
      · rw [e]; exact rdS_nil _
      · have : (rdB x.b).ok w := many_ok (h.sel 7 [6]).head (List.mem_map.2 ⟨_, e, rfl⟩)
        exact this.1 _ (by simp [parts])
    obtain ⟨so, sc, xs, e, hq, _⟩ := HRD
    exact ⟨so, sc, xs, e, fun w' o => Pw.Src.off hq o (fun _ _ _ => by simp)⟩
  replace HALL := Lib.hid HALL
  replace HNX := Lib.hid HNX
  replace HRN := Lib.hid HRN
  replace HLI := Lib.hid HLI
  replace HRL := Lib.hid HRL
  replace HAU := Lib.hid HAU
  replace HRA := Lib.hid HRA
  replace HFD := Lib.hid HFD
  replace HID := Lib.hid HID
  replace HIS := Lib.hid HIS
  replace HLE := Lib.hid HLE
  replace HRI := Lib.hid HRI
  replace hMR := Lib.hid hMR
  replace HOW := Lib.hid HOW
  replace hSL := Lib.hid hSL
  have s0 : Pw.Sep w w (row 30 2 (.slice none 0 0) 0 [] :: []) := (Sep.nil w).rown _ _
  clear h hR hbs
  clear hV hr
  go_enter Try.func23, Try.ntmps23
  go_wp2_with fail
  go_loopw [5, 6] (fun x y wr => ∃ (k : Nat) (a1 : Option Addr) (c1 : Nat), x = .slice a1 ((ms.take k).map rkey).length c1 ∧ y = .int .i64 k ∧ k ≤ ms.length ∧ Pw.Sep w wr (row 30 2 (.slice a1 ((ms.take k).map rkey).length c1) ((ms.take k).map rkey).length (fl wc ((ms.take k).map rkey)) :: [])) (fun _ y _ => ms.length - (intOf y).toNat)
  case atStart => exact ⟨0, none, 0, rfl, rfl, Nat.zero_le _, s0⟩
  case round =>
    clear s0
    obtain ⟨k, a1, c1, rfl, rfl, hk, hs⟩ := hrel
    have hs0 := cell_two0 (hs.only.at hS0 (by simp))
    by_cases hkl : k < ms.length
    · have d1 : decide ((k : Int) < ms.length) = true := by simpa using hkl
      obtain ⟨mg, rfl, _⟩ := HM (by omega)
      have hr_ := own_only hrow0 hs.only (fun _ _ => by simp)
      have e0 : World.cell? _ ⟨mg, k * 18, none⟩ = some (.int .i64 ms[k].u) := rec_cell rlc_len hr_ hkl 0 rfl
      have e1 := rec_cell rlc_len hr_ hkl 1 (v := .int .i64 ms[k].d) rfl
      have htk : Hid (fl wc ((ms.take k).map rkey) ++ wc (ms[k].u, ms[k].d) = fl wc ((ms.take (k + 1)).map rkey) ∧ ((ms.take (k + 1)).map rkey).length = ((ms.take k).map rkey).length + 1) := by
        show _ ∧ _
        rw [List.take_succ_eq_append_getElem hkl, List.map_append, fl_app]
        exact ⟨by simp [fl, rkey], by simp⟩
      have hql : ((ms.take k).map rkey).length ≤ 1000 := by rw [List.length_map, List.length_take]; omega
      generalize (ms.take k).map rkey = q at *
      generalize ms[k].u = xu at *
      generalize ms[k].d = xd at *
      clear hr_ HM
      go_wp2_with (first
        | (refine wpList_buildSlice_one rfl 31 _ rfl 30 i0 _ (wc (xu, xd)) rfl Try.underlying31 hi hz0 (by rw [hz1, wc_len]) (by rw [wc_len]; rfl) (by rw [wc_len]; decide) (by rw [wc_len]; decide) ?_; intro Y w6 o6 hYl hY; have s6 := hs.quiet o6; clear hs o6)
        | (at_builtin; refine wpList_append_sep rfl _ _ 31 rfl 30 i0 _ 2 16 Try.underlying31 hi hz0 hz1 hz2 rfl (by decide) (.slice a1 q.length c1) q.length _ rfl s6 _ 1 (wc (xu, xd)) rfl (src_blk hY (by rw [wc_len])) (wc_one _) (by unfold maxLen; omega) (by omega) ?_; intro a7 c7 w7 o7 s7; rw [htk.out.1] at s7))
      refine ⟨⟨k + 1, a7, c7, by rw [htk.out.2], by simp, by omega, by rw [htk.out.2]; exact s7⟩, by simp [intOf]; omega⟩
    · obtain rfl : k = ms.length := by omega
      have d1 : decide ((ms.length : Int) < ms.length) = false := by simp
      rw [List.take_length] at hs
      rw [List.take_length]
      have hql : (ms.map rkey).length ≤ 1000 := by rw [List.length_map]; omega
      have hrise := rise_any (.slice a1 (ms.map rkey).length c1) (ms.map rkey) _ (own_src hs.head) hql
      rw [HRI.out] at hrise
      have oR := hs.only
      have hkl' : (keys l).length ≤ 100 := by rw [keys_len]; exact hlen
      generalize ms.map rkey = q at *
      clear hs HRI
      go_wp2_with fail
      refine hrise.mono ?_
      rintro e w5 ⟨a5, c5, rfl, s5⟩
      have o5 := oR.trans s5.only
      have hrk : w5.ownsRow 0 30 2 (.slice a5 (keys l).length c5) (keys l).length (fl wc (keys l)) := s5.head
      clear hrise hs0 s5 oR
      go_wp2_with fail
      refine (HALL.out _ o5).mono ?_
      rintro e w6 ⟨a6, c6, rfl, s6⟩
      have o6 := o5.trans s6.only
      have hrk6 := own_only hrk s6.only (fun _ _ => by simp)
      have hsame := samewhos_any (.slice a6 (keys l).length c6) (.slice a5 (keys l).length c5) (keys l) w6 (own_src s6.head) (own_src hrk6) (by omega)
      clear HALL s6 o5 hrk
      go_wp2_with fail
      refine hsame.mono ?_
      rintro e w7 ⟨rfl, o7⟩
      have oA := o6.trans o7
      have hrk7 := own_only hrk6 o7 (fun _ _ => by simp)
      clear hsame hrk6 o6 o7
      go_wp2_with fail
      go_loopw [7] (fun x wr => ∃ z : Int, x = .int .i64 z ∧ -1 ≤ z ∧ z ≤ 9 ∧ Only w7 wr []) (fun x _ => (9 - intOf x).toNat)
      case atStart => exact ⟨-1, rfl, by omega, by omega, Only.refl _ _⟩
      case round =>
        obtain ⟨z, rfl, hz1', hz9, oZ⟩ := hrel
        by_cases hzz : z < 9
        · have d1 : decide (z < 9) = true := by simpa using hzz
          have hnx := HNX.out wr (oA.trans oZ) z
          have hrn := fun (w' : World) (o : Only w w' []) => HRN.out w' o z
          generalize (nextD l z).1.1 = na at *
          generalize (nextD l z).1.2 = nb at *
          generalize (nextD l z).2 = ne at *
          have hli := fun (w' : World) (o : Only w w' []) => HLI.out w' o z
          have hrl := fun (w' : World) (o : Only w w' []) => HRL.out w' o z
          have hll : (listL l z).length ≤ 100 := by have := List.length_filter_le (fun p : Int × Int => p.1 == z && isL l p.1 p.2) (keys l); rw [keys_len] at this; unfold listL; omega
          generalize listL l z = q2 at *
          have h1c : ([.int .i64 na, .int .i64 nb] : List Value).toArray.all (·.oneCell') = true := by simp [Value.oneCell']
          replace hrn := Lib.hid hrn
          replace hli := Lib.hid hli
          replace hrl := Lib.hid hrl
          simp only [wv] at hnx
          clear hrk7 HFD HID HIS HLE hMR HOW hSL HAU HRA HM
          go_wp2_with fail
          refine hnx.mono ?_
          rintro e w8 ⟨rfl, o8⟩
          have oC := (oA.trans oZ).trans o8
          have oC7 := oZ.trans o8
          clear hnx
          go_upto_region 13 with (first
            | (refine wpList_alloc_new rfl 30 rfl (.agg #[.int .i64 0, .int .i64 0]) (fun _ => by kernel_rfl) ?_; intro X wX oX hXl hX)
            | (refine wpList_store_blk rfl 30 _ _ rfl X [.int .i64 na, .int .i64 nb] rfl rfl hX rfl (by kernel_rfl) h1c ?_; intro wY oY hY; have oXY := oX.new oY (fun i hi => by simp only [List.mem_singleton] at hi; omega); clear oX oY hX hXl))
          have oD := oC.trans oXY
          have oD7 := oC7.trans oXY
          clear oC oC7 oXY
          go_wp2_with fail
          refine (hrn.out _ oD).mono ?_
          simp only [wv]
          rintro e w9 ⟨rfl, o9⟩
          have hY9 := o9.at hY (by simp)
          have oE := oD.trans o9
          have oE7 := oD7.trans o9
          clear hrn oD oD7 hY o9
          go_upto_region 14 with (first
            | (refine wpList_alloc_new rfl 30 rfl (.agg #[.int .i64 0, .int .i64 0]) (fun _ => by kernel_rfl) ?_; intro U wU oU hUl hU)
            | (refine wpList_store_blk rfl 30 _ _ rfl U [.int .i64 na, .int .i64 nb] rfl rfl hU rfl (by kernel_rfl) h1c ?_; intro wV oV hV; have oUV := oU.new oV (fun i hi => by simp only [List.mem_singleton] at hi; omega); clear oU oV hU hUl))
          have hYV := oUV.at hY9 (by simp)
          have y0 := cell_two0 hYV
          have y1 := cell_two1 hYV
          have v0 := cell_two0 hV
          have v1 := cell_two1 hV
          have oG := oE.trans oUV
          have oG7 := oE7.trans oUV
          clear oE oE7 oUV hY9 hYV hV
          go_wp2_with fail
          refine (hli.out _ oG).mono ?_
          rintro e wa ⟨aa, ca, rfl, sa⟩
          have oH := oG.trans sa.only
          have oH7 := oG7.trans sa.only
          have hra := show wa.ownsRow 0 30 2 (.slice aa q2.length ca) q2.length (fl wc q2) from sa.head
          clear hli oG oG7 sa y0 y1 v0 v1
          go_wp2_with fail
          refine (hrl.out _ oH).mono ?_
          rintro e wb ⟨ab, cb, rfl, sb⟩
          have oI7 := oH7.trans sb.only
          have hsm := samewhos_any (.slice aa q2.length ca) (.slice ab q2.length cb) q2 wb (own_src (own_only hra sb.only (fun _ _ => by simp))) (own_src sb.head) (by omega)
          clear hrl oH oH7 sb hra
          go_wp2_with fail
          refine hsm.mono ?_
          rintro e wc_ ⟨rfl, oJ⟩
          have oK7 := oI7.trans oJ
          clear hsm oI7 oJ
          go_wp2_with fail
          exact ⟨⟨z + 1, rfl, by omega, by omega, oK7⟩, by simp [intOf]; omega⟩
        · obtain rfl : z = 9 := by omega
          have d1 : decide ((9 : Int) < 9) = false := by decide
          have oB := oA.trans oZ
          have hrk9 := own_only hrk7 oZ (fun _ _ => by simp)
          clear HNX HRN HLI HRL hrk7 oZ oA
          go_wp2_with fail
          obtain ⟨wR, rfl⟩ : ∃ z, z = wr := ⟨_, rfl⟩
          have HK : ∀ k (hk : k < l.length), ∃ lg, a5 = some ⟨lg, 0, none⟩ ∧ ∀ w', Only wR w' [] → w'.cell? ⟨lg, k * 2, none⟩ = some (.int .i64 l[k].u) ∧ w'.cell? ⟨lg, k * 2 + 1, none⟩ = some (.int .i64 l[k].d) := fun k hk => by
            obtain ⟨lg, rfl, _⟩ := own_some hrk9 (by rw [keys_len]; omega)
            refine ⟨lg, rfl, fun w' o => ?_⟩
            have hr := own_only hrk9 o (fun _ _ => by simp)
            have hk2 : k < (keys l).length := by rw [keys_len]; exact hk
            have ek : (keys l)[k] = (l[k].u, l[k].d) := by simp [keys]
            exact ⟨rec_cell wc_len hr hk2 0 (by rw [ek]; rfl), rec_cell wc_len hr hk2 1 (by rw [ek]; rfl)⟩
          replace HK := Lib.hid HK
          have hkk := keys_len l
          generalize (keys l).length = kn at *
          subst kn
          clear hrk9
          go_loopw [12] (fun x wk => ∃ k : Nat, x = .int .i64 k ∧ k ≤ l.length ∧ Only wR wk []) (fun x _ => l.length - (intOf x).toNat)
          case atStart => exact ⟨0, rfl, Nat.zero_le _, Only.refl _ _⟩
          case round =>
            obtain ⟨k, rfl, hk, oK⟩ := hrel
            by_cases hkl : k < l.length
            · have d1 : decide ((k : Int) < l.length) = true := by simpa using hkl
              obtain ⟨lg, rfl, HK1⟩ := HK.out k hkl
              replace HK1 := Lib.hid HK1
              obtain ⟨j, hj, hfi, e⟩ := hMR.out k hkl
              obtain ⟨mg, rfl, _⟩ := HM (by omega)
              obtain ⟨vo, vc, hv⟩ := HOW.out j hj
              obtain ⟨so, sc, xs, hs1, hsr⟩ := hSL.out _ (List.getElem_mem hkl)
              have HC : Hid (∀ w', Only w w' [] → w'.cell? ⟨S, 0, none⟩ = some (.slice (some ⟨mg, 0, none⟩) ms.length c) ∧ w'.cell? ⟨mg, j * 18 + 2, none⟩ = some (.bool l[k].on) ∧ w'.cell? ⟨mg, j * 18 + 5, none⟩ = some (.slice so xs.length sc) ∧ w'.cell? ⟨mg, j * 18 + 13, none⟩ = some (.slice vo l[k].os.length vc)) := fun w' o => by
                have hr_ := own_only hrow0 o (fun _ _ => by simp)
                have eon : l[k].on = ms[j].on := congrArg En.on e
                have eb : l[k].b = ms[j].b := congrArg En.b e
                have eos : l[k].os = ms[j].os := congrArg En.os e
                rw [← hs1, eon, eb, eos, ← hv]
                exact ⟨cell_two0 (o.at hS0 (by simp)), rec_cell rlc_len hr_ hj 2 rfl, rec_cell rlc_len hr_ hj 5 rfl, rec_cell rlc_len hr_ hj 13 (by simp [rlc, bc])⟩
              have hfd := HFD.out _ (oB.trans oK) l[k].u l[k].d
              rw [hfi] at hfd
              have hid := fun (w' : World) (o : Only w w' []) => HID.out w' o k hkl
              have his := fun (w' : World) (o : Only w w' []) => HIS.out w' o k hkl
              have hle := fun (w' : World) (o : Only w w' []) => HLE.out w' o k hkl
              have hau := fun (w' : World) (o : Only w w' []) (u : Int) => HAU.out w' o l[k].u l[k].d u
              have hra := fun (w' : World) (o : Only w w' []) (u : Int) => HRA.out w' o l[k].u l[k].d u
              have hal : ∀ u : Int, (audL l l[k].u l[k].d u).length ≤ 100 := fun u => by
                have := List.length_filter_le (audF l l[k].u l[k].d u) (keys l)
                rw [keys_len] at this; unfold audL; omega
              generalize hAU_ : audL l l[k].u l[k].d = AUL at *
              rw [hs1] at hid
              have h2o : l[k].b.s2.oneCell' = true := l[k].b.ok.2.1
              generalize l[k].b.s2 = s2 at *
              generalize l[k].u = ku at *
              generalize l[k].d = kd at *
              generalize l[k].on = kon at *
              generalize l[k].os.length = kos at *
              have hjI : (0 : Int) ≤ (j : Int) ∧ (j : Int) < ms.length := by omega
              have h1c : ([.slice so xs.length sc, s2] : List Value).toArray.all (·.oneCell') = true := by
                have h1s : (Value.slice so xs.length sc).oneCell' = true := rfl
                simp [h1s, h2o]
              simp only [wv] at hfd hid his hle hau hra
              replace hid := Lib.hid hid
              replace his := Lib.hid his
              replace hle := Lib.hid hle
              replace hau := Lib.hid hau
              replace hra := Lib.hid hra
              replace hsr := Lib.hid hsr
              replace hal := Lib.hid hal
              clear HK hMR HOW hSL HFD HID HIS HLE HAU HRA HM e hv hfi hs1 hAU_
              obtain ⟨q0, q1⟩ := HK1.out wr oK
              go_wp2_with fail
              refine hfd.mono ?_
              rintro e w8 ⟨rfl, o8⟩
              have oK8 := oK.trans o8
              obtain ⟨r0, r1⟩ := HK1.out w8 oK8
              clear hfd q0 q1
              go_wp2_with fail
              refine (hid.out _ (oB.trans oK8)).mono ?_
              rintro e w9 ⟨rfl, o9⟩
              have oK9 := oK8.trans o9
              clear hid r0 r1 o8 o9 oK8
              go_upto_region 21 with (first
                | (refine wpList_alloc_new rfl 37 rfl (.agg #[.slice none 0 0, .slice none 0 0]) (fun _ => by kernel_rfl) ?_; intro X wX oX hXl hX)
                | (refine wpList_store_blk rfl 37 _ _ rfl X [.slice so xs.length sc, s2] rfl rfl hX rfl (by kernel_rfl) h1c ?_; intro wY oY hY; have oXY := oX.new oY (fun i hi => by simp only [List.mem_singleton] at hi; omega); clear oX oY hX hXl))
              have oKF := (oK9.trans oXY).trans (Only.drew wY [])
              have oF := oB.trans oKF
              clear oXY oK9
              refine wp_region_held_drew (S := fun w' => Only wY.drew w' []) (by kernel_rfl) (Only.refl _ _) (fun hHeld => ?_)
              refine' wpAnyH_take (i := 0) (v := _) (op_at rfl) (by kernel_rfl) (by kernel_rfl) (by kernel_rfl) (fun _ _ _ h => h) (Or.inl ⟨by rfl, ?hy1⟩) (by assumption) ?rest1
              case hy1 =>
                intro w' hS
                go_simp
                try with_reducible rfl
              try simp only [Act.put, List.setIfInBounds_toArray, List.set_cons_zero, List.set_cons_succ]
              refine' wpAnyH_take (i := 1) (v := _) (op_at rfl) (by kernel_rfl) (by kernel_rfl) (by kernel_rfl) (fun _ _ _ h => h) (Or.inl ⟨by rfl, ?hy2⟩) (by assumption) ?rest2
              case hy2 =>
                intro w' hS
                go_simp
                try with_reducible rfl
              try simp only [Act.put, List.setIfInBounds_toArray, List.set_cons_zero, List.set_cons_succ]
              refine' wpAnyH_take (i := 2) (v := _) (op_at rfl) (by kernel_rfl) (by kernel_rfl) (by kernel_rfl) (fun _ _ _ h => h) (Or.inl ⟨by rfl, ?hy3⟩) (by assumption) ?rest3
              case hy3 =>
                intro w' hS
                go_simp
                try with_reducible rfl
              try simp only [Act.put, List.setIfInBounds_toArray, List.set_cons_zero, List.set_cons_succ]
              refine' wpAnyH_take (i := 3) (v := _) (op_at rfl) (by kernel_rfl) (by kernel_rfl) (by kernel_rfl) (fun _ _ _ h => h) (Or.inl ⟨by rfl, ?hy4⟩) (by assumption) ?rest4
              case hy4 =>
                intro w' hS
                go_simp
                try with_reducible rfl
              try simp only [Act.put, List.setIfInBounds_toArray, List.set_cons_zero, List.set_cons_succ]
              refine' wpAnyH_take (i := 4) (v := _) (op_at rfl) (by kernel_rfl) (by kernel_rfl) (by kernel_rfl) (fun _ _ _ h => h) (Or.inl ⟨by rfl, ?hy5⟩) (by assumption) ?rest5
              case hy5 =>
                intro w' hS
                have x0_ := cell_two0 (((Only.drew wY []).trans hS).at hY (by simp))
                go_simp
                try with_reducible rfl
              try simp only [Act.put, List.setIfInBounds_toArray, List.set_cons_zero, List.set_cons_succ]
              refine' wpAnyH_take (i := 5) (v := _) (op_at rfl) (by kernel_rfl) (by kernel_rfl) (by kernel_rfl) (fun _ _ _ h => h) (Or.inl ⟨by rfl, ?hy6⟩) (by assumption) ?rest6
              case hy6 =>
                intro w' hS
                have hs_ := run_str (P := Try.prog) (S := 22) (T := 9) Try.underlying22 Try.underlying5 Try.underlying9 (hsr.out w' (oF.trans hS)) rfl
                go_simp
                try with_reducible rfl
              try simp only [Act.put, List.setIfInBounds_toArray, List.set_cons_zero, List.set_cons_succ]
              refine' wpAnyH_take (i := 6) (v := _) (op_at rfl) (by kernel_rfl) (by kernel_rfl) (by kernel_rfl) (fun _ _ _ h => h) (Or.inl ⟨by rfl, ?hy7⟩) (by assumption) ?rest7
              case hy7 =>
                intro w' hS
                go_simp
                try with_reducible rfl
              try simp only [Act.put, List.setIfInBounds_toArray, List.set_cons_zero, List.set_cons_succ]
              refine' wpAnyH_take (i := 7) (v := _) (op_at rfl) (by kernel_rfl) (by kernel_rfl) (by kernel_rfl) (fun _ _ _ h => h) (Or.inl ⟨by rfl, ?hy8⟩) (by assumption) ?rest8
              case hy8 =>
                intro w' hS
                go_simp
                try with_reducible rfl
              try simp only [Act.put, List.setIfInBounds_toArray, List.set_cons_zero, List.set_cons_succ]
              refine' wpAnyH_take (i := 8) (v := _) (op_at rfl) (by kernel_rfl) (by kernel_rfl) (by kernel_rfl) (fun _ _ _ h => h) (Or.inl ⟨by rfl, ?hy9⟩) (by assumption) ?rest9
              case hy9 =>
                intro w' hS
                go_simp
                try with_reducible rfl
              try simp only [Act.put, List.setIfInBounds_toArray, List.set_cons_zero, List.set_cons_succ]
              refine' wpAnyH_take (i := 9) (v := _) (op_at rfl) (by kernel_rfl) (by kernel_rfl) (by kernel_rfl) (fun _ _ _ h => h) (Or.inl ⟨by rfl, ?hy10⟩) (by assumption) ?rest10
              case hy10 =>
                intro w' hS
                have c0_ := (HC.out w' (oB.trans (oKF.trans hS))).1
                go_simp
                try with_reducible rfl
              try simp only [Act.put, List.setIfInBounds_toArray, List.set_cons_zero, List.set_cons_succ]
              refine' wpAnyH_take (i := 10) (v := _) (op_at rfl) (by kernel_rfl) (by kernel_rfl) (by kernel_rfl) (fun _ _ _ h => h) (Or.inl ⟨by rfl, ?hy11⟩) (by assumption) ?rest11
              case hy11 =>
                intro w' hS
                go_simp
                try with_reducible rfl
              try simp only [Act.put, List.setIfInBounds_toArray, List.set_cons_zero, List.set_cons_succ]
              refine' wpAnyH_take (i := 11) (v := _) (op_at rfl) (by kernel_rfl) (by kernel_rfl) (by kernel_rfl) (fun _ _ _ h => h) (Or.inl ⟨by rfl, ?hy12⟩) (by assumption) ?rest12
              case hy12 =>
                intro w' hS
                go_simp
                try with_reducible rfl
              try simp only [Act.put, List.setIfInBounds_toArray, List.set_cons_zero, List.set_cons_succ]
              refine' wpAnyH_take (i := 12) (v := _) (op_at rfl) (by kernel_rfl) (by kernel_rfl) (by kernel_rfl) (fun _ _ _ h => h) (Or.inl ⟨by rfl, ?hy13⟩) (by assumption) ?rest13
              case hy13 =>
                intro w' hS
                go_simp
                try with_reducible rfl
              try simp only [Act.put, List.setIfInBounds_toArray, List.set_cons_zero, List.set_cons_succ]
              refine' wpAnyH_take (i := 13) (v := _) (op_at rfl) (by kernel_rfl) (by kernel_rfl) (by kernel_rfl) (fun _ _ _ h => h) (Or.inl ⟨by rfl, ?hy14⟩) (by assumption) ?rest14
              case hy14 =>
                intro w' hS
                go_simp
                try with_reducible rfl
              try simp only [Act.put, List.setIfInBounds_toArray, List.set_cons_zero, List.set_cons_succ]
              refine' wpAnyH_take (i := 14) (v := _) (op_at rfl) (by kernel_rfl) (by kernel_rfl) (by kernel_rfl) (fun _ _ _ h => h) (Or.inl ⟨by rfl, ?hy15⟩) (by assumption) ?rest15
              case hy15 =>
                intro w' hS
                go_simp
                try with_reducible rfl
              try simp only [Act.put, List.setIfInBounds_toArray, List.set_cons_zero, List.set_cons_succ]
              refine' wpAnyH_take (i := 15) (v := _) (op_at rfl) (by kernel_rfl) (by kernel_rfl) (by kernel_rfl) (fun _ _ _ h => h) (Or.inl ⟨by rfl, ?hy16⟩) (by assumption) ?rest16
              case hy16 =>
                intro w' hS
                have c5_ := (HC.out w' (oB.trans (oKF.trans hS))).2.2.1
                go_simp
                try with_reducible rfl
              try simp only [Act.put, List.setIfInBounds_toArray, List.set_cons_zero, List.set_cons_succ]
              refine' wpAnyH_take (i := 16) (v := _) (op_at rfl) (by kernel_rfl) (by kernel_rfl) (by kernel_rfl) (fun _ _ _ h => h) (Or.inl ⟨by rfl, ?hy17⟩) (by assumption) ?rest17
              case hy17 =>
                intro w' hS
                have hs_ := run_str (P := Try.prog) (S := 22) (T := 9) Try.underlying22 Try.underlying5 Try.underlying9 (hsr.out w' (oF.trans hS)) rfl
                go_simp
                try with_reducible rfl
              try simp only [Act.put, List.setIfInBounds_toArray, List.set_cons_zero, List.set_cons_succ]
              refine' wpAnyH_take (i := 17) (v := _) (op_at rfl) (by kernel_rfl) (by kernel_rfl) (by kernel_rfl) (fun _ _ _ h => h) (Or.inl ⟨by rfl, ?hy18⟩) (by assumption) ?rest18
              case hy18 =>
                intro w' hS
                go_simp
                try with_reducible rfl
              try simp only [Act.put, List.setIfInBounds_toArray, List.set_cons_zero, List.set_cons_succ]
              refine' wpAnyH_take (i := 18) (v := _) (op_at rfl) (by kernel_rfl) (by kernel_rfl) (by kernel_rfl) (fun _ _ _ h => h) (Or.inl ⟨by rfl, ?hy19⟩) (by assumption) ?rest19
              case hy19 =>
                intro w' hS
                go_simp
                try with_reducible rfl
              try simp only [Act.put, List.setIfInBounds_toArray, List.set_cons_zero, List.set_cons_succ]
              refine' wpAnyH_take (i := 19) (v := _) (op_at rfl) (by kernel_rfl) (by kernel_rfl) (by kernel_rfl) (fun _ _ _ h => h) (Or.inl ⟨by rfl, ?hy20⟩) (by assumption) ?rest20
              case hy20 =>
                intro w' hS
                go_simp
                try with_reducible rfl
              try simp only [Act.put, List.setIfInBounds_toArray, List.set_cons_zero, List.set_cons_succ]
              refine' wpAnyH_take (i := 20) (v := _) (op_at rfl) (by kernel_rfl) (by kernel_rfl) (by kernel_rfl) (fun _ _ _ h => h) (Or.inl ⟨by rfl, ?hy21⟩) (by assumption) ?rest21
              case hy21 =>
                intro w' hS
                go_simp
                try with_reducible rfl
              try simp only [Act.put, List.setIfInBounds_toArray, List.set_cons_zero, List.set_cons_succ]
              refine' wpAnyH_take (i := 21) (v := _) (op_at rfl) (by kernel_rfl) (by kernel_rfl) (by kernel_rfl) (fun _ _ _ h => h) (Or.inl ⟨by rfl, ?hy22⟩) (by assumption) ?rest22
              case hy22 =>
                intro w' hS
                go_simp
                try with_reducible rfl
              try simp only [Act.put, List.setIfInBounds_toArray, List.set_cons_zero, List.set_cons_succ]
              refine' wpAnyH_take (i := 22) (v := _) (op_at rfl) (by kernel_rfl) (by kernel_rfl) (by kernel_rfl) (fun _ _ _ h => h) (Or.inl ⟨by rfl, ?hy23⟩) (by assumption) ?rest23
              case hy23 =>
                intro w' hS
                go_simp
                try with_reducible rfl
              try simp only [Act.put, List.setIfInBounds_toArray, List.set_cons_zero, List.set_cons_succ]
              refine' wpAnyH_take (i := 23) (v := _) (op_at rfl) (by kernel_rfl) (by kernel_rfl) (by kernel_rfl) (fun _ _ _ h => h) (Or.inl ⟨by rfl, ?hy24⟩) (by assumption) ?rest24
              case hy24 =>
                intro w' hS
                go_simp
                try with_reducible rfl
              try simp only [Act.put, List.setIfInBounds_toArray, List.set_cons_zero, List.set_cons_succ]
              refine' wpAnyH_take (i := 24) (v := _) (op_at rfl) (by kernel_rfl) (by kernel_rfl) (by kernel_rfl) (fun _ _ _ h => h) (Or.inl ⟨by rfl, ?hy25⟩) (by assumption) ?rest25
              case hy25 =>
                intro w' hS
                obtain ⟨q0, q1⟩ := HK1.out w' (oKF.trans hS)
                go_simp
                try with_reducible rfl
              try simp only [Act.put, List.setIfInBounds_toArray, List.set_cons_zero, List.set_cons_succ]
              refine' wpAnyH_take (i := 26) (v := _) (op_at rfl) (by kernel_rfl) (by kernel_rfl) (by kernel_rfl) (fun _ _ _ h => h) (Or.inl ⟨by rfl, ?hy26⟩) (by assumption) ?rest26
              case hy26 =>
                intro w' hS
                go_simp
                try with_reducible rfl
              try simp only [Act.put, List.setIfInBounds_toArray, List.set_cons_zero, List.set_cons_succ]
              refine' wpAnyH_take (i := 27) (v := _) (op_at rfl) (by kernel_rfl) (by kernel_rfl) (by kernel_rfl) (fun _ _ _ h => h) (Or.inl ⟨by rfl, ?hy27⟩) (by assumption) ?rest27
              case hy27 =>
                intro w' hS
                go_simp
                try with_reducible rfl
              try simp only [Act.put, List.setIfInBounds_toArray, List.set_cons_zero, List.set_cons_succ]
              refine' wpAnyH_take (i := 28) (v := _) (op_at rfl) (by kernel_rfl) (by kernel_rfl) (by kernel_rfl) (fun _ _ _ h => h) (Or.inl ⟨by rfl, ?hy28⟩) (by assumption) ?rest28
              case hy28 =>
                intro w' hS
                go_simp
                try with_reducible rfl
              try simp only [Act.put, List.setIfInBounds_toArray, List.set_cons_zero, List.set_cons_succ]
              refine' wpAnyH_take (i := 29) (v := _) (op_at rfl) (by kernel_rfl) (by kernel_rfl) (by kernel_rfl) (fun _ _ _ h => h) (Or.inl ⟨by rfl, ?hy29⟩) (by assumption) ?rest29
              case hy29 =>
                intro w' hS
                have c0_ := (HC.out w' (oB.trans (oKF.trans hS))).1
                go_simp
                try with_reducible rfl
              try simp only [Act.put, List.setIfInBounds_toArray, List.set_cons_zero, List.set_cons_succ]
              refine' wpAnyH_take (i := 30) (v := _) (op_at rfl) (by kernel_rfl) (by kernel_rfl) (by kernel_rfl) (fun _ _ _ h => h) (Or.inl ⟨by rfl, ?hy30⟩) (by assumption) ?rest30
              case hy30 =>
                intro w' hS
                go_simp
                try with_reducible rfl
              try simp only [Act.put, List.setIfInBounds_toArray, List.set_cons_zero, List.set_cons_succ]
              refine' wpAnyH_take (i := 31) (v := _) (op_at rfl) (by kernel_rfl) (by kernel_rfl) (by kernel_rfl) (fun _ _ _ h => h) (Or.inl ⟨by rfl, ?hy31⟩) (by assumption) ?rest31
              case hy31 =>
                intro w' hS
                go_simp
                try with_reducible rfl
              try simp only [Act.put, List.setIfInBounds_toArray, List.set_cons_zero, List.set_cons_succ]
              refine' wpAnyH_take (i := 32) (v := _) (op_at rfl) (by kernel_rfl) (by kernel_rfl) (by kernel_rfl) (fun _ _ _ h => h) (Or.inl ⟨by rfl, ?hy32⟩) (by assumption) ?rest32
              case hy32 =>
                intro w' hS
                go_simp
                try with_reducible rfl
              try simp only [Act.put, List.setIfInBounds_toArray, List.set_cons_zero, List.set_cons_succ]
              refine' wpAnyH_take (i := 33) (v := _) (op_at rfl) (by kernel_rfl) (by kernel_rfl) (by kernel_rfl) (fun _ _ _ h => h) (Or.inl ⟨by rfl, ?hy33⟩) (by assumption) ?rest33
              case hy33 =>
                intro w' hS
                have c2_ := (HC.out w' (oB.trans (oKF.trans hS))).2.1
                go_simp
                try with_reducible rfl
              try simp only [Act.put, List.setIfInBounds_toArray, List.set_cons_zero, List.set_cons_succ]
              refine wpAnyH_ready (rs := [25]) (by kernel_rfl) (by simp) (AllReadyH.cons (op_at rfl) (fun K hK => ?_) AllReadyH.nil)
              go_simp
              refine (his.out _ oF).mono fun e w25 hq => ?_
              obtain ⟨rfl, o25⟩ := hq
              go_wp2_with fail
              refine hK.out _ _ o25 (fun hHeld => ?_)
              clear hK K
              try simp only [Act.put, List.setIfInBounds_toArray, List.set_cons_zero, List.set_cons_succ]
              refine wpAnyH_more (S' := fun w' => Only w25 w' []) (fun w' h => Only.trans o25 h) _ _ _ _ ?_
              clear hHeld
              have hHeld : Only w25 w25 [] := Only.refl _ _
              have oKL := oKF.trans o25
              refine' wpAnyH_take (i := 34) (v := _) (op_at rfl) (by kernel_rfl) (by kernel_rfl) (by kernel_rfl) (fun _ _ _ h => h) (Or.inl ⟨by rfl, ?hy34⟩) (by assumption) ?rest34
              case hy34 =>
                intro w' hS
                go_simp
                try with_reducible rfl
              try simp only [Act.put, List.setIfInBounds_toArray, List.set_cons_zero, List.set_cons_succ]
              refine' wpAnyH_take (i := 35) (v := _) (op_at rfl) (by kernel_rfl) (by kernel_rfl) (by kernel_rfl) (fun _ _ _ h => h) (Or.inl ⟨by rfl, ?hy35⟩) (by assumption) ?rest35
              case hy35 =>
                intro w' hS
                go_simp
                try with_reducible rfl
              try simp only [Act.put, List.setIfInBounds_toArray, List.set_cons_zero, List.set_cons_succ]
              refine' wpAnyH_take (i := 36) (v := _) (op_at rfl) (by kernel_rfl) (by kernel_rfl) (by kernel_rfl) (fun _ _ _ h => h) (Or.inl ⟨by rfl, ?hy36⟩) (by assumption) ?rest36
              case hy36 =>
                intro w' hS
                go_simp
                try with_reducible rfl
              try simp only [Act.put, List.setIfInBounds_toArray, List.set_cons_zero, List.set_cons_succ]
              refine' wpAnyH_take (i := 37) (v := _) (op_at rfl) (by kernel_rfl) (by kernel_rfl) (by kernel_rfl) (fun _ _ _ h => h) (Or.inl ⟨by rfl, ?hy37⟩) (by assumption) ?rest37
              case hy37 =>
                intro w' hS
                go_simp
                try with_reducible rfl
              try simp only [Act.put, List.setIfInBounds_toArray, List.set_cons_zero, List.set_cons_succ]
              refine' wpAnyH_take (i := 38) (v := _) (op_at rfl) (by kernel_rfl) (by kernel_rfl) (by kernel_rfl) (fun _ _ _ h => h) (Or.inl ⟨by rfl, ?hy38⟩) (by assumption) ?rest38
              case hy38 =>
                intro w' hS
                go_simp
                try with_reducible rfl
              try simp only [Act.put, List.setIfInBounds_toArray, List.set_cons_zero, List.set_cons_succ]
              refine' wpAnyH_take (i := 39) (v := _) (op_at rfl) (by kernel_rfl) (by kernel_rfl) (by kernel_rfl) (fun _ _ _ h => h) (Or.inl ⟨by rfl, ?hy39⟩) (by assumption) ?rest39
              case hy39 =>
                intro w' hS
                go_simp
                try with_reducible rfl
              try simp only [Act.put, List.setIfInBounds_toArray, List.set_cons_zero, List.set_cons_succ]
              refine' wpAnyH_take (i := 40) (v := _) (op_at rfl) (by kernel_rfl) (by kernel_rfl) (by kernel_rfl) (fun _ _ _ h => h) (Or.inl ⟨by rfl, ?hy40⟩) (by assumption) ?rest40
              case hy40 =>
                intro w' hS
                go_simp
                try with_reducible rfl
              try simp only [Act.put, List.setIfInBounds_toArray, List.set_cons_zero, List.set_cons_succ]
              refine' wpAnyH_take (i := 41) (v := _) (op_at rfl) (by kernel_rfl) (by kernel_rfl) (by kernel_rfl) (fun _ _ _ h => h) (Or.inl ⟨by rfl, ?hy41⟩) (by assumption) ?rest41
              case hy41 =>
                intro w' hS
                obtain ⟨q0, q1⟩ := HK1.out w' (oKL.trans hS)
                go_simp
                try with_reducible rfl
              try simp only [Act.put, List.setIfInBounds_toArray, List.set_cons_zero, List.set_cons_succ]
              refine' wpAnyH_take (i := 43) (v := _) (op_at rfl) (by kernel_rfl) (by kernel_rfl) (by kernel_rfl) (fun _ _ _ h => h) (Or.inl ⟨by rfl, ?hy42⟩) (by assumption) ?rest42
              case hy42 =>
                intro w' hS
                go_simp
                try with_reducible rfl
              try simp only [Act.put, List.setIfInBounds_toArray, List.set_cons_zero, List.set_cons_succ]
              refine' wpAnyH_take (i := 44) (v := _) (op_at rfl) (by kernel_rfl) (by kernel_rfl) (by kernel_rfl) (fun _ _ _ h => h) (Or.inl ⟨by rfl, ?hy43⟩) (by assumption) ?rest43
              case hy43 =>
                intro w' hS
                go_simp
                try with_reducible rfl
              try simp only [Act.put, List.setIfInBounds_toArray, List.set_cons_zero, List.set_cons_succ]
              refine' wpAnyH_take (i := 45) (v := _) (op_at rfl) (by kernel_rfl) (by kernel_rfl) (by kernel_rfl) (fun _ _ _ h => h) (Or.inl ⟨by rfl, ?hy44⟩) (by assumption) ?rest44
              case hy44 =>
                intro w' hS
                go_simp
                try with_reducible rfl
              try simp only [Act.put, List.setIfInBounds_toArray, List.set_cons_zero, List.set_cons_succ]
              refine' wpAnyH_take (i := 46) (v := _) (op_at rfl) (by kernel_rfl) (by kernel_rfl) (by kernel_rfl) (fun _ _ _ h => h) (Or.inl ⟨by rfl, ?hy45⟩) (by assumption) ?rest45
              case hy45 =>
                intro w' hS
                have c0_ := (HC.out w' (oB.trans (oKL.trans hS))).1
                go_simp
                try with_reducible rfl
              try simp only [Act.put, List.setIfInBounds_toArray, List.set_cons_zero, List.set_cons_succ]
              refine' wpAnyH_take (i := 47) (v := _) (op_at rfl) (by kernel_rfl) (by kernel_rfl) (by kernel_rfl) (fun _ _ _ h => h) (Or.inl ⟨by rfl, ?hy46⟩) (by assumption) ?rest46
              case hy46 =>
                intro w' hS
                go_simp
                try with_reducible rfl
              try simp only [Act.put, List.setIfInBounds_toArray, List.set_cons_zero, List.set_cons_succ]
              refine' wpAnyH_take (i := 48) (v := _) (op_at rfl) (by kernel_rfl) (by kernel_rfl) (by kernel_rfl) (fun _ _ _ h => h) (Or.inl ⟨by rfl, ?hy47⟩) (by assumption) ?rest47
              case hy47 =>
                intro w' hS
                go_simp
                try with_reducible rfl
              try simp only [Act.put, List.setIfInBounds_toArray, List.set_cons_zero, List.set_cons_succ]
              refine' wpAnyH_take (i := 49) (v := _) (op_at rfl) (by kernel_rfl) (by kernel_rfl) (by kernel_rfl) (fun _ _ _ h => h) (Or.inl ⟨by rfl, ?hy48⟩) (by assumption) ?rest48
              case hy48 =>
                intro w' hS
                go_simp
                try with_reducible rfl
              try simp only [Act.put, List.setIfInBounds_toArray, List.set_cons_zero, List.set_cons_succ]
              refine' wpAnyH_take (i := 50) (v := _) (op_at rfl) (by kernel_rfl) (by kernel_rfl) (by kernel_rfl) (fun _ _ _ h => h) (Or.inl ⟨by rfl, ?hy49⟩) (by assumption) ?rest49
              case hy49 =>
                intro w' hS
                have c13_ := (HC.out w' (oB.trans (oKL.trans hS))).2.2.2
                go_simp
                try with_reducible rfl
              try simp only [Act.put, List.setIfInBounds_toArray, List.set_cons_zero, List.set_cons_succ]
              refine' wpAnyH_take (i := 51) (v := _) (op_at rfl) (by kernel_rfl) (by kernel_rfl) (by kernel_rfl) (fun _ _ _ h => h) (Or.inl ⟨by rfl, ?hy50⟩) (by assumption) ?rest50
              case hy50 =>
                intro w' hS
                go_simp
                try with_reducible rfl
              try simp only [Act.put, List.setIfInBounds_toArray, List.set_cons_zero, List.set_cons_succ]
              refine wpAnyH_ready (rs := [42]) (by kernel_rfl) (by simp) (AllReadyH.cons (op_at rfl) (fun K hK => ?_) AllReadyH.nil)
              go_simp
              refine (hle.out _ (oB.trans oKL)).mono fun e w42 hq => ?_
              obtain ⟨rfl, o42⟩ := hq
              go_wp2_with fail
              refine hK.out _ _ o42 (fun hHeld => ?_)
              clear hK K
              try simp only [Act.put, List.setIfInBounds_toArray, List.set_cons_zero, List.set_cons_succ]
              refine wpAnyH_more (S' := fun w' => Only w42 w' []) (fun w' h => Only.trans o42 h) _ _ _ _ ?_
              clear hHeld
              have hHeld : Only w42 w42 [] := Only.refl _ _
              have oKN := oKL.trans o42
              refine' wpAnyH_take (i := 52) (v := _) (op_at rfl) (by kernel_rfl) (by kernel_rfl) (by kernel_rfl) (fun _ _ _ h => h) (Or.inl ⟨by rfl, ?hy51⟩) (by assumption) ?rest51
              case hy51 =>
                intro w' hS
                go_simp
                try with_reducible rfl
              try simp only [Act.put, List.setIfInBounds_toArray, List.set_cons_zero, List.set_cons_succ]
              refine' wpAnyH_take (i := 53) (v := _) (op_at rfl) (by kernel_rfl) (by kernel_rfl) (by kernel_rfl) (fun _ _ _ h => h) (Or.inl ⟨by rfl, ?hy52⟩) (by assumption) ?rest52
              case hy52 =>
                intro w' hS
                go_simp
                try with_reducible rfl
              try simp only [Act.put, List.setIfInBounds_toArray, List.set_cons_zero, List.set_cons_succ]
              refine wpAnyH_done (by kernel_rfl) ?_ _
              go_wp2_with fail
              go_loopw [16] (fun x wk => ∃ z : Int, x = .int .i64 z ∧ 0 ≤ z ∧ z ≤ 4 ∧ Only wR wk []) (fun x _ => (4 - intOf x).toNat)
              case atStart => exact ⟨0, rfl, by omega, by omega, oKN⟩
              case round =>
                obtain ⟨z, rfl, hz0', hz4, oQ⟩ := hrel
                by_cases hzz : z < 4
                · have d2 : decide (z < 4) = true := by simpa using hzz
                  have oQD := oQ.trans (Only.drew wr [])
                  have haz := hal.out z
                  go_upto_region 26 with fail
                  refine wp_region_held_drew (S := fun w' => Only wr.drew w' []) (by kernel_rfl) (Only.refl _ _) (fun hHeld => ?_)
                  refine' wpAnyH_take (i := 0) (v := _) (op_at rfl) (by kernel_rfl) (by kernel_rfl) (by kernel_rfl) (fun _ _ _ h => h) (Or.inl ⟨by rfl, ?hy53⟩) (by assumption) ?rest53
                  case hy53 =>
                    intro w' hS
                    go_simp
                    try with_reducible rfl
                  try simp only [Act.put, List.setIfInBounds_toArray, List.set_cons_zero, List.set_cons_succ]
                  refine' wpAnyH_take (i := 1) (v := _) (op_at rfl) (by kernel_rfl) (by kernel_rfl) (by kernel_rfl) (fun _ _ _ h => h) (Or.inl ⟨by rfl, ?hy54⟩) (by assumption) ?rest54
                  case hy54 =>
                    intro w' hS
                    go_simp
                    try with_reducible rfl
                  try simp only [Act.put, List.setIfInBounds_toArray, List.set_cons_zero, List.set_cons_succ]
                  refine' wpAnyH_take (i := 2) (v := _) (op_at rfl) (by kernel_rfl) (by kernel_rfl) (by kernel_rfl) (fun _ _ _ h => h) (Or.inl ⟨by rfl, ?hy55⟩) (by assumption) ?rest55
                  case hy55 =>
                    intro w' hS
                    go_simp
                    try with_reducible rfl
                  try simp only [Act.put, List.setIfInBounds_toArray, List.set_cons_zero, List.set_cons_succ]
                  refine' wpAnyH_take (i := 3) (v := _) (op_at rfl) (by kernel_rfl) (by kernel_rfl) (by kernel_rfl) (fun _ _ _ h => h) (Or.inl ⟨by rfl, ?hy56⟩) (by assumption) ?rest56
                  case hy56 =>
                    intro w' hS
                    go_simp
                    try with_reducible rfl
                  try simp only [Act.put, List.setIfInBounds_toArray, List.set_cons_zero, List.set_cons_succ]
                  refine' wpAnyH_take (i := 4) (v := _) (op_at rfl) (by kernel_rfl) (by kernel_rfl) (by kernel_rfl) (fun _ _ _ h => h) (Or.inl ⟨by rfl, ?hy57⟩) (by assumption) ?rest57
                  case hy57 =>
                    intro w' hS
                    obtain ⟨q0, q1⟩ := HK1.out w' (oQD.trans hS)
                    go_simp
                    try with_reducible rfl
                  try simp only [Act.put, List.setIfInBounds_toArray, List.set_cons_zero, List.set_cons_succ]
                  refine' wpAnyH_take (i := 5) (v := _) (op_at rfl) (by kernel_rfl) (by kernel_rfl) (by kernel_rfl) (fun _ _ _ h => h) (Or.inl ⟨by rfl, ?hy58⟩) (by assumption) ?rest58
                  case hy58 =>
                    intro w' hS
                    go_simp
                    try with_reducible rfl
                  try simp only [Act.put, List.setIfInBounds_toArray, List.set_cons_zero, List.set_cons_succ]
                  refine' wpAnyH_take (i := 7) (v := _) (op_at rfl) (by kernel_rfl) (by kernel_rfl) (by kernel_rfl) (fun _ _ _ h => h) (Or.inl ⟨by rfl, ?hy59⟩) (by assumption) ?rest59
                  case hy59 =>
                    intro w' hS
                    go_simp
                    try with_reducible rfl
                  try simp only [Act.put, List.setIfInBounds_toArray, List.set_cons_zero, List.set_cons_succ]
                  refine' wpAnyH_take (i := 8) (v := _) (op_at rfl) (by kernel_rfl) (by kernel_rfl) (by kernel_rfl) (fun _ _ _ h => h) (Or.inl ⟨by rfl, ?hy60⟩) (by assumption) ?rest60
                  case hy60 =>
                    intro w' hS
                    go_simp
                    try with_reducible rfl
                  try simp only [Act.put, List.setIfInBounds_toArray, List.set_cons_zero, List.set_cons_succ]
                  refine' wpAnyH_take (i := 9) (v := _) (op_at rfl) (by kernel_rfl) (by kernel_rfl) (by kernel_rfl) (fun _ _ _ h => h) (Or.inl ⟨by rfl, ?hy61⟩) (by assumption) ?rest61
                  case hy61 =>
                    intro w' hS
                    go_simp
                    try with_reducible rfl
                  try simp only [Act.put, List.setIfInBounds_toArray, List.set_cons_zero, List.set_cons_succ]
                  refine' wpAnyH_take (i := 10) (v := _) (op_at rfl) (by kernel_rfl) (by kernel_rfl) (by kernel_rfl) (fun _ _ _ h => h) (Or.inl ⟨by rfl, ?hy62⟩) (by assumption) ?rest62
                  case hy62 =>
                    intro w' hS
                    go_simp
                    try with_reducible rfl
                  try simp only [Act.put, List.setIfInBounds_toArray, List.set_cons_zero, List.set_cons_succ]
                  refine' wpAnyH_take (i := 11) (v := _) (op_at rfl) (by kernel_rfl) (by kernel_rfl) (by kernel_rfl) (fun _ _ _ h => h) (Or.inl ⟨by rfl, ?hy63⟩) (by assumption) ?rest63
                  case hy63 =>
                    intro w' hS
                    obtain ⟨q0, q1⟩ := HK1.out w' (oQD.trans hS)
                    go_simp
                    try with_reducible rfl
                  try simp only [Act.put, List.setIfInBounds_toArray, List.set_cons_zero, List.set_cons_succ]
                  refine' wpAnyH_take (i := 12) (v := _) (op_at rfl) (by kernel_rfl) (by kernel_rfl) (by kernel_rfl) (fun _ _ _ h => h) (Or.inl ⟨by rfl, ?hy64⟩) (by assumption) ?rest64
                  case hy64 =>
                    intro w' hS
                    go_simp
                    try with_reducible rfl
                  try simp only [Act.put, List.setIfInBounds_toArray, List.set_cons_zero, List.set_cons_succ]
                  refine wpAnyH_ready (rs := [6]) (by kernel_rfl) (by simp) (AllReadyH.cons (op_at rfl) (fun K hK => ?_) AllReadyH.nil)
                  go_simp
                  refine (hau.out _ (oB.trans oQD) z).mono fun e wa hq => ?_
                  obtain ⟨aa, ca, rfl, sa⟩ := hq
                  go_wp2_with fail
                  refine hK.out _ _ sa.only (fun hHeld => ?_)
                  clear hK K
                  try simp only [Act.put, List.setIfInBounds_toArray, List.set_cons_zero, List.set_cons_succ]
                  refine wpAnyH_more (S' := fun w' => Only wa w' []) (fun w' h => Only.trans sa.only h) _ _ _ _ ?_
                  clear hHeld
                  have hHeld : Only wa wa [] := Only.refl _ _
                  have oQA := oQD.trans sa.only
                  have hra_ := show wa.ownsRow 0 30 2 (.slice aa (AUL z).length ca) (AUL z).length (fl wc (AUL z)) from sa.head
                  refine wpAnyH_ready (rs := [13]) (by kernel_rfl) (by simp) (AllReadyH.cons (op_at rfl) (fun K hK => ?_) AllReadyH.nil)
                  go_simp
                  refine (hra.out _ (oB.trans oQA) z).mono fun e wb hq => ?_
                  obtain ⟨ab, cb, rfl, sb⟩ := hq
                  go_wp2_with fail
                  refine hK.out _ _ sb.only (fun hHeld => ?_)
                  clear hK K
                  try simp only [Act.put, List.setIfInBounds_toArray, List.set_cons_zero, List.set_cons_succ]
                  refine wpAnyH_more (S' := fun w' => Only wb w' []) (fun w' h => Only.trans sb.only h) _ _ _ _ ?_
                  clear hHeld
                  have hHeld : Only wb wb [] := Only.refl _ _
                  have oQB := oQA.trans sb.only
                  have hrb_ := own_only hra_ sb.only (fun _ _ => by simp)
                  refine wpAnyH_ready (rs := [14]) (by kernel_rfl) (by simp) (AllReadyH.cons (op_at rfl) (fun K hK => ?_) AllReadyH.nil)
                  go_simp
                  refine (samewhos_any (.slice aa (AUL z).length ca) (.slice ab (AUL z).length cb) (AUL z) _ (own_src hrb_) (own_src sb.head) (by omega)).mono fun e wc_ hq => ?_
                  obtain ⟨rfl, o14⟩ := hq
                  go_wp2_with fail
                  refine hK.out _ _ o14 (fun hHeld => ?_)
                  clear hK K
                  try simp only [Act.put, List.setIfInBounds_toArray, List.set_cons_zero, List.set_cons_succ]
                  have oQE := oQB.trans o14
                  refine' wpAnyH_take (i := 15) (v := _) (op_at rfl) (by kernel_rfl) (by kernel_rfl) (by kernel_rfl) (fun _ _ _ h => h) (Or.inl ⟨by rfl, ?hy65⟩) (by assumption) ?rest65
                  case hy65 =>
                    intro w' hS
                    go_simp
                    try with_reducible rfl
                  try simp only [Act.put, List.setIfInBounds_toArray, List.set_cons_zero, List.set_cons_succ]
                  refine wpAnyH_done (by kernel_rfl) ?_ _
                  go_wp2_with fail
                  exact ⟨⟨z + 1, rfl, by omega, by omega, oQE⟩, by simp [intOf]; omega⟩
                · obtain rfl : z = 4 := by omega
                  have d2 : decide ((4 : Int) < 4) = false := by decide
                  go_wp2_with fail
                  go_roundw
                  case measure => simp [intOf]; omega
                  case rel => exact ⟨k + 1, by simp, by omega, oQ⟩
            · obtain rfl : k = l.length := by omega
              have d1 : decide ((l.length : Int) < l.length) = false := by simp
              go_wp2_with fail
              go_ret
              exact ⟨rfl, oB.trans oK⟩
end Go.Proofs.Yteljkfihmbddaaa
