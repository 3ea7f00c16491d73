/- bytes.Clone, bytes.Equal, slices.Clone at devices; IndexFunc at messages, find; count, Open, Lacking, Lose of layer 25 (model). Printed by gen_mo3.py. -/
import Derived.Test.YtjhhlgfbocpniaaMo2
namespace Go.Pw
open Go.RowKit
set_option linter.unusedVariables false
/-- A slice of records that is read: where they lie. -/
theorem src_rec {w : World} {ao : Option Addr} {c k : Nat} {α : Type} {enc : α → List Value} (hk : ∀ x, (enc x).length = k) (hk0 : 0 < k) {l : List α} (h : Src w (.slice ao l.length c) k l.length (fl enc l)) (hl : 0 < l.length) :
    ∃ b o, ao = some ⟨b, o, none⟩ ∧ ∀ w', Only w w' [] → ∀ m (hm : m < l.length), w'.rangeAt b (o + m * k) (enc l[m]) := by
  obtain ⟨ao', c', he, hc1, hc2, hc3, hc4, hc5⟩ := id h
  simp only [Value.slice.injEq] at he
  obtain ⟨rfl, _, rfl⟩ := he
  have hpos : 0 < l.length * k := Nat.mul_pos hl hk0
  cases ao with
  | none => have := (hc4 rfl).1; omega
  | some ad =>
    obtain ⟨b, o, sp⟩ := ad
    have hcz := hc5 _ rfl 0 (fl enc l)[0] (by simp)
    have hsp : sp = none := by simpa [Addr.add] using World.cell?_spot hcz
    subst hsp
    refine ⟨b, o, rfl, fun w' ho m hm j v hj => ?_⟩
    have hj' : j < k := by have := (List.getElem?_eq_some_iff.1 hj).1; rwa [hk] at this
    obtain ⟨ao', c', he, q1, q2, q3, q4, q5⟩ := h.off ho (fun _ _ _ => by simp)
    simp only [Value.slice.injEq] at he
    obtain ⟨rfl, _, rfl⟩ := he
    have := q5 _ rfl (m * k + j) v (by rw [fl_at hk hm hj']; exact hj)
    rwa [Addr.add_lit, ← Nat.add_assoc] at this
end Go.Pw
namespace Go.Proofs.Ytjhhlgfbocpniaa
open Go.RowKit Go.Pw
set_option linter.unusedVariables false
theorem u8_info : (Try.prog.info? 5).map (fun i => (i.zero, i.size, i.bytes)) = some (some (.int .u8 0), 1, 1) := by kernel_rfl
def noteZ : No := ⟨0, 0, 0, 0, .slice none 0 0, false, false, .slice none 0 0, .slice none 0 0, ⟨rfl, rfl, rfl⟩⟩
theorem note_info : (Try.prog.info? 50).map (fun i => (i.zero, i.size)) = some (some (.agg (nc noteZ).toArray), 9) := by kernel_rfl

/-- bclone. -/
theorem bclone_any (p : Value) (xs : List Int) (w : World) (hp : Pw.Src w p 1 xs.length (xs.map (Value.int .u8))) (hl : xs.length ≤ 1000000) :
    Calls Try.prog 17 #[p] w (fun e w' => ∃ ao c, e = .returned (.slice ao xs.length c) ∧ Sep w w' [row 5 1 (.slice ao xs.length c) xs.length (xs.map (Value.int .u8))]) := by
  obtain ⟨i0, hi, hz0, hz1, hz2⟩ := info_parts u8_info
  obtain ⟨ao, c, rfl, h1, h2, h3, h4, _⟩ := id hp
  have hn := Lib.run_eql_slice_nil (P := Try.prog) w 22 5 ao xs.length c 0 0 Try.underlying22
  cases ao with
  | none =>
    have h0 := (h4 rfl).1
    obtain rfl : xs = [] := List.eq_nil_of_length_eq_zero h0
    obtain rfl : c = 0 := (h4 rfl).2
    simp only [Option.isNone_none, List.length_nil] at hn ⊢
    clear hp h1 h2 h3 h4 h0 hl
    go_enter Try.func17, Try.ntmps17
    go_wp2
    go_ret
    exact ⟨_, _, rfl, (Sep.nil w).rown _ _⟩
  | some a =>
    simp only [Option.isNone_some] at hn
    have hs := hp.off (Only.alloc w (.cells #[] 5) []) (fun _ _ _ => by simp)
    have hown : (w.alloc (.cells #[] 5)).ownsRow 0 5 1 (.slice (some ⟨w.heap.size, 0, none⟩) 0 0) 0 [] := World.ownsRow_made w #[] 0 (Nat.zero_le _) (Nat.zero_le _) rfl
    have s0 : Sep w (w.alloc (.cells #[] 5)) [row 5 1 (.slice (some ⟨w.heap.size, 0, none⟩) 0 0) 0 []] := (Sep.nil w).add (Only.alloc w _ []) hown (fun k hk => by simp [row, Value.ownBlock] at hk; omega)
    clear hp hown h1 h2 h3 h4
    go_enter Try.func17, Try.ntmps17
    go_wp2_with (at_builtin; refine wpList_append_sep rfl _ _ 22 rfl 5 i0 (.int .u8 0) 1 1 Try.underlying22 hi hz0 hz1 hz2 rfl (by decide) (.slice (some ⟨w.heap.size, 0, none⟩) 0 0) 0 [] rfl s0 _ xs.length _ rfl hs (one_ints _ _) (by unfold maxLen; omega) (by omega) ?_; intro a7 c7 w7 o7 s7; simp only [Nat.zero_add, List.nil_append] at s7 ⊢)
    go_ret
    exact ⟨a7, c7, rfl, s7⟩

/-- wclone. -/
theorem wclone_any (p : Value) (xs : List (Int × Int)) (w : World) (hp : Pw.Src w p 2 xs.length (fl wc xs)) (hl : xs.length ≤ 1000000) :
    Calls Try.prog 20 #[p] w (fun e w' => ∃ ao c, e = .returned (.slice ao xs.length c) ∧ Sep w w' [row 27 2 (.slice ao xs.length c) xs.length (fl wc xs)]) := by
  obtain ⟨i0, hi, hz0, hz1, hz2⟩ := info_parts who_info
  obtain ⟨ao, c, rfl, h1, h2, h3, h4, _⟩ := id hp
  have hn := Lib.run_eql_slice_nil (P := Try.prog) w 32 27 ao xs.length c 0 0 Try.underlying32
  cases ao with
  | none =>
    have h0 := (h4 rfl).1
    obtain rfl : xs = [] := List.eq_nil_of_length_eq_zero h0
    obtain rfl : c = 0 := (h4 rfl).2
    simp only [Option.isNone_none, List.length_nil] at hn ⊢
    clear hp h1 h2 h3 h4 h0 hl
    go_enter Try.func20, Try.ntmps20
    go_wp2
    go_ret
    exact ⟨_, _, rfl, (Sep.nil w).rown _ _⟩
  | some a =>
    simp only [Option.isNone_some] at hn
    have hs := hp.off (Only.alloc w (.cells #[] 27) []) (fun _ _ _ => by simp)
    have hown : (w.alloc (.cells #[] 27)).ownsRow 0 27 2 (.slice (some ⟨w.heap.size, 0, none⟩) 0 0) 0 [] := World.ownsRow_made w #[] 0 (Nat.zero_le _) (Nat.zero_le _) rfl
    have s0 : Sep w (w.alloc (.cells #[] 27)) [row 27 2 (.slice (some ⟨w.heap.size, 0, none⟩) 0 0) 0 []] := (Sep.nil w).add (Only.alloc w _ []) hown (fun k hk => by simp [row, Value.ownBlock] at hk; omega)
    clear hp hown h1 h2 h3 h4
    go_enter Try.func20, Try.ntmps20
    go_wp2_with (at_builtin; refine wpList_append_sep rfl _ _ 32 rfl 27 i0 _ 2 16 Try.underlying32 hi hz0 hz1 hz2 rfl (by decide) (.slice (some ⟨w.heap.size, 0, none⟩) 0 0) 0 [] rfl s0 _ xs.length _ rfl hs (fl_one wc_one _) (by unfold maxLen; omega) (by omega) ?_; intro a7 c7 w7 o7 s7; simp only [Nat.zero_add, List.nil_append] at s7 ⊢)
    go_ret
    exact ⟨a7, c7, rfl, s7⟩

theorem bequal_same (a b : Value) (xs : List Int) (w : World) (ha : Pw.Src w a 1 xs.length (xs.map (Value.int .u8))) (hb : Pw.Src w b 1 xs.length (xs.map (Value.int .u8))) :
    Calls Try.prog 24 #[a, b] w fun e w' => e = .returned (.bool true) ∧ w = w' := by
  obtain ⟨ao, c, rfl, _⟩ := id ha
  obtain ⟨bo, c', rfl, _⟩ := id hb
  have hsa := run_str (P := Try.prog) (S := 22) (T := 9) Try.underlying22 Try.underlying5 Try.underlying9 ha rfl
  have hsb := run_str (P := Try.prog) (S := 22) (T := 9) Try.underlying22 Try.underlying5 Try.underlying9 hb rfl
  clear ha hb
  go_enter Try.func24, Try.ntmps24
  go_wp2
  go_ret
  exact ⟨rfl, rfl⟩

/-- Messages that are read. -/
def idxN (pd : No → Bool) (l : List No) : Int := if l.findIdx pd < l.length then (l.findIdx pd : Int) else -1
def ClosN (F : Nat) (caps : Array Value) (pd : No → Bool) (w : World) : Prop := ∀ x w', Only w w' [] → Calls Try.prog F (#[.agg (nc x).toArray] ++ caps) w' fun e w'' => e = .returned (.bool (pd x)) ∧ Only w' w'' []
def ClosW (F : Nat) (caps : Array Value) (pd : Int × Int → Bool) (w : World) : Prop := ∀ x w', Only w w' [] → Calls Try.prog F (#[.agg (wc x).toArray] ++ caps) w' fun e w'' => e = .returned (.bool (pd x)) ∧ Only w' w'' []

set_option maxRecDepth 100000 in
set_option maxHeartbeats 1600000 in
theorem nindex_any (A C : Nat) (pd : No → Bool) (v : Value) (l : List No) (w : World) (h : Pw.Src w v 9 l.length (fl nc l)) (hl : l.length ≤ 1000) (hF : ClosN 32 #[.pointer (some ⟨A, 0, none⟩), .pointer (some ⟨C, 0, none⟩)] pd w) :
    Calls Try.prog 31 #[v, .func (.func 32) #[] #[.pointer (some ⟨A, 0, none⟩), .pointer (some ⟨C, 0, none⟩)]] w fun e w' => e = .returned (.int .i64 (idxN pd l)) ∧ Only w w' [] := by
  obtain ⟨ao, c, rfl, _⟩ := id h
  have HS := fun (hp : 0 < l.length) => src_rec nc_len (by decide) h hp
  clear h
  go_enter Try.func31, Try.ntmps31
  go_wp2_with fail
  go_loopw [8] (fun i wr => ∃ k : Nat, i = .int .i64 k ∧ k ≤ l.length ∧ Hid (∀ j (hj : j < k), ∀ x, l[j]? = some x → pd x = false) ∧ Only w wr []) (fun i _ => l.length - (intOf i).toNat)
  case atStart => exact ⟨0, rfl, Nat.zero_le _, fun j hj => by omega, Only.refl _ _⟩
  case round =>
    obtain ⟨k, rfl, hk, hq, ho⟩ := hrel
    by_cases hkl : k < l.length
    · obtain ⟨b, o, rfl, hr⟩ := HS (by omega)
      have hrng := hr wr ho k hkl
      have hlk : l[k]? = some l[k] := List.getElem?_eq_getElem hkl
      have hFx := hF l[k] wr ho
      generalize l[k] = x at *
      have hll := nc_len x
      have Hlk := Lib.hid hlk
      clear hlk HS hr
      have d1 : decide ((k : Int) < l.length) = true := by simpa using hkl
      cases hx : pd x with
      | true =>
        have hfin : Hid (idxN pd l = k) := by
          have e : l.findIdx pd = k := by
            rw [List.findIdx_eq hkl]
            have hlk := Hlk.out
            rw [List.getElem?_eq_getElem hkl] at hlk
            refine ⟨by rw [Option.some.inj hlk]; exact hx, fun j hj => ?_⟩
            have hjl : j < l.length := by omega
            exact hq.out j hj l[j] (List.getElem?_eq_getElem hjl)
          show idxN pd l = _
          rw [idxN, e, if_pos hkl]
        generalize nc x = cs at *
        go_wp2_with (refine wpList_load_mid rfl 50 _ rfl b (o + k * 9) rfl cs _ hrng Try.underlying50 (by rfl) (by rw [hll]; kernel_rfl) ?_)
        refine hFx.mono ?_
        rw [hx]
        rintro e w2 ⟨rfl, ho2⟩
        go_wp2_with fail
        go_ret
        exact ⟨by rw [hfin.out]; rfl, ho.trans ho2⟩
      | false =>
        have hq2 : Hid (∀ j (hj : j < k + 1), ∀ x, l[j]? = some x → pd x = false) := by
          intro j hj y hy
          by_cases hjk : j = k
          · subst hjk
            rw [Hlk.out] at hy
            cases hy
            exact hx
          · exact hq.out j (by omega) y hy
        generalize nc x = cs at *
        go_wp2_with (refine wpList_load_mid rfl 50 _ rfl b (o + k * 9) rfl cs _ hrng Try.underlying50 (by rfl) (by rw [hll]; kernel_rfl) ?_)
        refine hFx.mono ?_
        rw [hx]
        rintro e w2 ⟨rfl, ho2⟩
        go_wp2_with fail
        refine ⟨⟨k + 1, by simp, by omega, hq2.out, ho.trans ho2⟩, by simp [intOf]; omega⟩
    · obtain rfl : k = l.length := by omega
      have d1 : decide ((l.length : Int) < l.length) = false := by simp
      have hfin : Hid (idxN pd l = -1) := by
        show idxN pd l = _
        refine if_neg fun hh => ?_
        have := List.findIdx_getElem (w := hh)
        have h1 := hq.out _ hh l[l.findIdx pd] (List.getElem?_eq_getElem hh)
        exact absurd (this.symm.trans h1) (by simp)
      go_wp2_with fail
      go_ret
      exact ⟨by rw [hfin.out]; rfl, ho⟩

/-- Is it that message? -/
def isN (u d n : Int) (x : No) : Bool := x.fu == u && x.fd == d && x.n == n
set_option maxRecDepth 100000 in
set_option maxHeartbeats 1600000 in
theorem clos_find (A C : Nat) (u d n : Int) (w : World) (hA : w.heap[A]? = some (.cells #[.int .i64 u, .int .i64 d] 27 (0, 0))) (hC : w.heap[C]? = some (.cells #[.int .u32 n] 31 (0, 0))) :
    ClosN 32 #[.pointer (some ⟨A, 0, none⟩), .pointer (some ⟨C, 0, none⟩)] (isN u d n) w := fun x w' ho => by
  have hA := ho.at hA (by simp)
  have hC := ho.at hC (by simp)
  have h0 : (nc x).toArray[0]? = some (.int .i64 x.fu) := rfl
  have h1 : (nc x).toArray[1]? = some (.int .i64 x.fd) := rfl
  have h2 : (nc x).toArray[2]? = some (.int .u32 x.n) := rfl
  show Calls _ _ #[.agg (nc x).toArray, .pointer (some ⟨A, 0, none⟩), .pointer (some ⟨C, 0, none⟩)] _ _
  generalize nc x = cs at *
  go_enter Try.func32, Try.ntmps32
  go_wp2_with (refine wpList_box_new rfl 50 _ rfl (.agg cs.toArray) rfl ?_; intro X wX oX hXl hX; have hx0 := (cell_in hX 0).trans h0; have hx1 := (cell_in hX 1).trans h1; have hx2 := (cell_in hX 2).trans h2; have hAX := oX.at hA (by simp); have ha0 := cell_two0 hAX; have ha1 := cell_two1 hAX; have hCX := oX.at hC (by simp); have hc0 := cell_of_one hCX; clear hX)
  all_goals (go_ret; refine ⟨?_, oX⟩; simp_all [isN])

set_option maxRecDepth 100000 in
set_option maxHeartbeats 1600000 in
theorem find_any {w0 : World} {rs : List Res} (B : Nat) (on : List (Int × Int)) (cs : List Int) (v nv : Value) (ns : List No) (u d n : Int) (w : World) (h : Sep w0 w (modR B v on cs nv ns rs)) (hc8 : cs.length = 8) (hl : ns.length ≤ 1000) :
    Calls Try.prog 18 #[.pointer (some ⟨B, 0, none⟩), wv u d, .int .u32 n] w fun e w' => e = .returned (.int .i64 (idxN (isN u d n) ns)) ∧ Only w w' [] := by
  have hB := fun (w' : World) (o : Only w w' []) => ((cell_in (show w'.heap[B]? = _ from (h.quiet o).tail.head) 9).trans (mb_9 v cs nv hc8))
  have hN := fun (w' : World) (o : Only w w' []) => own_src (show w'.ownsRow 0 50 9 nv ns.length (fl nc ns) from (h.quiet o).tail.tail.head)
  obtain ⟨ao, c, rfl⟩ := own_slice (show w.ownsRow 0 50 9 nv ns.length (fl nc ns) from h.tail.tail.head)
  clear h
  simp only [wv] at *
  go_enter Try.func18, Try.ntmps18
  go_wp2_with (first
    | (refine wpList_box_new rfl 27 _ rfl (.agg #[.int .i64 u, .int .i64 d]) rfl ?_; intro Z wZ oZ hZl hZ)
    | (refine wpList_box_new rfl 31 _ rfl (.int .u32 n) rfl ?_; intro Y wY oY hYl hY; have hZY := oY.at hZ (by simp); have hBc := hB wY (oZ.trans oY); clear hB))
  refine (nindex_any Z Y (isN u d n) _ ns _ (hN _ (oZ.trans oY)) hl (clos_find Z Y u d n _ hZY hY)).mono ?_
  rintro e w1 ⟨rfl, o1⟩
  clear hBc hN
  go_wp2_with fail
  go_ret
  exact ⟨rfl, (oZ.trans oY).trans o1⟩

theorem flen_snoc {α : Type} (f : α → Bool) (l : List α) (k : Nat) (hk : k < l.length) : ((l.take (k + 1)).filter f).length = ((l.take k).filter f).length + (if f l[k] = true then 1 else 0) := by
  rw [List.take_succ_eq_append_getElem hk, filter_snoc, List.length_append]
  split <;> rfl

set_option maxRecDepth 100000 in
set_option maxHeartbeats 1600000 in
theorem ncount_any (pd : No → Bool) (v : Value) (l : List No) (w : World) (h : Pw.Src w v 9 l.length (fl nc l)) (hl : l.length ≤ 1000) (hF : ClosN 26 #[] pd w) :
    Calls Try.prog 25 #[v, .func (.func 26) #[] #[]] w fun e w' => e = .returned (.int .i64 (l.filter pd).length) ∧ Only w w' [] := by
  obtain ⟨ao, c, rfl, _⟩ := id h
  have HS := fun (hp : 0 < l.length) => src_rec nc_len (by decide) h hp
  clear h
  go_enter Try.func25, Try.ntmps25
  go_wp2_with fail
  go_loopw [5, 10] (fun n i wr => ∃ k m : Nat, n = .int .i64 m ∧ i = .int .i64 k ∧ k ≤ l.length ∧ Hid (m = ((l.take k).filter pd).length) ∧ m ≤ k ∧ Only w wr []) (fun _ i _ => l.length - (intOf i).toNat)
  case atStart => exact ⟨0, 0, rfl, rfl, Nat.zero_le _, rfl, Nat.le_refl _, Only.refl _ _⟩
  case round =>
    obtain ⟨k, m, rfl, rfl, hk, hm, hmk, ho⟩ := hrel
    by_cases hkl : k < l.length
    · obtain ⟨b, o, rfl, hr⟩ := HS (by omega)
      have hrng := hr wr ho k hkl
      have hfl := Lib.hid (flen_snoc pd l k hkl)
      have hFx := fun w' (o : Only wr w' []) => hF l[k] w' (ho.trans o)
      generalize l[k] = x at *
      have hll := nc_len x
      have h1c := nc_arr x
      clear HS hr
      have d1 : decide ((k : Int) < l.length) = true := by simpa using hkl
      generalize nc x = cs at *
      go_wp2_with (first
        | (refine wpList_load_mid rfl 50 _ rfl b (o + k * 9) rfl cs _ hrng Try.underlying50 (by rfl) (by rw [hll]; kernel_rfl) ?_)
        | (refine wpList_alloc_new rfl 50 rfl (.agg (nc noteZ).toArray) (fun _ => by kernel_rfl) ?_; intro X wX oX hXl hX)
        | (refine wpList_store_blk rfl 50 _ _ rfl X cs rfl rfl hX (by rw [hll]; rfl) (by rw [hll]; kernel_rfl) h1c ?_; intro wY oY hY; have oXY := oX.new oY (fun i hi => by simp only [List.mem_singleton] at hi; omega); clear hX oX oY)
        | (refine wpList_load_blk rfl 50 _ rfl X rfl cs _ hY Try.underlying50 (by rfl) (by rw [hll]; kernel_rfl) ?_; clear hY))
      refine (hFx _ oXY).mono ?_
      cases hx : pd x with
      | true =>
        have hm2 : Hid (m + 1 = ((l.take (k + 1)).filter pd).length) := by
          show _ = _
          rw [hfl.out, ← hm.out, if_pos hx]
        rintro e w2 ⟨rfl, ho2⟩
        clear hx hfl hm
        go_wp2_with fail
        refine ⟨⟨k + 1, m + 1, by simp, by simp, by omega, hm2.out, by omega, (ho.trans oXY).trans ho2⟩, by simp [intOf]; omega⟩
      | false =>
        have hm2 : Hid (m = ((l.take (k + 1)).filter pd).length) := by
          show _ = _
          rw [hfl.out, ← hm.out, if_neg (by rw [hx]; simp)]; rfl
        rintro e w2 ⟨rfl, ho2⟩
        clear hx hfl hm
        go_wp2_with fail
        refine ⟨⟨k + 1, m, by simp, by simp, by omega, hm2.out, by omega, (ho.trans oXY).trans ho2⟩, by simp [intOf]; omega⟩
    · obtain rfl : k = l.length := by omega
      have d1 : decide ((l.length : Int) < l.length) = false := by simp
      have hm2 : Hid ((l.filter pd).length = m) := by
        show _ = _
        rw [hm.out, List.take_length]
      clear hm
      go_wp2_with fail
      go_ret
      exact ⟨by rw [hm2.out]; rfl, ho⟩

set_option maxRecDepth 100000 in
set_option maxHeartbeats 1600000 in
theorem wcount_any (A C : Nat) (pd : Int × Int → Bool) (v : Value) (l : List (Int × Int)) (w : World) (h : Pw.Src w v 2 l.length (fl wc l)) (hl : l.length ≤ 1000) (hF : ClosW 22 #[.pointer (some ⟨A, 0, none⟩), .pointer (some ⟨C, 0, none⟩)] pd w) :
    Calls Try.prog 21 #[v, .func (.func 22) #[] #[.pointer (some ⟨A, 0, none⟩), .pointer (some ⟨C, 0, none⟩)]] w fun e w' => e = .returned (.int .i64 (l.filter pd).length) ∧ Only w w' [] := by
  obtain ⟨ao, c, rfl, _⟩ := id h
  have HS := fun (hp : 0 < l.length) => src_rec wc_len (by decide) h hp
  clear h
  go_enter Try.func21, Try.ntmps21
  go_wp2_with fail
  go_loopw [5, 10] (fun n i wr => ∃ k m : Nat, n = .int .i64 m ∧ i = .int .i64 k ∧ k ≤ l.length ∧ Hid (m = ((l.take k).filter pd).length) ∧ m ≤ k ∧ Only w wr []) (fun _ i _ => l.length - (intOf i).toNat)
  case atStart => exact ⟨0, 0, rfl, rfl, Nat.zero_le _, rfl, Nat.le_refl _, Only.refl _ _⟩
  case round =>
    obtain ⟨k, m, rfl, rfl, hk, hm, hmk, ho⟩ := hrel
    by_cases hkl : k < l.length
    · obtain ⟨b, o, rfl, hr⟩ := HS (by omega)
      have hrng := hr wr ho k hkl
      have hfl := Lib.hid (flen_snoc pd l k hkl)
      have hFx := fun w' (o : Only wr w' []) => hF l[k] w' (ho.trans o)
      generalize l[k] = x at *
      have hll := wc_len x
      have h1c := wc_arr x
      clear HS hr
      have d1 : decide ((k : Int) < l.length) = true := by simpa using hkl
      generalize wc x = cs at *
      go_wp2_with (first
        | (refine wpList_load_mid rfl 27 _ rfl b (o + k * 2) rfl cs _ hrng Try.underlying27 (by rfl) (by rw [hll]; kernel_rfl) ?_)
        | (refine wpList_alloc_new rfl 27 rfl (.agg #[.int .i64 0, .int .i64 0]) (fun _ => by kernel_rfl) ?_; intro X wX oX hXl hX)
        | (refine wpList_store_blk rfl 27 _ _ rfl X cs rfl rfl hX (by rw [hll]; rfl) (by rw [hll]; kernel_rfl) h1c ?_; intro wY oY hY; have oXY := oX.new oY (fun i hi => by simp only [List.mem_singleton] at hi; omega); clear hX oX oY)
        | (refine wpList_load_blk rfl 27 _ rfl X rfl cs _ hY Try.underlying27 (by rfl) (by rw [hll]; kernel_rfl) ?_; clear hY))
      refine (hFx _ oXY).mono ?_
      cases hx : pd x with
      | true =>
        have hm2 : Hid (m + 1 = ((l.take (k + 1)).filter pd).length) := by
          show _ = _
          rw [hfl.out, ← hm.out, if_pos hx]
        rintro e w2 ⟨rfl, ho2⟩
        clear hx hfl hm
        go_wp2_with fail
        refine ⟨⟨k + 1, m + 1, by simp, by simp, by omega, hm2.out, by omega, (ho.trans oXY).trans ho2⟩, by simp [intOf]; omega⟩
      | false =>
        have hm2 : Hid (m = ((l.take (k + 1)).filter pd).length) := by
          show _ = _
          rw [hfl.out, ← hm.out, if_neg (by rw [hx]; simp)]; rfl
        rintro e w2 ⟨rfl, ho2⟩
        clear hx hfl hm
        go_wp2_with fail
        refine ⟨⟨k + 1, m, by simp, by simp, by omega, hm2.out, by omega, (ho.trans oXY).trans ho2⟩, by simp [intOf]; omega⟩
    · obtain rfl : k = l.length := by omega
      have d1 : decide ((l.length : Int) < l.length) = false := by simp
      have hm2 : Hid ((l.filter pd).length = m) := by
        show _ = _
        rw [hm.out, List.take_length]
      clear hm
      go_wp2_with fail
      go_ret
      exact ⟨by rw [hm2.out]; rfl, ho⟩

theorem clos_open (w : World) : ClosN 26 #[] (fun x => !x.tk && !x.ls) w := fun x w' ho => by
  have h5 : (nc x).toArray[5]? = some (.bool x.tk) := rfl
  have h6 : (nc x).toArray[6]? = some (.bool x.ls) := rfl
  simp only [Array.append_empty]
  generalize nc x = cs at *
  generalize x.tk = b1 at *
  generalize x.ls = b2 at *
  cases b1 with
  | true =>
    go_enter Try.func26, Try.ntmps26
    go_wp2_with (refine wpList_box_new rfl 50 _ rfl (.agg cs.toArray) rfl ?_; intro X wX oX hXl hX; have hx5 := (cell_in hX 5).trans h5; have hx6 := (cell_in hX 6).trans h6; clear hX)
    go_ret
    exact ⟨rfl, oX⟩
  | false =>
    go_enter Try.func26, Try.ntmps26
    go_wp2_with (refine wpList_box_new rfl 50 _ rfl (.agg cs.toArray) rfl ?_; intro X wX oX hXl hX; have hx5 := (cell_in hX 5).trans h5; have hx6 := (cell_in hX 6).trans h6; clear hX)
    go_ret
    exact ⟨by simp, oX⟩

set_option maxRecDepth 100000 in
set_option maxHeartbeats 1600000 in
theorem open_any {w0 : World} {rs : List Res} (B : Nat) (on : List (Int × Int)) (cs : List Int) (v nv : Value) (ns : List No) (w : World) (h : Sep w0 w (modR B v on cs nv ns rs)) (hc8 : cs.length = 8) (hl : ns.length ≤ 1000) :
    Calls Try.prog 12 #[.pointer (some ⟨B, 0, none⟩)] w fun e w' => e = .returned (.int .i64 (ns.filter fun x => !x.tk && !x.ls).length) ∧ Only w w' [] := by
  have hB := ((cell_in (show w.heap[B]? = _ from h.tail.head) 9).trans (mb_9 v cs nv hc8))
  have H := ncount_any (fun x => !x.tk && !x.ls) nv ns w (own_src (show w.ownsRow 0 50 9 nv ns.length (fl nc ns) from h.tail.tail.head)) hl (clos_open w)
  obtain ⟨ao, c, rfl⟩ := own_slice (show w.ownsRow 0 50 9 nv ns.length (fl nc ns) from h.tail.tail.head)
  clear h
  go_enter Try.func12, Try.ntmps12
  go_wp2_with fail
  refine H.mono ?_
  rintro e w1 ⟨rfl, o1⟩
  clear hB
  go_wp2_with fail
  go_ret
  exact ⟨rfl, o1⟩

/-- Hasn't it come to a device that is there? -/
def lack (on came : List (Int × Int)) (p : Int × Int) : Bool := hasW on p.1 p.2 && !hasW came p.1 p.2
set_option maxRecDepth 100000 in
set_option maxHeartbeats 1600000 in
theorem clos_lack {w0 : World} {rs : List Res} (A X B : Nat) (on came : List (Int × Int)) (cs : List Int) (v nv : Value) (x : No) (w : World) (hA : w.heap[A]? = some (.cells #[.pointer (some ⟨B, 0, none⟩)] 24 (0, 0))) (hX : w.heap[X]? = some (.cells (nc x).toArray 50 (0, 0)))
    (h : Sep w0 w (row 27 2 v on.length (fl wc on) :: blk B (mb v cs nv) 44 :: row 27 2 x.cv came.length (fl wc came) :: rs)) (hl : on.length ≤ 1000) (hc : came.length ≤ 1000) :
    ClosW 22 #[.pointer (some ⟨A, 0, none⟩), .pointer (some ⟨X, 0, none⟩)] (lack on came) w := fun p w' ho => by
  have h7 : (nc x).toArray[7 + 1]? = some x.cv := rfl
  have His := fun (w' : World) (o : Only w w' []) => is_any B on cs v nv p.1 p.2 w' (h.quiet o) hl
  have Hco := fun (w' : World) (o : Only w w' []) => contains_any came x.cv p.1 p.2 w' (show w'.ownsRow 0 27 2 x.cv came.length (fl wc came) from (h.quiet o).tail.tail.head) hc
  obtain ⟨ao, c, hcv⟩ := own_slice (show w.ownsRow 0 27 2 x.cv came.length (fl wc came) from h.tail.tail.head)
  have hA := ho.at hA (by simp)
  have hX := ho.at hX (by simp)
  rw [hcv] at h7 Hco
  show Calls _ _ #[.agg #[.int .i64 p.1, .int .i64 p.2], .pointer (some ⟨A, 0, none⟩), .pointer (some ⟨X, 0, none⟩)] _ _
  unfold lack
  simp only [wv] at *
  generalize nc x = cx at *
  clear h hcv
  generalize p.1 = u at *
  generalize p.2 = d at *
  cases h1 : hasW on u d with
  | false =>
    rw [h1] at His
    go_enter Try.func22, Try.ntmps22
    go_wp2_with (refine wpList_box_new rfl 27 _ rfl (.agg #[.int .i64 u, .int .i64 d]) rfl ?_; intro Z wZ oZ hZl hZ; have hz0 := cell_two0 hZ; have hz1 := cell_two1 hZ; have hA0 := cell_of_one (oZ.at hA (by simp)))
    refine (His _ (ho.trans oZ)).mono ?_
    rintro e w1 ⟨rfl, o1⟩
    clear hz0 hz1 hA0
    go_wp2_with fail
    go_ret
    exact ⟨by simp, oZ.trans o1⟩
  | true =>
    rw [h1] at His
    go_enter Try.func22, Try.ntmps22
    go_wp2_with (refine wpList_box_new rfl 27 _ rfl (.agg #[.int .i64 u, .int .i64 d]) rfl ?_; intro Z wZ oZ hZl hZ; have hz0 := cell_two0 hZ; have hz1 := cell_two1 hZ; have hA0 := cell_of_one (oZ.at hA (by simp)))
    refine (His _ (ho.trans oZ)).mono ?_
    rintro e w1 ⟨rfl, o1⟩
    have hZ1 := o1.at hZ (by simp)
    have hX1 := (oZ.trans o1).at hX (by simp)
    have hx7 := (cell_in hX1 8).trans h7
    clear hz0 hz1 hA0
    have hz0 := cell_two0 hZ1
    have hz1 := cell_two1 hZ1
    go_wp2_with fail
    refine (Hco _ ((ho.trans oZ).trans o1)).mono ?_
    rintro e w2 ⟨rfl, o2⟩
    clear hz0 hz1 hx7
    go_wp2_with fail
    go_ret
    exact ⟨by simp, (oZ.trans o1).trans o2⟩

set_option maxRecDepth 100000 in
set_option maxHeartbeats 1600000 in
theorem lacking_one {w0 : World} {rs : List Res} (B : Nat) (on all came : List (Int × Int)) (cs : List Int) (v nv : Value) (x : No) (w : World) (h : Sep w0 w (modR B v on cs nv [x] (row 27 2 x.av all.length (fl wc all) :: row 27 2 x.cv came.length (fl wc came) :: rs))) (hc8 : cs.length = 8) (hl : on.length ≤ 1000) (hal : all.length ≤ 1000) (hcl : came.length ≤ 1000) :
    Calls Try.prog 9 #[.pointer (some ⟨B, 0, none⟩)] w fun e w' => e = .returned (.int .i64 (all.filter (lack on came)).length) ∧ Only w w' [] := by
  have hB := fun (w' : World) (o : Only w w' []) => ((cell_in (show w'.heap[B]? = _ from (h.quiet o).tail.head) 9).trans (mb_9 v cs nv hc8))
  obtain ⟨an, cn, rfl⟩ := own_slice (show w.ownsRow 0 50 9 nv ([x] : List No).length (fl nc [x]) from h.tail.tail.head)
  obtain ⟨g, rfl, _⟩ := own_some (show w.ownsRow 0 50 9 (.slice an ([x] : List No).length cn) ([x] : List No).length (fl nc [x]) from h.tail.tail.head) (by simp)
  have hrng := fun (w' : World) (o : Only w w' []) => rec_range nc_len (show w'.ownsRow 0 50 9 (.slice (some ⟨g, 0, none⟩) ([x] : List No).length cn) ([x] : List No).length (fl nc [x]) from (h.quiet o).tail.tail.head) (m := 0) (by simp)
  have hall := fun (w' : World) (o : Only w w' []) => own_src (show w'.ownsRow 0 27 2 x.av all.length (fl wc all) from (h.quiet o).tail.tail.tail.head)
  obtain ⟨ao, c, hav⟩ := own_slice (show w.ownsRow 0 27 2 x.av all.length (fl wc all) from h.tail.tail.tail.head)
  have h6 : (nc x).toArray[6 + 1]? = some x.av := rfl
  rw [hav] at h6 hall
  have hcl2 := fun (A X : Nat) (w' : World) (o : Only w w' []) hA hX => clos_lack A X B on came cs v (.slice (some ⟨g, 0, none⟩) ([x] : List No).length cn) x w' hA hX ((h.quiet o).sel 5 [0, 1, 4]) hl hcl
  simp only [List.getElem_cons_zero, List.length_singleton] at *
  have hll := nc_len x
  have h1c := nc_arr x
  clear h hav
  generalize nc x = cx at *
  have hW := fun (A X : Nat) (w' : World) (o : Only w w' []) hA hX => wcount_any A X (lack on came) _ all w' (hall w' o) hal (hcl2 A X w' o hA hX)
  obtain ⟨nn, hnn⟩ : ∃ nn, nn = (all.filter (lack on came)).length := ⟨_, rfl⟩
  have hnb : nn ≤ 1000 := by have := List.length_filter_le (lack on came) all; omega
  rw [← hnn] at hW ⊢
  clear hcl2 hall hnn
  go_enter Try.func9, Try.ntmps9
  go_wp2_with (refine wpList_box_new rfl 24 _ rfl (.pointer (some ⟨B, 0, none⟩)) rfl ?_; intro A wA oA hAl hA; have hA0 := cell_of_one hA; have hBc := hB wA oA; clear hB)
  clear hA0 hBc
  go_loopw [3, 14] (fun n i wr => ((n = .int .i64 0 ∧ i = .int .i64 0) ∨ (n = .int .i64 (nn : Int) ∧ i = .int .i64 1)) ∧ Only w wr [] ∧ Only wA wr []) (fun _ i _ => 1 - (intOf i).toNat)
  case atStart => exact ⟨.inl ⟨rfl, rfl⟩, oA, Only.refl _ _⟩
  case round =>
    obtain ⟨⟨rfl, rfl⟩ | ⟨rfl, rfl⟩, ho, hoA⟩ := hrel
    · have hr := hrng wr ho
      have hAr := hoA.at hA (by simp)
      clear hrng hA
      go_wp2_with (first
        | (refine wpList_load_mid rfl 50 _ rfl g (0 * 9) rfl cx _ hr Try.underlying50 (by rfl) (by rw [hll]; kernel_rfl) ?_)
        | (refine wpList_alloc_new rfl 50 rfl (.agg (nc noteZ).toArray) (fun _ => by kernel_rfl) ?_; intro X wX oX hXl hX)
        | (refine wpList_store_blk rfl 50 _ _ rfl X cx rfl rfl hX (by rw [hll]; rfl) (by rw [hll]; kernel_rfl) h1c ?_; intro wY oY hY; have oXY := oX.new oY (fun i hi => by simp only [List.mem_singleton] at hi; omega); have hx6 := (cell_in hY 7).trans h6; clear hX oX oY hr))
      have hAY := oXY.at hAr (by simp)
      refine (hW A X _ (ho.trans oXY) hAY hY).mono ?_
      rintro e w2 ⟨rfl, o2⟩
      clear hx6 hW
      go_wp2_with fail
      refine ⟨⟨.inr ⟨by simp, rfl⟩, (ho.trans oXY).trans o2, (hoA.trans oXY).trans o2⟩, by simp [intOf]⟩
    · clear hW
      go_wp2_with fail
      go_ret
      exact ⟨rfl, ho⟩

end Go.Proofs.Ytjhhlgfbocpniaa
