/- Readers (Count, Num of eight), IndexFunc and find at skipped keys and at sessions. Printed by gen_rb6.py. -/
import Derived.Test.YtdlbkdnpbcpjfaaRb5
import Derived.Test.YtdlbkdnpbcpjfaaPc
set_option linter.unusedSimpArgs false
set_option linter.unusedVariables false
namespace Go.Proofs.Ytdlbkdnpbcpjfaa
open Go.RowKit Go.Pw
set_option linter.unusedVariables false

def pC (most : Int) (s : List Int × Bool) : Int × List Int × Bool :=
  let r := RN 2 s.1 s.2
  (CV most r.1, r.2.1, FB r.2.2 most r.1)
def p8 (s : List Int × Bool) : Int × List Int × Bool := RN 8 s.1 s.2
theorem rcount_rt {R : Nat} {p : Value} {s : List Int × Bool} {W w : World} (h : RT R p s W w) (most : Int) (hm : 0 ≤ most ∧ most ≤ 65536) :
    Calls Try.prog 49 #[.pointer (some ⟨R, 0, none⟩), .int .i64 most] w fun e w' => ∃ n : Nat, ∃ s', Hid (pC most s = ((n : Int), s')) ∧ e = .returned (.int .i64 n) ∧ (n : Int) ≤ most ∧ RT R p s' W w' := by
  obtain ⟨⟨p1, h1, h2⟩, h3⟩ := id h.rs
  have h4 := h.len
  have hb : 0 ≤ (RN 2 s.1 s.2).1 ∧ (RN 2 s.1 s.2).1 < 256 ^ 2 ∧ (RN 2 s.1 s.2).2.1.length ≤ s.1.length ∧ Byt (RN 2 s.1 s.2).2.1 := RN_bd 2 s.1 s.2 h2.2.2
  refine (rcount_any R p1 s.1 s.2 most w h2 h4 (by omega)).mono ?_
  rintro e w' ⟨rfl, k⟩
  obtain ⟨n, hn⟩ : ∃ n : Nat, (n : Int) = CV most (RN 2 s.1 s.2).1 := ⟨(CV most (RN 2 s.1 s.2).1).toNat, by unfold CV; split <;> omega⟩
  refine ⟨n, ((RN 2 s.1 s.2).2.1, FB (RN 2 s.1 s.2).2.2 most (RN 2 s.1 s.2).1), ?_, by rw [hn], ?_, RT.step h h1 k hb.2.2.1⟩
  · show pC most s = _
    rw [hn]; rfl
  · rw [hn]; unfold CV; split <;> omega
theorem rnum8_rt {R : Nat} {p : Value} {s : List Int × Bool} {W w : World} (h : RT R p s W w) :
    Calls Try.prog 50 #[.pointer (some ⟨R, 0, none⟩), .int .i64 8] w fun e w' => ∃ n s', Hid (p8 s = (n, s')) ∧ e = .returned (.int .u64 n) ∧ 0 ≤ n ∧ n < 18446744073709551616 ∧ RT R p s' W w' := by
  obtain ⟨⟨p1, h1, h2⟩, h3⟩ := id h.rs
  have h4 := h.len
  have hb : 0 ≤ (RN 8 s.1 s.2).1 ∧ (RN 8 s.1 s.2).1 < 256 ^ 8 ∧ (RN 8 s.1 s.2).2.1.length ≤ s.1.length ∧ Byt (RN 8 s.1 s.2).2.1 := RN_bd 8 s.1 s.2 h2.2.2
  have h8 := hb.2.1
  rw [show (256 : Int) ^ 8 = 18446744073709551616 by decide] at h8
  refine (rnum_any R p1 s.1 s.2 8 w h2 h4 (by decide)).mono ?_
  rintro e w' ⟨rfl, k⟩
  exact ⟨_, (RN 8 s.1 s.2).2, rfl, rfl, hb.1, h8, RT.step h h1 k hb.2.2.1⟩
theorem rbad_rt {R : Nat} {p : Value} {s : List Int × Bool} {W w : World} (h : RT R p s W w) :
    Calls Try.prog 76 #[.pointer (some ⟨R, 0, none⟩)] w fun e w' => e = .returned (.bool s.2) ∧ w = w' := by
  obtain ⟨⟨p1, h1, h2⟩, h3⟩ := id h.rs
  exact rbad_any R p1 s.1 s.2 w h2

def idxP {α : Type} (pd : α → Bool) (l : List α) : Int := if l.findIdx pd < l.length then (l.findIdx pd : Int) else -1
theorem idxP_nn {α : Type} (pd : α → Bool) (l : List α) : decide (0 ≤ idxP pd l) = l.any pd := by
  unfold idxP
  cases h : l.any pd with
  | true =>
    have : l.findIdx pd < l.length := by
      obtain ⟨x, hx, hp⟩ := List.any_eq_true.1 h
      exact List.findIdx_lt_length_of_exists ⟨x, hx, hp⟩
    rw [if_pos this]
    simp
  | false =>
    have : ¬ l.findIdx pd < l.length := fun hlt => by
      have h1 := List.findIdx_getElem (w := hlt)
      have h2 := List.any_eq_false.1 h _ (List.getElem_mem hlt)
      rw [h1] at h2
      exact absurd h2 (by simp)
    rw [if_neg this]
    simp

set_option maxRecDepth 100000 in
set_option maxHeartbeats 1600000 in
theorem skindex_any (A C : Nat) (pd : Sk → Bool) (v : Value) (l : List Sk) (w : World) (h : Pw.Src w v 3 l.length (fl skc l)) (hl : l.length ≤ 1000000)
    (hF : ∀ x ∈ l, ∀ w', Only w w' [] → Calls Try.prog 97 #[.agg (skc x).toArray, .pointer (some ⟨A, 0, none⟩), .pointer (some ⟨C, 0, none⟩)] w' fun e w'' => e = .returned (.bool (pd x)) ∧ Only w' w'' []) :
    Calls Try.prog 96 #[v, .func (.func 97) #[] #[.pointer (some ⟨A, 0, none⟩), .pointer (some ⟨C, 0, none⟩)]] w fun e w' => e = .returned (.int .i64 (idxP pd l)) ∧ Only w w' [] := by
  obtain ⟨ao, c, rfl, _⟩ := id h
  have HS := fun (hp : 0 < l.length) => src_rec skc_len (by decide) h hp
  have HF := Lib.hid hF
  clear h hF
  go_enter Try.func96, Try.ntmps96
  go_wp2_with fail
  go_loopw [8] (fun i wr => ∃ k : Nat, i = .int .i64 k ∧ k ≤ l.length ∧ Hid (∀ j (hj : j < k), ∀ x, l[j]? = some x → pd x = false) ∧ Only w wr []) (fun i _ => l.length - (intOf i).toNat)
  case atStart => exact ⟨0, rfl, Nat.zero_le _, fun j hj => by omega, Only.refl _ _⟩
  case round =>
    obtain ⟨k, rfl, hk, hq, ho⟩ := hrel
    by_cases hkl : k < l.length
    · obtain ⟨b, o, rfl, hr⟩ := HS (by omega)
      have hrng := hr wr ho k hkl
      have hlk : l[k]? = some l[k] := List.getElem?_eq_getElem hkl
      have hFx := HF.out l[k] (List.getElem_mem hkl) wr ho
      generalize l[k] = x at *
      have hll := skc_len x
      have Hlk := Lib.hid hlk
      clear hlk HS hr
      have d1 : decide ((k : Int) < l.length) = true := by simpa using hkl
      cases hx : pd x with
      | true =>
        have hfin : Hid (idxP pd l = k) := by
          have e : l.findIdx pd = k := by
            rw [List.findIdx_eq hkl]
            have hlk := Hlk.out
            rw [List.getElem?_eq_getElem hkl] at hlk
            refine ⟨by rw [Option.some.inj hlk]; exact hx, fun j hj => ?_⟩
            have hjl : j < l.length := by omega
            exact hq.out j hj l[j] (List.getElem?_eq_getElem hjl)
          show idxP pd l = _
          rw [idxP, e, if_pos hkl]
        generalize skc x = cs at *
        go_wp2_with (refine wpList_load_mid rfl 151 _ rfl b (o + k * 3) rfl cs _ hrng Try.underlying151 (by rfl) (by rw [hll]; kernel_rfl) ?_)
        refine hFx.mono ?_
        rw [hx]
        rintro e w2 ⟨rfl, ho2⟩
        go_wp2_with fail
        go_ret
        exact ⟨by rw [hfin.out]; rfl, ho.trans ho2⟩
      | false =>
        have hq2 : Hid (∀ j (hj : j < k + 1), ∀ x, l[j]? = some x → pd x = false) := by
          intro j hj y hy
          by_cases hjk : j = k
          · subst hjk
            rw [Hlk.out] at hy
            cases hy
            exact hx
          · exact hq.out j (by omega) y hy
        generalize skc x = cs at *
        go_wp2_with (refine wpList_load_mid rfl 151 _ rfl b (o + k * 3) rfl cs _ hrng Try.underlying151 (by rfl) (by rw [hll]; kernel_rfl) ?_)
        refine hFx.mono ?_
        rw [hx]
        rintro e w2 ⟨rfl, ho2⟩
        go_wp2_with fail
        exact ⟨⟨k + 1, by simp, by omega, hq2, ho.trans ho2⟩, by simp [intOf]; omega⟩
    · obtain rfl : k = l.length := by omega
      have d1 : decide ((l.length : Int) < l.length) = false := by simp
      have hfin : Hid (idxP pd l = -1) := by
        show _ = _
        rw [idxP, if_neg]
        intro hlt
        have h1 := List.findIdx_getElem (w := hlt)
        have h2 := hq.out _ hlt _ (List.getElem?_eq_getElem hlt)
        rw [h1] at h2
        exact absurd h2 (by simp)
      go_wp2_with fail
      go_ret
      exact ⟨by rw [hfin.out]; rfl, ho⟩

set_option maxRecDepth 100000 in
set_option maxHeartbeats 1600000 in
theorem seindex_any (A : Nat) (pd : Se → Bool) (v : Value) (l : List Se) (w : World) (h : Pw.Src w v 18 l.length (fl sec l)) (hl : l.length ≤ 1000000)
    (hF : ∀ x ∈ l, ∀ w', Only w w' [] → Calls Try.prog 79 #[.agg (sec x).toArray, .pointer (some ⟨A, 0, none⟩)] w' fun e w'' => e = .returned (.bool (pd x)) ∧ Only w' w'' []) :
    Calls Try.prog 78 #[v, .func (.func 79) #[] #[.pointer (some ⟨A, 0, none⟩)]] w fun e w' => e = .returned (.int .i64 (idxP pd l)) ∧ Only w w' [] := by
  obtain ⟨ao, c, rfl, _⟩ := id h
  have HS := fun (hp : 0 < l.length) => src_rec sec_len (by decide) h hp
  have HF := Lib.hid hF
  clear h hF
  go_enter Try.func78, Try.ntmps78
  go_wp2_with fail
  go_loopw [8] (fun i wr => ∃ k : Nat, i = .int .i64 k ∧ k ≤ l.length ∧ Hid (∀ j (hj : j < k), ∀ x, l[j]? = some x → pd x = false) ∧ Only w wr []) (fun i _ => l.length - (intOf i).toNat)
  case atStart => exact ⟨0, rfl, Nat.zero_le _, fun j hj => by omega, Only.refl _ _⟩
  case round =>
    obtain ⟨k, rfl, hk, hq, ho⟩ := hrel
    by_cases hkl : k < l.length
    · obtain ⟨b, o, rfl, hr⟩ := HS (by omega)
      have hrng := hr wr ho k hkl
      have hlk : l[k]? = some l[k] := List.getElem?_eq_getElem hkl
      have hFx := HF.out l[k] (List.getElem_mem hkl) wr ho
      generalize l[k] = x at *
      have hll := sec_len x
      have Hlk := Lib.hid hlk
      clear hlk HS hr
      have d1 : decide ((k : Int) < l.length) = true := by simpa using hkl
      cases hx : pd x with
      | true =>
        have hfin : Hid (idxP pd l = k) := by
          have e : l.findIdx pd = k := by
            rw [List.findIdx_eq hkl]
            have hlk := Hlk.out
            rw [List.getElem?_eq_getElem hkl] at hlk
            refine ⟨by rw [Option.some.inj hlk]; exact hx, fun j hj => ?_⟩
            have hjl : j < l.length := by omega
            exact hq.out j hj l[j] (List.getElem?_eq_getElem hjl)
          show idxP pd l = _
          rw [idxP, e, if_pos hkl]
        generalize sec x = cs at *
        go_wp2_with (refine wpList_load_mid rfl 97 _ rfl b (o + k * 18) rfl cs _ hrng Try.underlying97 (by rfl) (by rw [hll]; kernel_rfl) ?_)
        refine hFx.mono ?_
        rw [hx]
        rintro e w2 ⟨rfl, ho2⟩
        go_wp2_with fail
        go_ret
        exact ⟨by rw [hfin.out]; rfl, ho.trans ho2⟩
      | false =>
        have hq2 : Hid (∀ j (hj : j < k + 1), ∀ x, l[j]? = some x → pd x = false) := by
          intro j hj y hy
          by_cases hjk : j = k
          · subst hjk
            rw [Hlk.out] at hy
            cases hy
            exact hx
          · exact hq.out j (by omega) y hy
        generalize sec x = cs at *
        go_wp2_with (refine wpList_load_mid rfl 97 _ rfl b (o + k * 18) rfl cs _ hrng Try.underlying97 (by rfl) (by rw [hll]; kernel_rfl) ?_)
        refine hFx.mono ?_
        rw [hx]
        rintro e w2 ⟨rfl, ho2⟩
        go_wp2_with fail
        exact ⟨⟨k + 1, by simp, by omega, hq2, ho.trans ho2⟩, by simp [intOf]; omega⟩
    · obtain rfl : k = l.length := by omega
      have d1 : decide ((l.length : Int) < l.length) = false := by simp
      have hfin : Hid (idxP pd l = -1) := by
        show _ = _
        rw [idxP, if_neg]
        intro hlt
        have h1 := List.findIdx_getElem (w := hlt)
        have h2 := hq.out _ hlt _ (List.getElem?_eq_getElem hlt)
        rw [h1] at h2
        exact absurd h2 (by simp)
      go_wp2_with fail
      go_ret
      exact ⟨by rw [hfin.out]; rfl, ho⟩

def sameK (of : List Int) (n : Int) (x : KD) : Bool := decide (x.n = n) && decide (x.of = of)
theorem bequal_rd (a b : Value) (xs ys : List Int) (w : World) (hx : Rd w a xs) (hy : Rd w b ys) (bx : Byt xs) (by_ : Byt ys) :
    Calls Try.prog 60 #[a, b] w fun e w' => e = .returned (.bool (decide (xs = ys))) ∧ w = w' := bequal_any a b xs ys w hx hy bx by_

set_option maxRecDepth 100000 in
set_option maxHeartbeats 1600000 in
theorem sclos_any (A C : Nat) (of : List Int) (n : Int) (vo : Value) (x : Sk) (w : World) (hA : w.heap[A]? = some (.cells #[.int .u32 n] 88 (0, 0))) (hC : w.heap[C]? = some (.cells #[vo] 28 (0, 0))) (ho : Rd w vo of) (hb : Byt of) (hx : Rd w x.vo x.c.of) (hxb : Byt x.c.of) :
    Calls Try.prog 97 #[.agg (skc x).toArray, .pointer (some ⟨A, 0, none⟩), .pointer (some ⟨C, 0, none⟩)] w fun e w' => e = .returned (.bool (sameK of n x.c)) ∧ Only w w' [] := by
  have E := fun (w' : World) (o : Only w w' []) => bequal_rd x.vo vo x.c.of of w' (hx.new o) (ho.new o) hxb hb
  simp only [skc]
  have hone := x.ok.1
  have HD : Hid (sameK of n x.c = (decide (x.c.n = n) && decide (x.c.of = of))) := rfl
  clear ho hx hb hxb
  by_cases hn : x.c.n = n
  · have d1 : decide (x.c.n = n) = true := by simpa using hn
    have HN := Lib.hid hn
    have b1 : (x.c.n == n) = true := by simpa using hn
    clear hn
    go_enter Try.func97, Try.ntmps97
    go_wp2_with (refine wpList_box_new rfl 151 _ rfl (.agg #[x.vo, .int .u32 x.c.n, x.vk]) rfl ?_; intro Z wZ oZ hZl hZ; have z0 : wZ.cell? ⟨Z, 0, none⟩ = some x.vo := cell_in hZ 0; have z1 : wZ.cell? ⟨Z, 1, none⟩ = some (.int .u32 x.c.n) := cell_in hZ 1; have a0 := cell_of_one (oZ.at hA (by simp)); have c0 := cell_of_one (oZ.at hC (by simp)))
    refine (E _ oZ).mono ?_
    rintro e w1 ⟨rfl, rfl⟩
    go_wp2_with fail
    go_ret
    exact ⟨by rw [HD.out, HN.out]; simp, oZ⟩
  · have d1 : decide (x.c.n = n) = false := by simpa using hn
    have b1 : (x.c.n == n) = false := by simpa using hn
    clear E
    go_enter Try.func97, Try.ntmps97
    go_wp2_with (refine wpList_box_new rfl 151 _ rfl (.agg #[x.vo, .int .u32 x.c.n, x.vk]) rfl ?_; intro Z wZ oZ hZl hZ; have z0 : wZ.cell? ⟨Z, 0, none⟩ = some x.vo := cell_in hZ 0; have z1 : wZ.cell? ⟨Z, 1, none⟩ = some (.int .u32 x.c.n) := cell_in hZ 1; have a0 := cell_of_one (oZ.at hA (by simp)); have c0 := cell_of_one (oZ.at hC (by simp)))
    go_ret
    exact ⟨by rw [HD.out, d1]; rfl, oZ⟩

set_option maxRecDepth 100000 in
set_option maxHeartbeats 1600000 in
theorem sfind_any (S : Nat) (v vo : Value) (l : List Sk) (of : List Int) (n : Int) (w : World) (hS : w.heap[S]? = some (.cells #[v] 154 (0, 0))) (h : Pw.Src w v 3 l.length (fl skc l)) (hl : l.length ≤ 1000000) (hx : ∀ x ∈ l, Rd w x.vo x.c.of ∧ Byt x.c.of) (ho : Rd w vo of) (hb : Byt of) :
    Calls Try.prog 93 #[.pointer (some ⟨S, 0, none⟩), vo, .int .u32 n] w fun e w' => e = .returned (.int .i64 (idxP (fun x : Sk => sameK of n x.c) l)) ∧ Only w w' [] := by
  obtain ⟨ao, c, rfl⟩ := ho.slice
  have HI := fun (A C : Nat) (w' : World) (o : Only w w' []) (hA : w'.heap[A]? = some (.cells #[.int .u32 n] 88 (0, 0))) (hC : w'.heap[C]? = some (.cells #[.slice ao of.length c] 28 (0, 0))) =>
    skindex_any A C (fun x : Sk => sameK of n x.c) v l w' (h.off o (fun _ _ _ => by simp)) hl fun x hm w2 o2 => sclos_any A C of n (.slice ao of.length c) x w2 (o2.at hA (by simp)) (o2.at hC (by simp)) (ho.new (o.trans o2)) hb ((hx x hm).1.new (o.trans o2)) (hx x hm).2
  clear h hx ho hb
  go_enter Try.func93, Try.ntmps93
  go_wp2_with (first
    | (refine wpList_box_new rfl 28 _ rfl (.slice ao of.length c) rfl ?_; intro Z wZ oZ hZl hZ)
    | (refine wpList_box_new rfl 88 _ rfl (.int .u32 n) rfl ?_; intro Y wY oY hYl hY; have oA := oZ.trans oY; have s0 := cell_of_one (oA.at hS (by simp)); have hZ2 := oY.at hZ (by simp)))
  refine (HI Y Z _ oA hY hZ2).mono ?_
  rintro e w1 ⟨rfl, o1⟩
  clear HI s0
  go_wp2_with fail
  go_ret
  exact ⟨rfl, oA.trans o1⟩

set_option maxRecDepth 100000 in
set_option maxHeartbeats 1600000 in
theorem qclos_any (A : Nat) (id : List Int) (vi : Value) (x : Se) (w : World) (hA : w.heap[A]? = some (.cells #[vi] 28 (0, 0))) (ho : Rd w vi id) (hb : Byt id) (hx : Rd w x.vi x.c.id) (hxb : Byt x.c.id) :
    Calls Try.prog 79 #[.agg (sec x).toArray, .pointer (some ⟨A, 0, none⟩)] w fun e w' => e = .returned (.bool (decide (x.c.id = id))) ∧ Only w w' [] := by
  have E := fun (w' : World) (o : Only w w' []) => bequal_rd x.vi vi x.c.id id w' (hx.new o) (ho.new o) hxb hb
  have h0 : (sec x).toArray[0]? = some x.vi := rfl
  clear ho hx hb hxb
  generalize sec x = cs at *
  go_enter Try.func79, Try.ntmps79
  go_wp2_with (refine wpList_box_new rfl 97 _ rfl (.agg cs.toArray) rfl ?_; intro Z wZ oZ hZl hZ; have z0 : wZ.cell? ⟨Z, 0, none⟩ = some x.vi := (cell_in hZ 0).trans h0; have a0 := cell_of_one (oZ.at hA (by simp)))
  refine (E _ oZ).mono ?_
  rintro e w1 ⟨rfl, rfl⟩
  go_wp2_with fail
  go_ret
  exact ⟨rfl, oZ⟩

set_option maxRecDepth 100000 in
set_option maxHeartbeats 1600000 in
theorem qfind_any (Q : Nat) (v vi : Value) (l : List Se) (id : List Int) (w : World) (hS : w.heap[Q]? = some (.cells #[v] 74 (0, 0))) (h : Pw.Src w v 18 l.length (fl sec l)) (hl : l.length ≤ 1000000) (hx : ∀ x ∈ l, Rd w x.vi x.c.id ∧ Byt x.c.id) (ho : Rd w vi id) (hb : Byt id) :
    Calls Try.prog 65 #[.pointer (some ⟨Q, 0, none⟩), vi] w fun e w' => e = .returned (.int .i64 (idxP (fun x : Se => decide (x.c.id = id)) l)) ∧ Only w w' [] := by
  obtain ⟨ao, c, rfl⟩ := ho.slice
  have HI := fun (A : Nat) (w' : World) (o : Only w w' []) (hA : w'.heap[A]? = some (.cells #[.slice ao id.length c] 28 (0, 0))) =>
    seindex_any A (fun x : Se => decide (x.c.id = id)) v l w' (h.off o (fun _ _ _ => by simp)) hl fun x hm w2 o2 => qclos_any A id (.slice ao id.length c) x w2 (o2.at hA (by simp)) (ho.new (o.trans o2)) hb ((hx x hm).1.new (o.trans o2)) (hx x hm).2
  clear h hx ho hb
  go_enter Try.func65, Try.ntmps65
  go_wp2_with (refine wpList_box_new rfl 28 _ rfl (.slice ao id.length c) rfl ?_; intro Z wZ oZ hZl hZ; have s0 := cell_of_one (oZ.at hS (by simp)))
  refine (HI Z _ oZ hZ).mono ?_
  rintro e w1 ⟨rfl, o1⟩
  clear HI s0
  go_wp2_with fail
  go_ret
  exact ⟨rfl, oZ.trans o1⟩
end Go.Proofs.Ytdlbkdnpbcpjfaa
