/- The contract of pawlref17.SameItems: two slices of items hold the same numbers and bytes. -/
import Derived.Test.YtjopgcbfahlmnaaBox2
namespace Go.Proofs.Ytjopgcbfahlmnaa
open Go.RowKit Go.Pw
set_option linter.unusedVariables false

/-- A slice that reads as items. -/
def RdI (w : World) (v : Value) (l : List It) : Prop := Src w v 2 l.length (flat l) ∧ ∀ x ∈ l, Src w (ev x) 1 x.bs.length (x.bs.map (Value.int .u8)) ∧ ∀ b ∈ x.bs, 0 ≤ b ∧ b < 256
theorem RdI.only {w w' : World} {v : Value} {l : List It} (h : RdI w v l) (ho : Only w w' []) : RdI w' v l :=
  ⟨h.1.off ho (fun _ _ _ => by simp), fun x hx => ⟨(h.2 x hx).1.off ho (fun _ _ _ => by simp), (h.2 x hx).2⟩⟩
theorem RdI.slice {w : World} {v : Value} {l : List It} (h : RdI w v l) : ∃ ao c, v = .slice ao l.length c := by
  obtain ⟨ao, c, rfl, _⟩ := h.1
  exact ⟨_, _, rfl⟩
theorem RdI.at {w : World} {ao : Option Addr} {c n : Nat} {l : List It} (h : RdI w (.slice ao n c) l) {k : Nat} (hk : k < l.length) : ∃ b o, ao = some ⟨b, o, none⟩ ∧ ∀ w', Only w w' [] →
    w'.cell? ⟨b, o + k * 2, none⟩ = some (.int .u64 l[k].n) ∧ w'.cell? ⟨b, o + k * 2 + 1, none⟩ = some (ev l[k]) := by
  obtain ⟨ao', c', he, h1, h2, h3, h4, h5⟩ := h.1
  simp only [Value.slice.injEq] at he
  obtain ⟨rfl, rfl, rfl⟩ := he
  cases ao with
  | none => have := (h4 rfl).1; omega
  | some ad =>
    obtain ⟨b, o, sp⟩ := ad
    have hz := flat_at (l := l) (i := 0) (by omega)
    have hc0 := h5 _ rfl 0 _ hz.1
    have hsp : sp = none := by simpa [Addr.add] using World.cell?_spot hc0
    subst hsp
    refine ⟨b, o, rfl, fun w' ho => ?_⟩
    have hh := (h.only ho).1
    obtain ⟨_, _, he, _, _, _, _, h5'⟩ := hh
    simp only [Value.slice.injEq] at he
    obtain ⟨rfl, _, _⟩ := he
    have hf := flat_at hk
    have e0 := h5' _ rfl (2 * k) _ hf.1
    have e1 := h5' _ rfl (2 * k + 1) _ hf.2
    rw [Addr.add_lit] at e0 e1
    rw [Nat.mul_comm] at e0 e1
    exact ⟨e0, e1⟩

theorem strs_beq {xs ys : List Int} (hx : ∀ x ∈ xs, 0 ≤ x ∧ x < 256) (hy : ∀ x ∈ ys, 0 ≤ x ∧ x < 256) : ((strOfNums xs).toList != (strOfNums ys).toList) = !decide (xs = ys) := by
  rw [bne, str_beq hx hy]

set_option maxRecDepth 100000 in
set_option maxHeartbeats 3200000 in
theorem sameitems_any (v1 v2 : Value) (l1 l2 : List It) (w : World) (h1 : RdI w v1 l1) (h2 : RdI w v2 l2) (hl1 : l1.length ≤ 1000000) (hl2 : l2.length ≤ 1000000) :
    Calls Try.prog 8 #[v1, v2] w fun e w' => e = .returned (.bool (decide (l1.map ct = l2.map ct))) ∧ Only w w' [] := by
  obtain ⟨a1, c1, rfl⟩ := h1.slice
  obtain ⟨a2, c2, rfl⟩ := h2.slice
  by_cases hlen : l1.length = l2.length
  · have t0 : ((l1.length : Int) != (l2.length : Int)) = false := by simp [hlen]
    have Hlen := Lib.hid hlen
    clear hlen
    go_enter Try.func8, Try.ntmps8
    go_wp2_with fail
    go_loopw [5] (fun i wr => ∃ k : Nat, i = .int .i64 k ∧ k ≤ l1.length ∧ (l1.take k).map ct = (l2.take k).map ct ∧ Only w wr []) (fun i _ => l1.length - (intOf i).toNat)
    case atStart => exact ⟨0, rfl, Nat.zero_le _, by simp, Only.refl _ _⟩
    case round =>
      obtain ⟨k, rfl, hk, hq, ho⟩ := hrel
      have hq := Lib.hid hq
      by_cases hkl : k < l1.length
      · have hkl2 : k < l2.length := by rw [← Hlen.out]; exact hkl
        obtain ⟨b1, o1, rfl, hc1⟩ := h1.at hkl
        obtain ⟨b2, o2, rfl, hc2⟩ := h2.at hkl2
        have r1 := h1.2 l1[k] (List.getElem_mem _)
        have r2 := h2.2 l2[k] (List.getElem_mem _)
        have hm1 : Hid ((l1.take (k + 1)).map ct = (l1.take k).map ct ++ [ct l1[k]]) := by
          show (l1.take (k + 1)).map ct = _
          rw [List.take_succ_eq_append_getElem hkl, List.map_append]; rfl
        have hm2 : Hid ((l2.take (k + 1)).map ct = (l2.take k).map ct ++ [ct l2[k]]) := by
          show (l2.take (k + 1)).map ct = _
          rw [List.take_succ_eq_append_getElem hkl2, List.map_append]; rfl
        have hne : Hid (ct l1[k] ≠ ct l2[k] → decide (l1.map ct = l2.map ct) = false) := by
          intro hd
          refine decide_eq_false fun e => hd ?_
          have := congrArg (fun x => x[k]?) e
          simpa [hkl, hkl2] using this
        generalize l1[k] = x at *
        generalize l2[k] = y at *
        obtain ⟨xn, xa, xc, xs⟩ := x
        obtain ⟨yn, ya, yc, ys⟩ := y
        simp only [ev, ct] at hc1 hc2 r1 r2 hm1 hm2 hne
        have hcx := fun n => hc1 (wr.drewN n) (ho.trans (Only.drewN wr n []))
        have hcy := fun n => hc2 (wr.drewN n) (ho.trans (Only.drewN wr n []))
        have hx0 := fun n => (hcx n).1
        have hx1 := fun n => (hcx n).2
        have hy0 := fun n => (hcy n).1
        have hy1 := fun n => (hcy n).2
        have s1 := fun n => run_str (P := Try.prog) (w := wr.drewN n) (S := 23) (T := 9) Try.underlying23 Try.underlying5 Try.underlying9 (r1.1.off (ho.trans (Only.drewN wr n [])) (fun _ _ _ => by simp)) rfl
        have s2 := fun n => run_str (P := Try.prog) (w := wr.drewN n) (S := 23) (T := 9) Try.underlying23 Try.underlying5 Try.underlying9 (r2.1.off (ho.trans (Only.drewN wr n [])) (fun _ _ _ => by simp)) rfl
        have hsb := str_beq r1.2 r2.2
        clear hc1 hc2 hcx hcy r1 r2
        have d1 : decide ((k : Int) < l1.length) = true := by simpa using hkl
        by_cases hxy : xn = yn
        · subst hxy
          have e1 : (xn != xn) = false := by simp
          by_cases hs : xs = ys
          · subst hs
            simp only [decide_true] at hsb
            go_wp2_with fail
            go_quiet (fail)
            go_wp2_with fail
            all_goals refine ⟨⟨k + 1, by simp, by omega, ?_, ho.trans (Only.drewN _ _ _)⟩, by simp [intOf]; omega⟩
            all_goals rw [hm1.out, hm2.out, hq.out]
          · rw [decide_eq_false hs] at hsb
            have hsb2 : (!((strOfNums xs).toList == (strOfNums ys).toList)) = true := by rw [hsb]; rfl
            have hfin := Lib.hid (hne.out (by simp [hs]))
            go_wp2_with fail
            go_quiet (fail)
            go_wp2_with fail
            go_ret
            exact ⟨by rw [hfin.out]; rfl, ho.trans (Only.drewN _ _ _)⟩
        · have e1 : (xn != yn) = true := by simpa using hxy
          have hfin := Lib.hid (hne.out (by simp [hxy]))
          go_wp2_with fail
          go_quiet (fail)
          go_wp2_with fail
          go_ret
          exact ⟨by rw [hfin.out]; rfl, ho.trans (Only.drewN _ _ _)⟩
      · obtain rfl : k = l1.length := by omega
        have d1 : decide ((l1.length : Int) < l1.length) = false := by simp
        have hfin : Hid (decide (l1.map ct = l2.map ct) = true) := by
          have := hq.out
          rw [List.take_length, Hlen.out, List.take_length] at this
          exact decide_eq_true this
        go_wp2_with fail
        go_ret
        exact ⟨by rw [hfin.out]; rfl, ho⟩
  · have t0 : ((l1.length : Int) != (l2.length : Int)) = true := by simp; omega
    have hfin : Hid (decide (l1.map ct = l2.map ct) = false) := decide_eq_false fun e => hlen (by have := congrArg List.length e; simpa using this)
    go_enter Try.func8, Try.ntmps8
    go_wp2_with fail
    go_ret
    exact ⟨by rw [hfin.out]; rfl, Only.refl _ _⟩
end Go.Proofs.Ytjopgcbfahlmnaa
