/- Marks that came in: the closure, IndexFunc, ContainsFunc, Revealed of layer 26 (judge). -/
import Derived.Test.YtdkcmjifkhcfcaaGreatDoorOpenR
import Derived.Test.YtdkcmjifkhcfcaaGreatDoorProg
set_option linter.all false
namespace Go.Pw
open Go.RowKit
set_option linter.unusedVariables false
theorem wpList_box_new {P : Program} {ops : Array Oper} {rest : List Oper} {op : Oper} {a : Act} {w : World} {Q : Exit → Act → World → Prop} (hgd : op.guard = none) (T : TypeId) (x : Operand) (ho : op.op = .box T x) (z : Value) (hx : a.eval x = z)
    (h : ∀ X w', Only w w' [] → w.heap.size ≤ X → w'.heap[X]? = some (.cells z.cells T (0, 0)) → wpList P ops Q rest (a.put op.dst (.pointer (some ⟨X, 0, none⟩))) w') : wpList P ops Q (op :: rest) a w :=
  wpList_plain hgd fun _ hK => by
    unfold Oper.wp execOp
    simp only [ho, hx, Instr.box, Sem.run_bind, Result.andThen_ok]
    exact hK _ _ (h w.heap.size _ (Only.alloc w (.cells z.cells T) []) (Nat.le_refl _) (heap_alloc_new w _))

end Go.Pw
namespace Go.Proofs.YtdkcmjifkhcfcaaGreatDoor
open Go.RowKit Go.Pw
set_option linter.unusedVariables false
set_option linter.unusedSimpArgs false

/-- A mark: its kind, its device; the other cells as they are. -/
structure Mk where
  k : Int
  u : Int
  d : Int
  r3 : Value
  r4 : Value
  r5 : Value
  r6 : Value
  r7 : Value
  r8 : Value
def mc (x : Mk) : List Value := [.int .u8 x.k, .int .i64 x.u, .int .i64 x.d, x.r3, x.r4, x.r5, x.r6, x.r7, x.r8]
theorem mc_len (x : Mk) : (mc x).length = 9 := rfl
/-- Is it that a device was revealed? -/
def revM (u d : Int) (x : Mk) : Bool := x.k == 7 && (x.u == u && x.d == d)

def RdM (w : World) (v : Value) (l : List Mk) : Prop := Pw.Src w v 9 l.length (fl mc l)
theorem RdM.off {w w' : World} {v : Value} {l : List Mk} (h : RdM w v l) (ho : Only w w' []) : RdM w' v l := Pw.Src.off h ho (fun _ _ _ => by simp)
theorem RdM.slice {w : World} {v : Value} {l : List Mk} (h : RdM w v l) : ∃ ao c, v = .slice ao l.length c := by
  obtain ⟨ao, c, h, _⟩ := h
  exact ⟨ao, c, h⟩

def idxM (pd : Mk → Bool) (l : List Mk) : Int := if l.findIdx pd < l.length then (l.findIdx pd : Int) else -1
def ClosM (F : Nat) (caps : Array Value) (pd : Mk → Bool) (w : World) : Prop := ∀ x w', Only w w' [] → Calls Tryz.prog F (#[.agg (mc x).toArray] ++ caps) w' fun e w'' => e = .returned (.bool (pd x)) ∧ Only w' w'' []

set_option maxRecDepth 100000 in
set_option maxHeartbeats 3200000 in
theorem mindex (A : Nat) (pd : Mk → Bool) (v : Value) (l : List Mk) (w : World) (h : RdM w v l) (hl : l.length ≤ 1000000) (hF : ClosM 55 #[.pointer (some ⟨A, 0, none⟩)] pd w) :
    Calls Tryz.prog 119 #[v, .func (.func 55) #[] #[.pointer (some ⟨A, 0, none⟩)]] w fun e w' => e = .returned (.int .i64 (idxM pd l)) ∧ Only w w' [] := by
  obtain ⟨ao, c, rfl⟩ := h.slice
  have HS := fun (hp : 0 < l.length) => src_rec mc_len (by decide) h hp
  clear h
  go_enter Tryz.func119, Tryz.ntmps119
  go_wp2_with fail
  go_loopw [8] (fun i wr => ∃ k : Nat, i = .int .i64 k ∧ k ≤ l.length ∧ (∀ j (hj : j < k), ∀ x, l[j]? = some x → pd x = false) ∧ Only w wr []) (fun i _ => l.length - (intOf i).toNat)
  case atStart => exact ⟨0, rfl, Nat.zero_le _, fun j hj => by omega, Only.refl _ _⟩
  case round =>
    obtain ⟨k, rfl, hk, hq, ho⟩ := hrel
    have hq := Lib.hid hq
    by_cases hkl : k < l.length
    · obtain ⟨b, o, rfl, hr⟩ := HS (by omega)
      have hrng := hr wr ho k hkl
      have hlk : l[k]? = some l[k] := List.getElem?_eq_getElem hkl
      have hFx := hF l[k] wr ho
      generalize l[k] = x at *
      have hll := mc_len x
      have Hlk := Lib.hid hlk
      clear hlk HS hr
      have d1 : decide ((k : Int) < l.length) = true := by simpa using hkl
      cases hx : pd x with
      | true =>
        have hfin : Hid (idxM pd l = k) := by
          have e : l.findIdx pd = k := by
            rw [List.findIdx_eq hkl]
            have hlk := Hlk.out
            rw [List.getElem?_eq_getElem hkl] at hlk
            refine ⟨by rw [Option.some.inj hlk]; exact hx, fun j hj => ?_⟩
            have hjl : j < l.length := by omega
            exact hq.out j hj l[j] (List.getElem?_eq_getElem hjl)
          show idxM pd l = _
          rw [idxM, e, if_pos hkl]
        generalize mc x = cs at *
        go_wp2_with (refine wpList_load_mid rfl 55 _ rfl b (o + k * 9) rfl cs _ hrng Tryz.underlying55 (by rfl) (by rw [hll]; kernel_rfl) ?_)
        refine hFx.mono ?_
        rw [hx]
        rintro e w2 ⟨rfl, ho2⟩
        go_wp2_with fail
        go_ret
        exact ⟨by rw [hfin.out]; rfl, ho.trans ho2⟩
      | false =>
        have hq2 : Hid (∀ j (hj : j < k + 1), ∀ x, l[j]? = some x → pd x = false) := by
          intro j hj y hy
          by_cases hjk : j = k
          · subst hjk
            rw [Hlk.out] at hy
            cases hy
            exact hx
          · exact hq.out j (by omega) y hy
        generalize mc x = cs at *
        go_wp2_with (refine wpList_load_mid rfl 55 _ rfl b (o + k * 9) rfl cs _ hrng Tryz.underlying55 (by rfl) (by rw [hll]; kernel_rfl) ?_)
        refine hFx.mono ?_
        rw [hx]
        rintro e w2 ⟨rfl, ho2⟩
        go_wp2_with fail
        refine ⟨⟨k + 1, by simp, by omega, hq2.out, ho.trans ho2⟩, by simp [intOf]; omega⟩
    · obtain rfl : k = l.length := by omega
      have d1 : decide ((l.length : Int) < l.length) = false := by simp
      have hfin : Hid (idxM pd l = -1) := by
        show idxM pd l = _
        refine if_neg fun hh => ?_
        have := List.findIdx_getElem (w := hh)
        have h1 := hq.out _ hh l[l.findIdx pd] (List.getElem?_eq_getElem hh)
        exact absurd (this.symm.trans h1) (by simp)
      go_wp2_with fail
      go_ret
      exact ⟨by rw [hfin.out]; rfl, ho⟩

theorem idxM_any (pd : Mk → Bool) (l : List Mk) : decide (0 ≤ idxM pd l) = l.any pd := by
  unfold idxM
  by_cases h : l.findIdx pd < l.length
  · rw [if_pos h]
    have : l.any pd = true := by
      rw [List.any_eq_true]
      exact ⟨_, List.getElem_mem h, List.findIdx_getElem (w := h)⟩
    rw [this]; simp
  · rw [if_neg h]
    have : l.any pd = false := by
      rw [List.any_eq_false]
      intro x hx hp
      exact h (List.findIdx_lt_length_of_exists ⟨x, hx, hp⟩)
    rw [this]; simp

set_option maxRecDepth 100000 in
theorem mcontains (A : Nat) (pd : Mk → Bool) (v : Value) (l : List Mk) (w : World) (h : RdM w v l) (hl : l.length ≤ 1000000) (hF : ClosM 55 #[.pointer (some ⟨A, 0, none⟩)] pd w) :
    Calls Tryz.prog 54 #[v, .func (.func 55) #[] #[.pointer (some ⟨A, 0, none⟩)]] w fun e w' => e = .returned (.bool (l.any pd)) ∧ Only w w' [] := by
  have HI := mindex A pd v l w h hl hF
  rw [← idxM_any]
  obtain ⟨ao, c, rfl⟩ := h.slice
  go_enter Tryz.func54, Tryz.ntmps54
  go_wp2_with fail
  refine HI.mono ?_
  rintro e w1 ⟨rfl, o1⟩
  go_wp2_with fail
  go_ret
  exact ⟨rfl, o1⟩

set_option maxRecDepth 100000 in
theorem closM (A : Nat) (u d : Int) (w : World) (h : w.heap[A]? = some (.cells #[.int .i64 u, .int .i64 d] 52 (0, 0))) : ClosM 55 #[.pointer (some ⟨A, 0, none⟩)] (revM u d) w := fun x w' ho => by
  have hA := ho.at h (by simp)
  have h0 : (mc x).toArray[0]? = some (.int .u8 x.k) := rfl
  have h1 : (mc x).toArray[1]? = some (.int .i64 x.u) := rfl
  have h2 : (mc x).toArray[2]? = some (.int .i64 x.d) := rfl
  show Calls _ _ #[.agg (mc x).toArray, .pointer (some ⟨A, 0, none⟩)] _ _
  generalize mc x = cs at *
  go_enter Tryz.func55, Tryz.ntmps55
  go_wp2_with (refine wpList_box_new rfl 55 _ rfl (.agg cs.toArray) rfl ?_; intro X wX oX hXl hX; have hx0 := (cell_in hX 0).trans h0; have hx1 := (cell_in hX 1).trans h1; have hx2 := (cell_in hX 2).trans h2; have hAX := oX.at hA (by simp); have ha0 := cell_two0 hAX; have ha1 := cell_two1 hAX)
  all_goals (go_ret; refine ⟨?_, oX⟩; simp_all [revM])
end Go.Proofs.YtdkcmjifkhcfcaaGreatDoor
