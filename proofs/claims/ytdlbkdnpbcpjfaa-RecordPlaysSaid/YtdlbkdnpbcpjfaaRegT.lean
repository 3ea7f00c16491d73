/- A region that draws its order, driven by hand, one operation at a time, whose last operation (which waits for all others) may break the condition that the others keep. No program. -/
import Derived.Test.YtdlbkdnpbcpjfaaBase
import Derived.Deep.RegionHeld3
namespace Go.Pw
open Go.RowKit
set_option linter.unusedVariables false

theorem op_at' {l : List Oper} {i : Nat} {oi : Oper} {rest : List Oper} (h : l.drop i = oi :: rest) : l.toArray[i]? = some oi := by
  rw [List.getElem?_toArray, ← List.head?_drop, h]
  rfl

section
variable {P : Program} {ops : Array Oper} {Q : Exit → Act → World → Prop} {md : Region.Mode} {S S' : World → Prop} {z : Nat}

/-- The operations that one waits for. -/
def deps (md : Region.Mode) (ops : Array Oper) (k : Nat) : List Nat := match ops[k]? with
  | none => []
  | some o => (o.after.toList.filter (Region.binds md)).map (·.on)
def clos (md : Region.Mode) (ops : Array Oper) : Nat → List Nat → List Nat
  | 0, s => s
  | f + 1, s => clos md ops f (s ++ s.flatMap (deps md ops)).eraseDups
/-- All others come ahead of z. -/
def isLast (md : Region.Mode) (ops : Array Oper) (z : Nat) : Bool := (List.range ops.size).all fun i => i == z || (clos md ops 6 (deps md ops z)).contains i
/-- With an operation those that it waits for are listed. -/
def downB (md : Region.Mode) (ops : Array Oper) (listed : Array Bool) : Bool := (List.range ops.size).all fun k => !listed.getD k false || (deps md ops k).all fun d => listed.getD d false
def Down (md : Region.Mode) (ops : Array Oper) (listed : Array Bool) : Prop := ∀ k, k < ops.size → listed.getD k false = true → ∀ d ∈ deps md ops k, listed.getD d false = true

theorem downB_spec {listed : Array Bool} (h : downB md ops listed = true) : Down md ops listed := fun k hk hl d hd => by
  have := List.all_eq_true.1 h k (List.mem_range.2 hk)
  rw [hl] at this
  simp only [Bool.not_true, Bool.false_or] at this
  exact List.all_eq_true.1 this d hd

theorem deps_of {k : Nat} {o : Oper} (ho : ops[k]? = some o) {d : Nat} : d ∈ deps md ops k ↔ ∃ e ∈ o.after, Region.binds md e = true ∧ e.on = d := by
  simp only [deps, ho, List.mem_map, List.mem_filter, Array.mem_toList_iff]
  constructor
  · rintro ⟨e, ⟨h1, h2⟩, h3⟩; exact ⟨e, h1, h2, h3⟩
  · rintro ⟨e, h1, h2, h3⟩; exact ⟨e, ⟨h1, h2⟩, h3⟩

theorem deps_lt {k d : Nat} (h : d ∈ deps md ops k) : k < ops.size := by
  unfold deps at h
  split at h
  · cases h
  · rename_i o ho; exact (Array.getElem?_eq_some_iff.1 ho).1

theorem clos_listed {listed : Array Bool} (hd : Down md ops listed) : ∀ (f : Nat) (s : List Nat), (∀ i ∈ s, listed.getD i false = true) → ∀ i ∈ clos md ops f s, listed.getD i false = true
  | 0, _, h => h
  | f + 1, s, h => clos_listed hd f _ fun i hi => by
    rw [List.mem_eraseDups, List.mem_append, List.mem_flatMap] at hi
    rcases hi with hi | ⟨k, hk, hi⟩
    · exact h i hi
    · exact hd k (deps_lt hi) (h k hk) i hi

theorem last_spec {listed : Array Bool} (hz : isLast md ops z = true) (hd : Down md ops listed) (hr : z ∈ Region.ready md ops listed) {i : Nat} (hi : i < ops.size) (hne : i ≠ z) : listed.getD i false = true := by
  obtain ⟨_, o, ho, hall⟩ := mem_ready.1 hr
  have h0 : ∀ d ∈ deps md ops z, listed.getD d false = true := fun d hdd => by
    obtain ⟨e, h1, h2, rfl⟩ := (deps_of ho).1 hdd
    exact hall e h1 h2
  have h1 := List.all_eq_true.1 hz i (List.mem_range.2 hi)
  simp only [Bool.or_eq_true, beq_iff_eq, hne, false_or, List.contains_iff_mem] at h1
  exact clos_listed hd _ _ h0 i h1

theorem getD_cases {listed : Array Bool} {j k : Nat} (h : (listed.setIfInBounds j true).getD k false = true) : k = j ∨ listed.getD k false = true := by
  by_cases hjk : j = k
  · exact .inl hjk.symm
  · rw [getD_set_ne false hjk] at h; exact .inr h

theorem Down.set {listed : Array Bool} (hd : Down md ops listed) {j : Nat} (hr : j ∈ Region.ready md ops listed) : Down md ops (listed.setIfInBounds j true) := fun k hk hl d hdd => by
  rcases getD_cases hl with rfl | hl
  · obtain ⟨_, o, ho, hall⟩ := mem_ready.1 hr
    obtain ⟨e, h1, h2, rfl⟩ := (deps_of ho).1 hdd
    exact getD_set_true (hall e h1 h2)
  · exact getD_set_true (hd k hk hl d hdd)

/-- Whatever order is picked from here on; S holds behind every operation but z. -/
def wpAnyT (P : Program) (md : Region.Mode) (ops : Array Oper) (Q : Exit → Act → World → Prop) (S : World → Prop) (z : Nat) : Nat → Array Bool → Act → World → Prop
  | 0, listed, a, w => Region.ready md ops listed = [] ∧ Q .normal a w
  | fuel + 1, listed, a, w =>
    (Region.ready md ops listed = [] → Q .normal a w) ∧
    ∀ i ∈ Region.ready md ops listed, wpOp P ops Q i (fun a' w' => (i ≠ z → S w') ∧ wpAnyT P md ops Q S z fuel (listed.setIfInBounds i true) a' w') a w

theorem wpAny_of_t : ∀ (fuel : Nat) (listed : Array Bool) (a : Act) (w : World), wpAnyT P md ops Q S z fuel listed a w → wpAny P md ops Q fuel listed a w
  | 0, _, _, _, h => h
  | fuel + 1, _, _, _, h => ⟨h.1, fun i hi => wpOp_mono (fun a' w' h' => wpAny_of_t fuel _ a' w' h'.2) (h.2 i hi)⟩

theorem wpAnyT_more (h : ∀ w, S' w → S w) : ∀ (fuel : Nat) (listed : Array Bool) (a : Act) (w : World), wpAnyT P md ops Q S' z fuel listed a w → wpAnyT P md ops Q S z fuel listed a w
  | 0, _, _, _, hh => hh
  | fuel + 1, _, _, _, hh => ⟨hh.1, fun i hi => wpOp_mono (fun a' w' h' => ⟨fun hne => h w' (h'.1 hne), wpAnyT_more h fuel _ a' w' h'.2⟩) (hh.2 i hi)⟩

theorem unlisted {listed : Array Bool} {i : Nat} (h : i ∈ Region.ready md ops listed) : listed.getD i false = false ∧ i < ops.size := by
  obtain ⟨h0, o, ho, _⟩ := mem_ready.1 h
  refine ⟨?_, (Array.getElem?_eq_some_iff.1 ho).1⟩
  rcases Nat.lt_or_ge i listed.size with h' | h'
  · simp [h'] at h0 ⊢; exact h0
  · simp [Array.getElem?_eq_none h'] at h0

theorem wpAnyT_first {i : Nat} {oi : Oper} {v : Value} (hz : isLast md ops z = true) (hiz : i ≠ z) (hi : ops[i]? = some oi) (hsel : ∀ (j : Nat) (o : Oper) cs b, ops[j]? = some o → o.op ≠ .select cs b)
    (hQ : ∀ c a w, Q (.panic c) (a.put oi.dst v) w → Q (.panic c) a w) :
    ∀ (fuel : Nat) (listed : Array Bool) (a : Act) (w : World), Down md ops listed →
      (∀ j oj, ops[j]? = some oj → j ≠ i → listed.getD j true = false → (∀ e ∈ oj.after, Region.binds md e = true → e.on ≠ i) → oi.apart ops oj = true) →
      i ∈ Region.ready md ops listed → YieldsIf P ops S oi v a → S w →
      wpAnyT P md ops Q S z fuel (listed.setIfInBounds i true) (a.put oi.dst v) w → wpAnyT P md ops Q S z (fuel + 1) listed a w := by
  intro fuel
  induction fuel with
  | zero =>
    intro listed a w _ _ hr hy hS H
    refine ⟨fun h => (by rw [h] at hr; cases hr), fun j hj => ?_⟩
    by_cases hji : j = i
    · subst hji; exact hy.wpOp hi hS ⟨fun _ => hS, H⟩
    · have := ready_mono hj hji
      rw [H.1] at this
      cases this
  | succ fuel ih =>
    intro listed a w hdown hfree hr hy hS H
    refine ⟨fun h => (by rw [h] at hr; cases hr), fun j hj => ?_⟩
    by_cases hji : j = i
    · subst hji; exact hy.wpOp hi hS ⟨fun _ => hS, H⟩
    · have hu := unlisted hr
      have hjz : j ≠ z := by
        rintro rfl
        have := last_spec hz hdown hj hu.2 hiz
        rw [hu.1] at this
        cases this
      have h1 := H.2 j (ready_mono hj hji)
      obtain ⟨hjun, oj, hoj, hall⟩ := mem_ready.1 hj
      have hnot : ∀ e ∈ oj.after, Region.binds md e = true → e.on ≠ i := fun e he hb heq => by
        have h1 := hall e he hb
        rw [heq, hu.1] at h1
        cases h1
      have h2 := wpOp_putIf hoj (hfree j oj hoj hji hjun hnot) (fun cs b => hsel i oi cs b hi) (fun cs b => hsel j oj cs b hoj) hQ hy h1
      refine wpOp_mono (fun a' w' h3 => ⟨h3.2.1, ih (listed.setIfInBounds j true) a' w' (hdown.set hj) (fun k ok hk hki hun hno => hfree k ok hk hki ?_ hno) (ready_mono hr (Ne.symm hji)) h3.1 (h3.2.1 hjz) ?_⟩) h2
      · by_cases hjk : j = k
        · subst hjk; exact hjun
        · rw [getD_set_ne true hjk] at hun; exact hun
      · rw [Array.setIfInBounds_comm _ _ hji]
        exact h3.2.2

/-- Number i is taken first. -/
theorem wpAnyT_take {i : Nat} {oi : Oper} {v : Value} {fuel : Nat} {listed : Array Bool} {a : Act} {w : World} (hz : Shut (isLast md ops z = true)) (hi : ops[i]? = some oi) (hiz : (i == z) = false) (hd : downB md ops listed = true)
    (hs : Region.noSelect ops = true) (hf : Region.free md ops listed i = true) (hr : (Region.ready md ops listed).contains i = true)
    (hQ : ∀ c a w, Q (.panic c) (a.put oi.dst v) w → Q (.panic c) a w) (hy : YieldsIf P ops S oi v a) (hS : S w)
    (h : wpAnyT P md ops Q S z fuel (listed.setIfInBounds i true) (a.put oi.dst v) w) : wpAnyT P md ops Q S z (fuel + 1) listed a w :=
  wpAnyT_first hz.out (by simpa using hiz) hi (Region.noSelect_spec hs) hQ fuel listed a w (downB_spec hd) (Region.free_spec hi hf) (by simpa using hr) hy hS h

/-- Number i alone may come up. -/
theorem wpAnyT_one {i : Nat} {o : Oper} {fuel : Nat} {listed : Array Bool} {a : Act} {w : World} (hr : Region.ready md ops listed = [i]) (ho : ops[i]? = some o)
    (h : ∀ K' : Act → World → Prop, Shut (∀ a w, S w → (S w → wpAnyT P md ops Q S z fuel (listed.setIfInBounds i true) a w) → K' a w) → if Region.wanted o (yielded ops a.tmps) = true then Oper.wp P o a w K' Q else K' (a.put o.dst undef) w) :
    wpAnyT P md ops Q S z (fuel + 1) listed a w :=
  ⟨fun h => (by rw [hr] at h; cases h), fun j hj => by
    rw [hr] at hj
    obtain rfl : j = i := by simpa using hj
    exact wpOp_step ho (fun K' hK => h K' (fun a w hS hW => hK a w ⟨fun _ => hS, hW hS⟩))⟩

/-- The last one comes up. -/
theorem wpAnyT_last {o : Oper} {fuel : Nat} {listed : Array Bool} {a : Act} {w : World} (hr : Region.ready md ops listed = [z]) (ho : ops[z]? = some o) (hd : Region.ready md ops (listed.setIfInBounds z true) = [])
    (h : ∀ K' : Act → World → Prop, Shut (∀ a w, Q .normal a w → K' a w) → if Region.wanted o (yielded ops a.tmps) = true then Oper.wp P o a w K' Q else K' (a.put o.dst undef) w) :
    wpAnyT P md ops Q S z (fuel + 1) listed a w :=
  ⟨fun h => (by rw [hr] at h; cases h), fun j hj => by
    rw [hr] at hj
    obtain rfl : j = z := by simpa using hj
    refine wpOp_step ho (fun K' hK => h K' (fun a w hq => hK a w ⟨fun hne => absurd rfl hne, ?_⟩))
    cases fuel with
    | zero => exact ⟨hd, hq⟩
    | succ n => exact ⟨fun _ => hq, by rw [hd]; simp⟩⟩

theorem wp_region_t {id : Nat} {a : Act} {w : World} (z : Nat) (hm : P.follows .mixedOrders = true) (hz : isLast .any ops z = true) (hS : S w.drew)
    (h : Shut (isLast .any ops z = true) → S w.drew → wpAnyT P .any ops Q S z ops.size (Array.replicate ops.size false) a w.drew) : (Code.region id ops true).wp P Q a w :=
  wp_region_any hm (wpAny_of_t _ _ _ _ (h hz hS))
end
end Go.Pw
