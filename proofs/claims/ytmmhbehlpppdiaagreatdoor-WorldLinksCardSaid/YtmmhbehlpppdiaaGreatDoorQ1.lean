/- WorldLinks, by hand: RegT, Rg1, Aps, Tm, Tm2, RegU, Tm3. -/
import Derived.Test.YtmmhbehlpppdiaaGreatDoorQ0
import Derived.Deep.RegionHeld3
import Derived.Deep.Cut
import Derived.Test.YtmmhbehlpppdiaaGreatDoorProg
import Derived.KernelRfl
set_option linter.all false
namespace Go.Pw
open Go.RowKit

theorem op_at' {l : List Oper} {i : Nat} {oi : Oper} {rest : List Oper} (h : l.drop i = oi :: rest) : l.toArray[i]? = some oi := by
  rw [List.getElem?_toArray, ← List.head?_drop, h]
  rfl

section
variable {P : Program} {ops : Array Oper} {Q : Exit → Act → World → Prop} {md : Region.Mode} {S S' : World → Prop} {z : Nat}
def deps (md : Region.Mode) (ops : Array Oper) (k : Nat) : List Nat := match ops[k]? with
  | none => []
  | some o => (o.after.toList.filter (Region.binds md)).map (·.on)
def clos (md : Region.Mode) (ops : Array Oper) : Nat → List Nat → List Nat
  | 0, s => s
  | f + 1, s => clos md ops f (s ++ s.flatMap (deps md ops)).eraseDups
def isLast (md : Region.Mode) (ops : Array Oper) (z : Nat) : Bool := (List.range ops.size).all fun i => i == z || (clos md ops 6 (deps md ops z)).contains i
def downB (md : Region.Mode) (ops : Array Oper) (listed : Array Bool) : Bool := (List.range ops.size).all fun k => !listed.getD k false || (deps md ops k).all fun d => listed.getD d false
def Down (md : Region.Mode) (ops : Array Oper) (listed : Array Bool) : Prop := ∀ k, k < ops.size → listed.getD k false = true → ∀ d ∈ deps md ops k, listed.getD d false = true

theorem downB_spec {listed : Array Bool} (h : downB md ops listed = true) : Down md ops listed := fun k hk hl d hd => by
  have := List.all_eq_true.1 h k (List.mem_range.2 hk)
  rw [hl] at this
  simp only [Bool.not_true, Bool.false_or] at this
  exact List.all_eq_true.1 this d hd

theorem deps_of {k : Nat} {o : Oper} (ho : ops[k]? = some o) {d : Nat} : d ∈ deps md ops k ↔ ∃ e ∈ o.after, Region.binds md e = true ∧ e.on = d := by
  simp only [deps, ho, List.mem_map, List.mem_filter, Array.mem_toList_iff]
  constructor
  · rintro ⟨e, ⟨h1, h2⟩, h3⟩; exact ⟨e, h1, h2, h3⟩
  · rintro ⟨e, h1, h2, h3⟩; exact ⟨e, ⟨h1, h2⟩, h3⟩

theorem deps_lt {k d : Nat} (h : d ∈ deps md ops k) : k < ops.size := by
  unfold deps at h
  split at h
  · cases h
  · rename_i o ho; exact (Array.getElem?_eq_some_iff.1 ho).1

theorem clos_listed {listed : Array Bool} (hd : Down md ops listed) : ∀ (f : Nat) (s : List Nat), (∀ i ∈ s, listed.getD i false = true) → ∀ i ∈ clos md ops f s, listed.getD i false = true
  | 0, _, h => h
  | f + 1, s, h => clos_listed hd f _ fun i hi => by
    rw [List.mem_eraseDups, List.mem_append, List.mem_flatMap] at hi
    rcases hi with hi | ⟨k, hk, hi⟩
    · exact h i hi
    · exact hd k (deps_lt hi) (h k hk) i hi

theorem last_spec {listed : Array Bool} (hz : isLast md ops z = true) (hd : Down md ops listed) (hr : z ∈ Region.ready md ops listed) {i : Nat} (hi : i < ops.size) (hne : i ≠ z) : listed.getD i false = true := by
  obtain ⟨_, o, ho, hall⟩ := mem_ready.1 hr
  have h0 : ∀ d ∈ deps md ops z, listed.getD d false = true := fun d hdd => by
    obtain ⟨e, h1, h2, rfl⟩ := (deps_of ho).1 hdd
    exact hall e h1 h2
  have h1 := List.all_eq_true.1 hz i (List.mem_range.2 hi)
  simp only [Bool.or_eq_true, beq_iff_eq, hne, false_or, List.contains_iff_mem] at h1
  exact clos_listed hd _ _ h0 i h1

theorem getD_cases {listed : Array Bool} {j k : Nat} (h : (listed.setIfInBounds j true).getD k false = true) : k = j ∨ listed.getD k false = true := by
  by_cases hjk : j = k
  · exact .inl hjk.symm
  · rw [getD_set_ne false hjk] at h; exact .inr h

theorem Down.set {listed : Array Bool} (hd : Down md ops listed) {j : Nat} (hr : j ∈ Region.ready md ops listed) : Down md ops (listed.setIfInBounds j true) := fun k hk hl d hdd => by
  rcases getD_cases hl with rfl | hl
  · obtain ⟨_, o, ho, hall⟩ := mem_ready.1 hr
    obtain ⟨e, h1, h2, rfl⟩ := (deps_of ho).1 hdd
    exact getD_set_true (hall e h1 h2)
  · exact getD_set_true (hd k hk hl d hdd)
def wpAnyT (P : Program) (md : Region.Mode) (ops : Array Oper) (Q : Exit → Act → World → Prop) (S : World → Prop) (z : Nat) : Nat → Array Bool → Act → World → Prop
  | 0, listed, a, w => Region.ready md ops listed = [] ∧ Q .normal a w
  | fuel + 1, listed, a, w =>
    (Region.ready md ops listed = [] → Q .normal a w) ∧
    ∀ i ∈ Region.ready md ops listed, wpOp P ops Q i (fun a' w' => (i ≠ z → S w') ∧ wpAnyT P md ops Q S z fuel (listed.setIfInBounds i true) a' w') a w

theorem wpAny_of_t : ∀ (fuel : Nat) (listed : Array Bool) (a : Act) (w : World), wpAnyT P md ops Q S z fuel listed a w → wpAny P md ops Q fuel listed a w
  | 0, _, _, _, h => h
  | fuel + 1, _, _, _, h => ⟨h.1, fun i hi => wpOp_mono (fun a' w' h' => wpAny_of_t fuel _ a' w' h'.2) (h.2 i hi)⟩

theorem unlisted {listed : Array Bool} {i : Nat} (h : i ∈ Region.ready md ops listed) : listed.getD i false = false ∧ i < ops.size := by
  obtain ⟨h0, o, ho, _⟩ := mem_ready.1 h
  refine ⟨?_, (Array.getElem?_eq_some_iff.1 ho).1⟩
  rcases Nat.lt_or_ge i listed.size with h' | h'
  · simp [h'] at h0 ⊢; exact h0
  · simp [Array.getElem?_eq_none h'] at h0

theorem wpAnyT_first {i : Nat} {oi : Oper} {v : Value} (hz : isLast md ops z = true) (hiz : i ≠ z) (hi : ops[i]? = some oi) (hsel : ∀ (j : Nat) (o : Oper) cs b, ops[j]? = some o → o.op ≠ .select cs b)
    (hQ : ∀ c a w, Q (.panic c) (a.put oi.dst v) w → Q (.panic c) a w) :
    ∀ (fuel : Nat) (listed : Array Bool) (a : Act) (w : World), Down md ops listed →
      (∀ j oj, ops[j]? = some oj → j ≠ i → listed.getD j true = false → (∀ e ∈ oj.after, Region.binds md e = true → e.on ≠ i) → oi.apart ops oj = true) →
      i ∈ Region.ready md ops listed → YieldsIf P ops S oi v a → S w →
      wpAnyT P md ops Q S z fuel (listed.setIfInBounds i true) (a.put oi.dst v) w → wpAnyT P md ops Q S z (fuel + 1) listed a w := by
  intro fuel
  induction fuel with
  | zero =>
    intro listed a w _ _ hr hy hS H
    refine ⟨fun h => (by rw [h] at hr; cases hr), fun j hj => ?_⟩
    by_cases hji : j = i
    · subst hji; exact hy.wpOp hi hS ⟨fun _ => hS, H⟩
    · have := ready_mono hj hji
      rw [H.1] at this
      cases this
  | succ fuel ih =>
    intro listed a w hdown hfree hr hy hS H
    refine ⟨fun h => (by rw [h] at hr; cases hr), fun j hj => ?_⟩
    by_cases hji : j = i
    · subst hji; exact hy.wpOp hi hS ⟨fun _ => hS, H⟩
    · have hu := unlisted hr
      have hjz : j ≠ z := by
        rintro rfl
        have := last_spec hz hdown hj hu.2 hiz
        rw [hu.1] at this
        cases this
      have h1 := H.2 j (ready_mono hj hji)
      obtain ⟨hjun, oj, hoj, hall⟩ := mem_ready.1 hj
      have hnot : ∀ e ∈ oj.after, Region.binds md e = true → e.on ≠ i := fun e he hb heq => by
        have h1 := hall e he hb
        rw [heq, hu.1] at h1
        cases h1
      have h2 := wpOp_putIf hoj (hfree j oj hoj hji hjun hnot) (fun cs b => hsel i oi cs b hi) (fun cs b => hsel j oj cs b hoj) hQ hy h1
      refine wpOp_mono (fun a' w' h3 => ⟨h3.2.1, ih (listed.setIfInBounds j true) a' w' (hdown.set hj) (fun k ok hk hki hun hno => hfree k ok hk hki ?_ hno) (ready_mono hr (Ne.symm hji)) h3.1 (h3.2.1 hjz) ?_⟩) h2
      · by_cases hjk : j = k
        · subst hjk; exact hjun
        · rw [getD_set_ne true hjk] at hun; exact hun
      · rw [Array.setIfInBounds_comm _ _ hji]
        exact h3.2.2
theorem wpAnyT_take {i : Nat} {oi : Oper} {v : Value} {fuel : Nat} {listed : Array Bool} {a : Act} {w : World} (hz : Shut (isLast md ops z = true)) (hi : ops[i]? = some oi) (hiz : (i == z) = false) (hd : downB md ops listed = true)
    (hs : Region.noSelect ops = true) (hf : Region.free md ops listed i = true) (hr : (Region.ready md ops listed).contains i = true)
    (hQ : ∀ c a w, Q (.panic c) (a.put oi.dst v) w → Q (.panic c) a w) (hy : YieldsIf P ops S oi v a) (hS : S w)
    (h : wpAnyT P md ops Q S z fuel (listed.setIfInBounds i true) (a.put oi.dst v) w) : wpAnyT P md ops Q S z (fuel + 1) listed a w :=
  wpAnyT_first hz.out (by simpa using hiz) hi (Region.noSelect_spec hs) hQ fuel listed a w (downB_spec hd) (Region.free_spec hi hf) (by simpa using hr) hy hS h
theorem wpAnyT_one {i : Nat} {o : Oper} {fuel : Nat} {listed : Array Bool} {a : Act} {w : World} (hr : Region.ready md ops listed = [i]) (ho : ops[i]? = some o)
    (h : ∀ K' : Act → World → Prop, Shut (∀ a w, S w → (S w → wpAnyT P md ops Q S z fuel (listed.setIfInBounds i true) a w) → K' a w) → if Region.wanted o (yielded ops a.tmps) = true then Oper.wp P o a w K' Q else K' (a.put o.dst undef) w) :
    wpAnyT P md ops Q S z (fuel + 1) listed a w :=
  ⟨fun h => (by rw [hr] at h; cases h), fun j hj => by
    rw [hr] at hj
    obtain rfl : j = i := by simpa using hj
    exact wpOp_step ho (fun K' hK => h K' (fun a w hS hW => hK a w ⟨fun _ => hS, hW hS⟩))⟩
theorem wpAnyT_last {o : Oper} {fuel : Nat} {listed : Array Bool} {a : Act} {w : World} (hr : Region.ready md ops listed = [z]) (ho : ops[z]? = some o) (hd : Region.ready md ops (listed.setIfInBounds z true) = [])
    (h : ∀ K' : Act → World → Prop, Shut (∀ a w, Q .normal a w → K' a w) → if Region.wanted o (yielded ops a.tmps) = true then Oper.wp P o a w K' Q else K' (a.put o.dst undef) w) :
    wpAnyT P md ops Q S z (fuel + 1) listed a w :=
  ⟨fun h => (by rw [hr] at h; cases h), fun j hj => by
    rw [hr] at hj
    obtain rfl : j = z := by simpa using hj
    refine wpOp_step ho (fun K' hK => h K' (fun a w hq => hK a w ⟨fun hne => absurd rfl hne, ?_⟩))
    cases fuel with
    | zero => exact ⟨hd, hq⟩
    | succ n => exact ⟨fun _ => hq, by rw [hd]; simp⟩⟩

theorem wp_region_t {id : Nat} {a : Act} {w : World} (z : Nat) (hm : P.follows .mixedOrders = true) (hz : isLast .any ops z = true) (hS : S w.drew)
    (h : Shut (isLast .any ops z = true) → S w.drew → wpAnyT P .any ops Q S z ops.size (Array.replicate ops.size false) a w.drew) : (Code.region id ops true).wp P Q a w :=
  wp_region_any hm (wpAny_of_t _ _ _ _ (h hz hS))
end
end Go.Pw
namespace Go.Pw
open Go.RowKit
theorem rec_range {w : World} {e k g c : Nat} {α : Type} {enc : α → List Value} (hk : ∀ x, (enc x).length = k) {l : List α} (h : w.ownsRow 0 e k (.slice (some ⟨g, 0, none⟩) l.length c) l.length (fl enc l)) {m : Nat} (hm : m < l.length) : w.rangeAt g (m * k) (enc l[m]) := fun j v hj => by
  have hj' : j < k := by have := (List.getElem?_eq_some_iff.1 hj).1; rwa [hk] at this
  have hlt : m * k + j < l.length * k := by
    have : (m + 1) * k ≤ l.length * k := Nat.mul_le_mul_right _ hm
    rw [Nat.add_mul] at this
    omega
  rw [h.cellAt (m * k + j) hlt, fl_at hk hm hj']
  exact hj
theorem rec_cell {w : World} {e k g c : Nat} {α : Type} {enc : α → List Value} (hk : ∀ x, (enc x).length = k) {l : List α} (h : w.ownsRow 0 e k (.slice (some ⟨g, 0, none⟩) l.length c) l.length (fl enc l)) {m : Nat} (hm : m < l.length) (j : Nat) {v : Value} (hj : (enc l[m])[j]? = some v) : w.cell? ⟨g, m * k + j, none⟩ = some v :=
  rec_range hk h hm j v hj
end Go.Pw
namespace Go.Proofs.YtmmhbehlpppdiaaGreatDoor
open Go.RowKit Go.Pw
structure Bu where
  u : Int
  d : Int
  s1 : Value
  s2 : Value
  sg : Int
  s3 : Value
  s4 : Value
  has : Bool
  on : Int
  s5 : Value
  ok : s1.oneCell' = true ∧ s2.oneCell' = true ∧ s3.oneCell' = true ∧ s4.oneCell' = true ∧ s5.oneCell' = true
def bc (b : Bu) : List Value := [.int .i64 b.u, .int .i64 b.d, b.s1, b.s2, .int .u32 b.sg, b.s3, b.s4, .bool b.has, .int .u32 b.on, b.s5]
theorem bc_len (b : Bu) : (bc b).length = 10 := rfl
theorem bc_one (b : Bu) : ∀ u ∈ bc b, u.oneCell' = true := by
  obtain ⟨h1, h2, h3, h4, h5⟩ := b.ok
  intro u hu
  simp only [bc, List.mem_cons, List.not_mem_nil, or_false] at hu
  rcases hu with rfl | rfl | rfl | rfl | rfl | rfl | rfl | rfl | rfl | rfl <;> first | assumption | rfl
def b0 : Bu := ⟨0, 0, .slice none 0 0, .slice none 0 0, 0, .slice none 0 0, .slice none 0 0, false, 0, .slice none 0 0, by simp [Value.oneCell']⟩
structure Li where
  u : Int
  d : Int
  on : Bool
  b : Bu
  v : Value
  os : List Bu
  ok : v.oneCell' = true
def lc (x : Li) : List Value := .int .i64 x.u :: .int .i64 x.d :: .bool x.on :: (bc x.b ++ [x.v])
theorem lc_len (x : Li) : (lc x).length = 14 := rfl
theorem lc_one (x : Li) : ∀ u ∈ lc x, u.oneCell' = true := by
  intro u hu
  simp only [lc, List.mem_cons, List.mem_append, List.not_mem_nil, or_false] at hu
  rcases hu with rfl | rfl | rfl | hu | rfl
  · rfl
  · rfl
  · rfl
  · exact bc_one _ u hu
  · exact x.ok
theorem lc_arr (x : Li) : (lc x).toArray.all (·.oneCell') = true := all_oneCell_toArray (lc_one x)
theorem bc_arr (x : Bu) : (bc x).toArray.all (·.oneCell') = true := all_oneCell_toArray (bc_one x)
def wv (u d : Int) : Value := .agg #[.int .i64 u, .int .i64 d]

set_option maxRecDepth 100000 in
set_option maxHeartbeats 800000 in
theorem lfinds_any (x : Li) (u d : Int) (w : World) :
    Calls Tryz.prog 75 #[.agg (lc x).toArray, wv u d] w fun e w' => e = .returned (.int .i64 (cmpW x.u x.d u d)) ∧ Only w w' [] := by
  simp only [wv]
  have h0 : (lc x).toArray[0]? = some (.int .i64 x.u) := rfl
  have h1 : (lc x).toArray[1]? = some (.int .i64 x.d) := rfl
  generalize lc x = cs at *
  go_enter Tryz.func75, Tryz.ntmps75
  go_wp2_with (first
    | (refine wpList_box_new rfl 90 _ rfl (.agg cs.toArray) rfl ?_; intro X wX oX hXl hX)
    | (refine wpList_box_new rfl 40 _ rfl (.agg #[.int .i64 u, .int .i64 d]) rfl ?_; intro Y wY oY hYl hY; have hX := oY.at hX (by simp); have hx0 := (cell_in hX 0).trans h0; have hx1 := (cell_in hX 1).trans h1; have hy0 := cell_two0 hY; have hy1 := cell_two1 hY))
  refine (compare_any x.u x.d u d _).mono ?_
  rintro e w1 ⟨rfl, ho⟩
  go_wp2_with fail
  go_ret
  exact ⟨rfl, (oX.trans oY).trans ho⟩
def Rise (l : List Li) : Prop := ∀ (u d : Int) (i j : Nat) (hi : i < j) (hj : j < l.length), cmpW l[j].u l[j].d u d < 0 → cmpW (l[i]'(by omega)).u (l[i]'(by omega)).d u d < 0
def placeL (l : List Li) (u d : Int) : Nat := l.findIdx fun r => decide (0 ≤ cmpW r.u r.d u d)
def foundL (l : List Li) (u d : Int) : Bool := match l[placeL l u d]? with
  | none => false
  | some r => cmpW r.u r.d u d == 0
theorem found_at {l : List Li} {u d : Int} (h : foundL l u d = true) : ∃ hk : placeL l u d < l.length, cmpW (l[placeL l u d]).u (l[placeL l u d]).d u d = 0 := by
  unfold foundL at h
  by_cases hk : placeL l u d < l.length
  · rw [List.getElem?_eq_getElem hk] at h
    exact ⟨hk, by simpa using h⟩
  · rw [List.getElem?_eq_none (by omega)] at h
    simp at h
theorem place_le (l : List Li) (u d : Int) : placeL l u d ≤ l.length := List.findIdx_le_length

set_option maxRecDepth 100000 in
set_option maxHeartbeats 3200000 in
theorem search_any {w0 : World} {rs : List Res} (l : List Li) (v : Value) (u d : Int) (w : World) (h : Sep w0 w (row 90 14 v l.length (fl lc l) :: rs)) (hl : l.length ≤ 1000000) (hr : Rise l) :
    Calls Tryz.prog 74 #[v, wv u d, .func (.func 75) #[] #[]] w fun e w' => e = .returned (.tuple #[.int .i64 (placeL l u d), .bool (foundL l u d)]) ∧ Only w w' [] := by
  obtain ⟨ao, c, rfl⟩ := own_slice (show w.ownsRow 0 _ 14 v l.length (fl lc l) from h.head)
  simp only [wv]
  have hW : (w.alloc (.cells #[.int .i64 u, .int .i64 d] 40)).heap[w.heap.size]? = some (.cells #[.int .i64 u, .int .i64 d] 40 (0, 0)) := heap_alloc_new w _
  have s1 := h.quiet (Only.alloc w (.cells #[.int .i64 u, .int .i64 d] 40) [])
  have o1 := Only.alloc w (.cells #[.int .i64 u, .int .i64 d] 40) []
  have HR := Lib.hid hr
  clear h hr
  go_enter Tryz.func74, Tryz.ntmps74
  go_wp2_with fail
  generalize w.alloc (.cells #[.int .i64 u, .int .i64 d] 40) = W at *
  generalize w.heap.size = A at *
  go_loopw [9, 10] (fun x y wr => ∃ i j : Nat, x = .int .i64 i ∧ y = .int .i64 j ∧ i ≤ j ∧ j ≤ l.length ∧ Hid (∀ k (hk : k < l.length), k < i → cmpW l[k].u l[k].d u d < 0) ∧ Hid (∀ k (hk : k < l.length), j ≤ k → 0 ≤ cmpW l[k].u l[k].d u d) ∧ Only W wr []) (fun x y _ => (intOf y).toNat - (intOf x).toNat)
  case atStart => exact ⟨0, l.length, rfl, rfl, Nat.zero_le _, Nat.le_refl _, fun k hk h => by omega, fun k hk h => by omega, Only.refl _ _⟩
  case round =>
    obtain ⟨i, j, rfl, rfl, hij, hj, hlo, hhi, ho⟩ := hrel
    by_cases hlt : i < j
    · have d1 : decide ((i : Int) < j) = true := by simpa using hlt
      obtain ⟨m, hm⟩ : ∃ m, m = (i + j) / 2 := ⟨_, rfl⟩
      have em : ((i : Int) + j) / 2 = m := by omega
      have him : i ≤ m := by omega
      have hmj : m < j := by omega
      have hml : m < l.length := by omega
      obtain ⟨g, rfl, _⟩ := own_some (show W.ownsRow 0 _ 14 (.slice ao l.length c) l.length (fl lc l) from s1.head) (by omega)
      have hrng : ∀ w', Only wr.drew w' [] → w'.rangeAt g (m * 14) (lc l[m]) :=
        fun w' hS => rec_range lc_len (s1.quiet (ho.trans ((Only.drew wr []).trans hS))).head hml
      have htar : ∀ w', Only wr.drew w' [] → w'.cell? ⟨A, 0, none⟩ = some (.int .i64 u) ∧ w'.cell? ⟨A, 1, none⟩ = some (.int .i64 d) := fun w' hS => by
        have := (ho.trans ((Only.drew wr []).trans hS)).at hW (by simp)
        exact ⟨cell_two0 this, cell_two1 this⟩
      have hup : Hid (cmpW l[m].u l[m].d u d < 0 → ∀ k (hk : k < l.length), k < m + 1 → cmpW l[k].u l[k].d u d < 0) := fun hx k hk hkm => by
        by_cases e : k = m
        · subst e; exact hx
        · exact HR.out u d k m (by omega) hml hx
      have hdn : Hid (0 ≤ cmpW l[m].u l[m].d u d → ∀ k (hk : k < l.length), m ≤ k → 0 ≤ cmpW l[k].u l[k].d u d) := fun hx k hk hkm => by
        by_cases e : k = m
        · subst e; exact hx
        · by_cases h0 : cmpW l[k].u l[k].d u d < 0
          · exact absurd (HR.out u d m k (by omega) hk h0) (by omega)
          · omega
      generalize l[m] = x at *
      have HE := Lib.hid em
      clear em hm
      go_upto_region 5 with fail
      rw [HE.out]
      refine wp_region_held_drew (S := fun w' => Only wr.drew w' []) (by kernel_rfl) (Only.refl _ _) (fun hHeld => ?_)
      refine' wpAnyH_take (i := 0) (v := _) (op_at rfl) (by kernel_rfl) (by kernel_rfl) (by kernel_rfl) (fun _ _ _ h => h) (Or.inl ⟨by rfl, ?hy1⟩) (by assumption) ?rest1
      case hy1 =>
        intro w' hS
        go_simp
        try with_reducible rfl
      try simp only [Act.put, List.setIfInBounds_toArray, List.set_cons_zero, List.set_cons_succ]
      refine' wpAnyH_take (i := 1) (v := _) (op_at rfl) (by kernel_rfl) (by kernel_rfl) (by kernel_rfl) (fun _ _ _ h => h) (Or.inl ⟨by rfl, ?hy2⟩) (by assumption) ?rest2
      case hy2 =>
        intro w' hS
        go_simp
        try with_reducible rfl
      try simp only [Act.put, List.setIfInBounds_toArray, List.set_cons_zero, List.set_cons_succ]
      refine' wpAnyH_take (i := 2) (v := _) (op_at rfl) (by kernel_rfl) (by kernel_rfl) (by kernel_rfl) (fun _ _ _ h => h) (Or.inl ⟨by rfl, ?hy3⟩) (by assumption) ?rest3
      case hy3 =>
        intro w' hS
        go_simp
        try with_reducible rfl
      try simp only [Act.put, List.setIfInBounds_toArray, List.set_cons_zero, List.set_cons_succ]
      refine' wpAnyH_take (i := 3) (v := _) (op_at rfl) (by kernel_rfl) (by kernel_rfl) (by kernel_rfl) (fun _ _ _ h => h) (Or.inl ⟨by rfl, ?hy4⟩) (by assumption) ?rest4
      case hy4 =>
        intro w' hS
        go_simp
        try with_reducible rfl
      try simp only [Act.put, List.setIfInBounds_toArray, List.set_cons_zero, List.set_cons_succ]
      refine wpAnyH_take (i := 4) (op_at rfl) (by kernel_rfl) (by kernel_rfl) (by kernel_rfl) (fun _ _ _ h => h) (yieldsIf_load_mid (by rfl) _ _ rfl g (m * 14) rfl (lc x) _ (fun w' hS => hrng w' hS) Tryz.underlying90 (by rfl) (by rw [lc_len]; kernel_rfl)) (by assumption) ?_
      try simp only [Act.put, List.setIfInBounds_toArray, List.set_cons_zero, List.set_cons_succ]
      refine' wpAnyH_take (i := 5) (v := _) (op_at rfl) (by kernel_rfl) (by kernel_rfl) (by kernel_rfl) (fun _ _ _ h => h) (Or.inl ⟨by rfl, ?hy6⟩) (by assumption) ?rest6
      case hy6 =>
        intro w' hS
        obtain ⟨ht0, ht1⟩ := htar w' hS
        go_simp
        try with_reducible rfl
      try simp only [Act.put, List.setIfInBounds_toArray, List.set_cons_zero, List.set_cons_succ]
      refine wpAnyH_ready (rs := [6]) (by kernel_rfl) (by simp) (AllReadyH.cons (op_at rfl) (fun K hK => ?_) AllReadyH.nil)
      go_simp
      refine (lfinds_any x u d _).mono fun e w3 hq => ?_
      obtain ⟨rfl, o3⟩ := hq
      go_wp2_with fail
      refine hK.out _ _ o3 (fun hHeld => ?_)
      clear hK K
      try simp only [Act.put, List.setIfInBounds_toArray, List.set_cons_zero, List.set_cons_succ]
      refine wpAnyH_more (S' := fun w' => Only w3 w' []) (fun w' h => Only.trans o3 h) _ _ _ _ ?_
      clear hHeld
      have hHeld : Only w3 w3 [] := Only.refl _ _
      refine' wpAnyH_take (i := 7) (v := _) (op_at rfl) (by kernel_rfl) (by kernel_rfl) (by kernel_rfl) (fun _ _ _ h => h) (Or.inl ⟨by rfl, ?hy7⟩) (by assumption) ?rest7
      case hy7 =>
        intro w' hS
        go_simp
        try with_reducible rfl
      try simp only [Act.put, List.setIfInBounds_toArray, List.set_cons_zero, List.set_cons_succ]
      refine wpAnyH_done (by kernel_rfl) ?_ _
      by_cases hx : cmpW x.u x.d u d < 0
      · have d2 : decide (cmpW x.u x.d u d < 0) = true := by simpa using hx
        have HU := Lib.hid (hup.out hx)
        clear hup hdn
        go_wp2_with fail
        refine ⟨⟨m + 1, j, by simp, rfl, by omega, hj, HU.out, hhi, (ho.trans (Only.drew wr [])).trans (o3.trans hHeld)⟩, by simp [intOf]; omega⟩
      · have d2 : decide (cmpW x.u x.d u d < 0) = false := by simpa using hx
        have HU := Lib.hid (hdn.out (by omega))
        clear hup hdn
        go_wp2_with fail
        refine ⟨⟨i, m, rfl, rfl, him, by omega, hlo, HU.out, (ho.trans (Only.drew wr [])).trans (o3.trans hHeld)⟩, by simp [intOf]; omega⟩
    · obtain rfl : i = j := by omega
      have d1 : decide ((i : Int) < i) = false := by simp
      have hpl : Hid (placeL l u d = i) := by
        show placeL l u d = i
        unfold placeL
        by_cases h : i < l.length
        · rw [List.findIdx_eq h]
          refine ⟨by simpa using hhi.out i h (Nat.le_refl _), fun k hk => ?_⟩
          have := hlo.out k (by omega) hk
          simp only [decide_eq_false_iff_not]
          omega
        · obtain rfl : i = l.length := by omega
          rw [List.findIdx_eq_length]
          intro r hr
          obtain ⟨k, hk, rfl⟩ := List.mem_iff_getElem.1 hr
          have := hlo.out k hk hk
          simp only [decide_eq_false_iff_not]
          omega
      by_cases hml : i < l.length
      · have d2 : decide ((i : Int) < l.length) = true := by simpa using hml
        obtain ⟨g, rfl, _⟩ := own_some (show W.ownsRow 0 _ 14 (.slice ao l.length c) l.length (fl lc l) from s1.head) (by omega)
        have hrng : ∀ w', Only wr.drew w' [] → w'.rangeAt g (i * 14) (lc l[i]) :=
          fun w' hS => rec_range lc_len (s1.quiet (ho.trans ((Only.drew wr []).trans hS))).head hml
        have htar : ∀ w', Only wr.drew w' [] → w'.cell? ⟨A, 0, none⟩ = some (.int .i64 u) ∧ w'.cell? ⟨A, 1, none⟩ = some (.int .i64 d) := fun w' hS => by
          have := (ho.trans ((Only.drew wr []).trans hS)).at hW (by simp)
          exact ⟨cell_two0 this, cell_two1 this⟩
        have hfd : Hid (foundL l u d = (cmpW l[i].u l[i].d u d == 0)) := by
          show foundL l u d = _
          unfold foundL
          rw [hpl.out, List.getElem?_eq_getElem hml]
        generalize l[i] = x at *
        go_upto_region 8 with fail
        refine wp_region_held_drew (S := fun w' => Only wr.drew w' []) (by kernel_rfl) (Only.refl _ _) (fun hHeld => ?_)
        refine' wpAnyH_take (i := 0) (v := _) (op_at rfl) (by kernel_rfl) (by kernel_rfl) (by kernel_rfl) (fun _ _ _ h => h) (Or.inl ⟨by rfl, ?hy8⟩) (by assumption) ?rest8
        case hy8 =>
          intro w' hS
          go_simp
          try with_reducible rfl
        try simp only [Act.put, List.setIfInBounds_toArray, List.set_cons_zero, List.set_cons_succ]
        refine' wpAnyH_take (i := 1) (v := _) (op_at rfl) (by kernel_rfl) (by kernel_rfl) (by kernel_rfl) (fun _ _ _ h => h) (Or.inl ⟨by rfl, ?hy9⟩) (by assumption) ?rest9
        case hy9 =>
          intro w' hS
          go_simp
          try with_reducible rfl
        try simp only [Act.put, List.setIfInBounds_toArray, List.set_cons_zero, List.set_cons_succ]
        refine' wpAnyH_take (i := 2) (v := _) (op_at rfl) (by kernel_rfl) (by kernel_rfl) (by kernel_rfl) (fun _ _ _ h => h) (Or.inl ⟨by rfl, ?hy10⟩) (by assumption) ?rest10
        case hy10 =>
          intro w' hS
          go_simp
          try with_reducible rfl
        try simp only [Act.put, List.setIfInBounds_toArray, List.set_cons_zero, List.set_cons_succ]
        refine' wpAnyH_take (i := 3) (v := _) (op_at rfl) (by kernel_rfl) (by kernel_rfl) (by kernel_rfl) (fun _ _ _ h => h) (Or.inl ⟨by rfl, ?hy11⟩) (by assumption) ?rest11
        case hy11 =>
          intro w' hS
          go_simp
          try with_reducible rfl
        try simp only [Act.put, List.setIfInBounds_toArray, List.set_cons_zero, List.set_cons_succ]
        refine' wpAnyH_take (i := 4) (v := _) (op_at rfl) (by kernel_rfl) (by kernel_rfl) (by kernel_rfl) (fun _ _ _ h => h) (Or.inl ⟨by rfl, ?hy12⟩) (by assumption) ?rest12
        case hy12 =>
          intro w' hS
          go_simp
          try with_reducible rfl
        try simp only [Act.put, List.setIfInBounds_toArray, List.set_cons_zero, List.set_cons_succ]
        refine' wpAnyH_take (i := 5) (v := _) (op_at rfl) (by kernel_rfl) (by kernel_rfl) (by kernel_rfl) (fun _ _ _ h => h) (Or.inl ⟨by rfl, ?hy13⟩) (by assumption) ?rest13
        case hy13 =>
          intro w' hS
          go_simp
          try with_reducible rfl
        try simp only [Act.put, List.setIfInBounds_toArray, List.set_cons_zero, List.set_cons_succ]
        refine' wpAnyH_take (i := 6) (v := _) (op_at rfl) (by kernel_rfl) (by kernel_rfl) (by kernel_rfl) (fun _ _ _ h => h) (Or.inl ⟨by rfl, ?hy14⟩) (by assumption) ?rest14
        case hy14 =>
          intro w' hS
          go_simp
          try with_reducible rfl
        try simp only [Act.put, List.setIfInBounds_toArray, List.set_cons_zero, List.set_cons_succ]
        refine' wpAnyH_take (i := 7) (v := _) (op_at rfl) (by kernel_rfl) (by kernel_rfl) (by kernel_rfl) (fun _ _ _ h => h) (Or.inl ⟨by rfl, ?hy15⟩) (by assumption) ?rest15
        case hy15 =>
          intro w' hS
          go_simp
          try with_reducible rfl
        try simp only [Act.put, List.setIfInBounds_toArray, List.set_cons_zero, List.set_cons_succ]
        refine' wpAnyH_take (i := 8) (v := _) (op_at rfl) (by kernel_rfl) (by kernel_rfl) (by kernel_rfl) (fun _ _ _ h => h) (Or.inl ⟨by rfl, ?hy16⟩) (by assumption) ?rest16
        case hy16 =>
          intro w' hS
          go_simp
          try with_reducible rfl
        try simp only [Act.put, List.setIfInBounds_toArray, List.set_cons_zero, List.set_cons_succ]
        refine wpAnyH_take (i := 9) (op_at rfl) (by kernel_rfl) (by kernel_rfl) (by kernel_rfl) (fun _ _ _ h => h) (yieldsIf_load_mid (by rfl) _ _ rfl g (i * 14) rfl (lc x) _ (fun w' hS => hrng w' hS) Tryz.underlying90 (by rfl) (by rw [lc_len]; kernel_rfl)) (by assumption) ?_
        try simp only [Act.put, List.setIfInBounds_toArray, List.set_cons_zero, List.set_cons_succ]
        refine' wpAnyH_take (i := 10) (v := _) (op_at rfl) (by kernel_rfl) (by kernel_rfl) (by kernel_rfl) (fun _ _ _ h => h) (Or.inl ⟨by rfl, ?hy18⟩) (by assumption) ?rest18
        case hy18 =>
          intro w' hS
          obtain ⟨ht0, ht1⟩ := htar w' hS
          go_simp
          try with_reducible rfl
        try simp only [Act.put, List.setIfInBounds_toArray, List.set_cons_zero, List.set_cons_succ]
        refine wpAnyH_ready (rs := [11]) (by kernel_rfl) (by simp) (AllReadyH.cons (op_at rfl) (fun K hK => ?_) AllReadyH.nil)
        go_simp
        refine (lfinds_any x u d _).mono fun e w3 hq => ?_
        obtain ⟨rfl, o3⟩ := hq
        go_wp2_with fail
        refine hK.out _ _ o3 (fun hHeld => ?_)
        clear hK K
        try simp only [Act.put, List.setIfInBounds_toArray, List.set_cons_zero, List.set_cons_succ]
        refine wpAnyH_more (S' := fun w' => Only w3 w' []) (fun w' h => Only.trans o3 h) _ _ _ _ ?_
        clear hHeld
        have hHeld : Only w3 w3 [] := Only.refl _ _
        refine' wpAnyH_take (i := 12) (v := _) (op_at rfl) (by kernel_rfl) (by kernel_rfl) (by kernel_rfl) (fun _ _ _ h => h) (Or.inl ⟨by rfl, ?hy19⟩) (by assumption) ?rest19
        case hy19 =>
          intro w' hS
          go_simp
          try with_reducible rfl
        try simp only [Act.put, List.setIfInBounds_toArray, List.set_cons_zero, List.set_cons_succ]
        refine' wpAnyH_take (i := 13) (v := _) (op_at rfl) (by kernel_rfl) (by kernel_rfl) (by kernel_rfl) (fun _ _ _ h => h) (Or.inl ⟨by rfl, ?hy20⟩) (by assumption) ?rest20
        case hy20 =>
          intro w' hS
          go_simp
          try with_reducible rfl
        try simp only [Act.put, List.setIfInBounds_toArray, List.set_cons_zero, List.set_cons_succ]
        refine' wpAnyH_take (i := 14) (v := _) (op_at rfl) (by kernel_rfl) (by kernel_rfl) (by kernel_rfl) (fun _ _ _ h => h) (Or.inl ⟨by rfl, ?hy21⟩) (by assumption) ?rest21
        case hy21 =>
          intro w' hS
          go_simp
          try with_reducible rfl
        try simp only [Act.put, List.setIfInBounds_toArray, List.set_cons_zero, List.set_cons_succ]
        refine' wpAnyH_take (i := 15) (v := _) (op_at rfl) (by kernel_rfl) (by kernel_rfl) (by kernel_rfl) (fun _ _ _ h => h) (Or.inl ⟨by rfl, ?hy22⟩) (by assumption) ?rest22
        case hy22 =>
          intro w' hS
          go_simp
          try with_reducible rfl
        try simp only [Act.put, List.setIfInBounds_toArray, List.set_cons_zero, List.set_cons_succ]
        refine wpAnyH_done (by kernel_rfl) ?_ _
        go_wp2_with fail
        refine bodyPost_ret (v := .tuple #[.int .i64 i, .bool (cmpW x.u x.d u d == 0)]) (by simp [results, Tryz.results74, go_sem]) rfl ?_
        exact ⟨by rw [hpl.out, hfd.out], o1.trans ((ho.trans (Only.drew wr [])).trans (o3.trans hHeld))⟩
      · have d2 : decide ((i : Int) < l.length) = false := by simpa using hml
        have hfd : Hid (foundL l u d = false) := by
          show foundL l u d = _
          unfold foundL
          rw [hpl.out, List.getElem?_eq_none (by omega)]
        go_upto_region 8 with fail
        refine wp_region_held_drew (S := fun w' => Only wr.drew w' []) (by kernel_rfl) (Only.refl _ _) (fun hHeld => ?_)
        refine' wpAnyH_take (i := 0) (v := _) (op_at rfl) (by kernel_rfl) (by kernel_rfl) (by kernel_rfl) (fun _ _ _ h => h) (Or.inl ⟨by rfl, ?hy23⟩) (by assumption) ?rest23
        case hy23 =>
          intro w' hS
          go_simp
          try with_reducible rfl
        try simp only [Act.put, List.setIfInBounds_toArray, List.set_cons_zero, List.set_cons_succ]
        refine' wpAnyH_take (i := 1) (v := _) (op_at rfl) (by kernel_rfl) (by kernel_rfl) (by kernel_rfl) (fun _ _ _ h => h) (Or.inl ⟨by rfl, ?hy24⟩) (by assumption) ?rest24
        case hy24 =>
          intro w' hS
          go_simp
          try with_reducible rfl
        try simp only [Act.put, List.setIfInBounds_toArray, List.set_cons_zero, List.set_cons_succ]
        refine' wpAnyH_take (i := 2) (v := _) (op_at rfl) (by kernel_rfl) (by kernel_rfl) (by kernel_rfl) (fun _ _ _ h => h) (Or.inl ⟨by rfl, ?hy25⟩) (by assumption) ?rest25
        case hy25 =>
          intro w' hS
          go_simp
          try with_reducible rfl
        try simp only [Act.put, List.setIfInBounds_toArray, List.set_cons_zero, List.set_cons_succ]
        refine' wpAnyH_take (i := 3) (v := _) (op_at rfl) (by kernel_rfl) (by kernel_rfl) (by kernel_rfl) (fun _ _ _ h => h) (Or.inl ⟨by rfl, ?hy26⟩) (by assumption) ?rest26
        case hy26 =>
          intro w' hS
          go_simp
          try with_reducible rfl
        try simp only [Act.put, List.setIfInBounds_toArray, List.set_cons_zero, List.set_cons_succ]
        refine' wpAnyH_take (i := 4) (v := _) (op_at rfl) (by kernel_rfl) (by kernel_rfl) (by kernel_rfl) (fun _ _ _ h => h) (Or.inl ⟨by rfl, ?hy27⟩) (by assumption) ?rest27
        case hy27 =>
          intro w' hS
          go_simp
          try with_reducible rfl
        try simp only [Act.put, List.setIfInBounds_toArray, List.set_cons_zero, List.set_cons_succ]
        refine wpAnyH_take (i := 5) (v := undef) (op_at rfl) (by kernel_rfl) (by kernel_rfl) (by kernel_rfl) (fun _ _ _ h => h) (Or.inr ⟨by rfl, rfl⟩) (by assumption) ?_
        try simp only [Act.put, List.setIfInBounds_toArray, List.set_cons_zero, List.set_cons_succ]
        refine wpAnyH_take (i := 6) (v := undef) (op_at rfl) (by kernel_rfl) (by kernel_rfl) (by kernel_rfl) (fun _ _ _ h => h) (Or.inr ⟨by rfl, rfl⟩) (by assumption) ?_
        try simp only [Act.put, List.setIfInBounds_toArray, List.set_cons_zero, List.set_cons_succ]
        refine wpAnyH_take (i := 7) (v := undef) (op_at rfl) (by kernel_rfl) (by kernel_rfl) (by kernel_rfl) (fun _ _ _ h => h) (Or.inr ⟨by rfl, rfl⟩) (by assumption) ?_
        try simp only [Act.put, List.setIfInBounds_toArray, List.set_cons_zero, List.set_cons_succ]
        refine wpAnyH_take (i := 8) (v := undef) (op_at rfl) (by kernel_rfl) (by kernel_rfl) (by kernel_rfl) (fun _ _ _ h => h) (Or.inr ⟨by rfl, rfl⟩) (by assumption) ?_
        try simp only [Act.put, List.setIfInBounds_toArray, List.set_cons_zero, List.set_cons_succ]
        refine wpAnyH_take (i := 9) (v := undef) (op_at rfl) (by kernel_rfl) (by kernel_rfl) (by kernel_rfl) (fun _ _ _ h => h) (Or.inr ⟨by rfl, rfl⟩) (by assumption) ?_
        try simp only [Act.put, List.setIfInBounds_toArray, List.set_cons_zero, List.set_cons_succ]
        refine wpAnyH_take (i := 10) (v := undef) (op_at rfl) (by kernel_rfl) (by kernel_rfl) (by kernel_rfl) (fun _ _ _ h => h) (Or.inr ⟨by rfl, rfl⟩) (by assumption) ?_
        try simp only [Act.put, List.setIfInBounds_toArray, List.set_cons_zero, List.set_cons_succ]
        refine wpAnyH_take (i := 11) (v := undef) (op_at rfl) (by kernel_rfl) (by kernel_rfl) (by kernel_rfl) (fun _ _ _ h => h) (Or.inr ⟨by rfl, rfl⟩) (by assumption) ?_
        try simp only [Act.put, List.setIfInBounds_toArray, List.set_cons_zero, List.set_cons_succ]
        refine wpAnyH_take (i := 12) (v := undef) (op_at rfl) (by kernel_rfl) (by kernel_rfl) (by kernel_rfl) (fun _ _ _ h => h) (Or.inr ⟨by rfl, rfl⟩) (by assumption) ?_
        try simp only [Act.put, List.setIfInBounds_toArray, List.set_cons_zero, List.set_cons_succ]
        refine' wpAnyH_take (i := 13) (v := _) (op_at rfl) (by kernel_rfl) (by kernel_rfl) (by kernel_rfl) (fun _ _ _ h => h) (Or.inl ⟨by rfl, ?hy36⟩) (by assumption) ?rest36
        case hy36 =>
          intro w' hS
          go_simp
          try with_reducible rfl
        try simp only [Act.put, List.setIfInBounds_toArray, List.set_cons_zero, List.set_cons_succ]
        refine' wpAnyH_take (i := 14) (v := _) (op_at rfl) (by kernel_rfl) (by kernel_rfl) (by kernel_rfl) (fun _ _ _ h => h) (Or.inl ⟨by rfl, ?hy37⟩) (by assumption) ?rest37
        case hy37 =>
          intro w' hS
          go_simp
          try with_reducible rfl
        try simp only [Act.put, List.setIfInBounds_toArray, List.set_cons_zero, List.set_cons_succ]
        refine' wpAnyH_take (i := 15) (v := _) (op_at rfl) (by kernel_rfl) (by kernel_rfl) (by kernel_rfl) (fun _ _ _ h => h) (Or.inl ⟨by rfl, ?hy38⟩) (by assumption) ?rest38
        case hy38 =>
          intro w' hS
          go_simp
          try with_reducible rfl
        try simp only [Act.put, List.setIfInBounds_toArray, List.set_cons_zero, List.set_cons_succ]
        refine wpAnyH_done (by kernel_rfl) ?_ _
        go_wp2_with fail
        refine bodyPost_ret (v := .tuple #[.int .i64 i, .bool (false)]) (by simp [results, Tryz.results74, go_sem]) rfl ?_
        exact ⟨by rw [hpl.out, hfd.out], o1.trans ((ho.trans (Only.drew wr [])).trans hHeld)⟩
end Go.Proofs.YtmmhbehlpppdiaaGreatDoor
namespace Go.Pw
open Go.RowKit

theorem wpList_append_sep {P : Program} {w w0 : World} {rs : List Res} {ops : Array Oper} {rest : List Oper} {o : Oper} {a : Act} {Q : Exit → Act → World → Prop} (hgd : o.guard = none) (s x : Operand) (t : TypeId)
    (ho : o.op = .call { callee := .builtin .append, args := #[s, x], argTypes := #[t, t] })
    (e : TypeId) (i : TypeInfo) (z : Value) (size bytes : Nat) (ht : P.underlying t = some (.slice e)) (hi : P.info? e = some i) (hz : i.zero = some z)
    (hsize : i.size = size) (hby : i.bytes = bytes) (hzs : z.cells.size = size) (hsz : 0 < size)
    (v : Value) (n : Nat) (xs : List Value) (hs : a.eval s = v) (hsep : Sep w0 w (row e size v n xs :: rs))
    (xv : Value) (m : Nat) (news : List Value) (hx : a.eval x = xv) (hsrc : Src w xv size m news) (h1 : ∀ u ∈ news, u.oneCell' = true)
    (h63 : n + m ≤ maxLen) (hbytes : (n + m) * bytes ≤ 140737488355328)
    (h : ∀ ao c w', Only w w' v.ownBlock.toList → Sep w0 w' (row e size (.slice ao (n + m) c) (n + m) (xs ++ news) :: rs) → wpList P ops Q rest (a.put o.dst (.slice ao (n + m) c)) w') : wpList P ops Q (o :: rest) a w :=
  wpList_append_src hgd s x t ho e i z size bytes ht hi hz hsize hby hzs hsz v n xs hs hsep.head xv m news hx hsrc h1 h63 hbytes fun v' w' g1 g2 g3 => by
    obtain ⟨ao, c, rfl⟩ := own_slice g1
    exact h ao c w' (Only.grown g2 (fun k hk => by simp [hk])) (hsep.app g1 g2 g3)

theorem step_append_sep {P : Program} {ops : Array Oper} {o : Oper} {a : Act} {w w0 : World} {rs : List Res} {K : Act → World → Prop} {Q : Exit → Act → World → Prop} {E : Prop}
    (hg : o.guard = none) (s x : Operand) (t : TypeId) (hop : o.op = Op.call { callee := Callee.builtin Builtin.append, args := #[s, x], argTypes := #[t, t] })
    (e : TypeId) (i : TypeInfo) (z : Value) (size bytes : Nat) (ht : P.underlying t = some (.slice e)) (hi : P.info? e = some i) (hz : i.zero = some z)
    (hsize : i.size = size) (hby : i.bytes = bytes) (hzs : z.cells.size = size) (hsz : 0 < size)
    (v : Value) (n : Nat) (xs : List Value) (hs : a.eval s = v) (hsep : Sep w0 w (row e size v n xs :: rs))
    (xv : Value) (m : Nat) (news : List Value) (hx : a.eval x = xv) (hsrc : Src w xv size m news) (h1 : ∀ u ∈ news, u.oneCell' = true)
    (h63 : n + m ≤ maxLen) (hbytes : (n + m) * bytes ≤ 140737488355328)
    (hK : ∀ ao c w', Only w w' v.ownBlock.toList → Sep w0 w' (row e size (.slice ao (n + m) c) (n + m) (xs ++ news) :: rs) → K (a.put o.dst (.slice ao (n + m) c)) w') :
    if Region.wanted o (yielded ops a.tmps) = true then Oper.wp P o a w K Q else E :=
  step_append_src hg s x t hop e i z size bytes ht hi hz hsize hby hzs hsz v n xs hs hsep.head xv m news hx hsrc h1 h63 hbytes fun v' w' g1 g2 g3 => by
    obtain ⟨ao, c, rfl⟩ := own_slice g1
    exact hK ao c w' (Only.grown g2 (fun k hk => by simp [hk])) (hsep.app g1 g2 g3)
theorem fl_set_same {α : Type} {enc : α → List Value} {l : List α} {k : Nat} {x y : α} (h : enc x = enc y) : fl enc (l.set k x) = fl enc (l.set k y) := by
  induction l generalizing k with
  | nil => rfl
  | cons a l ih =>
    cases k with
    | zero => simp only [List.set_cons_zero, fl_cons, h]
    | succ k => simp only [List.set_cons_succ, fl_cons, ih]
def wc (p : Int × Int) : List Value := [.int .i64 p.1, .int .i64 p.2]
theorem wc_len (p : Int × Int) : (wc p).length = 2 := rfl
theorem wc_one (p : Int × Int) : ∀ u ∈ wc p, u.oneCell' = true := by simp [wc, Value.oneCell']

theorem foldl_setL (cs : List Value) : ∀ (n : Nat) (z : Array Value), (cs.zipIdx n).foldl (fun (a : Array Value) (x : Value × Nat) => a.setIfInBounds (0 + x.2) x.1) z = (setL z.toList n cs).toArray := by
  induction cs with
  | nil => intro n z; simp [setL]
  | cons c cs ih =>
    intro n z
    rw [List.zipIdx_cons, List.foldl_cons, ih]
    simp [setL]
theorem run_buildSlice_one {P : Program} (w : World) (t e : TypeId) (i : TypeInfo) (z : Value) (cs : List Value) (ht : P.underlying t = some (.slice e)) (hi : P.info? e = some i) (hz : i.zero = some z) (hs : i.size = cs.length) (hzs : z.cells.size = cs.length) (h0 : 0 < cs.length) (hb : cs.length ≤ 1000) :
    (Instr.buildSlice t 1 #[(0, .agg cs.toArray)]).run P w = .ok (.slice (some ⟨w.heap.size, 0, none⟩) 1 1) (w.alloc (.cells cs.toArray e)) := by
  have hne : ¬ (cs.length = 0) := by omega
  have hb2 : ¬ (16777216 < cs.length) := by omega
  have hfold : Array.foldl (fun (a : Array Value) (x : Value × Nat) => a.setIfInBounds (0 + x.2) x.1) ((Array.range cs.length).map (z.cells[· % z.cells.size]!)) cs.toArray.zipIdx = cs.toArray := by
    rw [← Array.foldl_toList]
    have e1 : cs.toArray.zipIdx.toList = cs.zipIdx 0 := by simp
    rw [e1, foldl_setL, setL_all _ _ (by simp)]
  have hv : (Value.agg cs.toArray).cells = cs.toArray := rfl
  generalize hzc : z.cells = zc at *
  have hfill : Instr.fill (fun i => some (i * cs.length, cs.length)) ((Array.range cs.length).map (zc[· % zc.size]!)) [(0, .agg cs.toArray)] = some cs.toArray := by
    simp only [Instr.fill, hv, Nat.zero_mul]
    rw [if_neg (by simp)]
    rw [hfold]
  have hnv : ∀ cells : Array Value, (newRow e cells).run P w = .ok ⟨w.heap.size, 0, none⟩ (w.alloc (.cells cells e)) := fun cells => by simp [newRow, newObj, go_sem]; rfl
  have hzv : (zeroValue e).run P w = .ok z w := by simp [zeroValue, typeInfo, hi, hz]
  have hsz : (sizeOf e).run P w = .ok cs.length w := by simp [sizeOf, typeInfo, hi, hs]
  simp only [Instr.buildSlice, Sem.run_bind, run_underlying ht, Result.andThen_ok, hsz, Nat.one_mul]
  rw [if_neg (by omega), if_neg hne]
  simp only [Sem.run_bind, hzv, Result.andThen_ok, Sem.run_pure, hzc, hfill, hnv]
theorem step_buildSlice_one {P : Program} {ops : Array Oper} {o : Oper} {a : Act} {w : World} {K : Act → World → Prop} {Q : Exit → Act → World → Prop} {E : Prop}
    (hg : o.guard = none) (t : TypeId) (x : Operand) (hop : o.op = .buildSlice t 1 #[(0, x)]) (e : TypeId) (i : TypeInfo) (z : Value) (cs : List Value) (hx : a.eval x = .agg cs.toArray)
    (ht : P.underlying t = some (.slice e)) (hi : P.info? e = some i) (hz : i.zero = some z) (hs : i.size = cs.length) (hzs : z.cells.size = cs.length) (h0 : 0 < cs.length) (hb : cs.length ≤ 1000)
    (hK : ∀ X w', Only w w' [] → w.heap.size ≤ X → w'.heap[X]? = some (.cells cs.toArray e (0, 0)) → K (a.put o.dst (.slice (some ⟨X, 0, none⟩) 1 1)) w') :
    if Region.wanted o (yielded ops a.tmps) = true then Oper.wp P o a w K Q else E := by
  have hw : Region.wanted o (yielded ops a.tmps) = true := by simp [Region.wanted, hg]
  rw [if_pos hw]
  unfold Oper.wp execOp
  have hr := run_buildSlice_one (P := P) w t e i z cs ht hi hz hs hzs h0 hb
  simp only [hop, List.map_toArray, List.map_cons, List.map_nil, hx, Sem.run_bind, hr, Result.andThen_ok]
  exact hK _ _ (Only.alloc _ _ _) (Nat.le_refl _) (heap_alloc_new w _)
theorem wpList_buildSlice_one {P : Program} {ops : Array Oper} {rest : List Oper} {o : Oper} {a : Act} {w : World} {Q : Exit → Act → World → Prop}
    (hg : o.guard = none) (t : TypeId) (x : Operand) (hop : o.op = .buildSlice t 1 #[(0, x)]) (e : TypeId) (i : TypeInfo) (z : Value) (cs : List Value) (hx : a.eval x = .agg cs.toArray)
    (ht : P.underlying t = some (.slice e)) (hi : P.info? e = some i) (hz : i.zero = some z) (hs : i.size = cs.length) (hzs : z.cells.size = cs.length) (h0 : 0 < cs.length) (hb : cs.length ≤ 1000)
    (h : ∀ X w', Only w w' [] → w.heap.size ≤ X → w'.heap[X]? = some (.cells cs.toArray e (0, 0)) → wpList P ops Q rest (a.put o.dst (.slice (some ⟨X, 0, none⟩) 1 1)) w') : wpList P ops Q (o :: rest) a w :=
  wpList_plain hg fun _ hK => by
    unfold Oper.wp execOp
    have hr := run_buildSlice_one (P := P) w t e i z cs ht hi hz hs hzs h0 hb
    simp only [hop, List.map_toArray, List.map_cons, List.map_nil, hx, Sem.run_bind, hr, Result.andThen_ok]
    exact hK _ _ (h _ _ (Only.alloc _ _ _) (Nat.le_refl _) (heap_alloc_new w _))
theorem src_blk {w : World} {X k : Nat} {cs : List Value} {t : TypeId} {fr : Nat × Nat} (h : w.heap[X]? = some (.cells cs.toArray t fr)) (hk : cs.length = 1 * k) : Src w (.slice (some ⟨X, 0, none⟩) 1 1) k 1 cs :=
  ⟨_, _, rfl, Nat.le_refl _, by decide, hk, by simp, fun b hb j u hj => by
    obtain rfl : b = ⟨X, 0, none⟩ := by simpa using hb.symm
    rw [Addr.add_lit, Pw.cell_in h, Nat.zero_add]
    simpa using hj⟩
theorem blk_row {w : World} {X n k : Nat} {cs : List Value} {t : TypeId} (h : w.heap[X]? = some (.cells cs.toArray t (0, 0))) (hk : cs.length = n * k) (hn : n ≤ maxLen) : w.ownsRow 0 t k (.slice (some ⟨X, 0, none⟩) n n) n cs :=
  ⟨hk, .inr ⟨X, n, cs.toArray, rfl, Nat.zero_le _, h, Nat.le_refl _, hn, by simpa using hk, by simp [List.take_of_length_le (Nat.le_of_eq hk)]⟩⟩
end Go.Pw
namespace Go.Pw
open Go.RowKit
def exR {α : Type} (fp : List Nat) (f : α → Res) (hf : ∀ x, (f x).fp = fp) (p : α → Prop) : Res where
  fp := fp
  ok w := ∃ x, p x ∧ (f x).ok w
  loc w w' h k := by
    obtain ⟨x, h1, h2⟩ := k
    exact ⟨x, h1, (f x).loc w w' (fun i hi => h i (hf x ▸ hi)) h2⟩
  lt w h k hk := by
    obtain ⟨x, h1, h2⟩ := h
    exact (f x).lt w h2 k (by rw [hf x]; exact hk)
theorem Sep.more {w0 w w' : World} {rs rs' : List Res} (h : Sep w0 w rs) (h' : Sep w w' rs') : Sep w0 w' (rs' ++ rs) := by
  refine ⟨h.only.trans h'.only, fun r hr => ?_, fun r hr k hk => ?_, List.pairwise_append.2 ⟨h'.apart, h.apart, fun a ha b hb k hk hkb => ?_⟩⟩
  · rcases List.mem_append.1 hr with hr | hr
    · exact h'.ok r hr
    · exact Res.only (h.ok r hr) h'.only (by simp)
  · rcases List.mem_append.1 hr with hr | hr
    · have := h'.new r hr k hk
      have := h.only.size
      omega
    · exact h.new r hr k hk
  · have h1 := h'.new a ha k hk
    have h2 := b.lt w (h.ok b hb) k hkb
    omega
end Go.Pw
namespace Go.Proofs.YtmmhbehlpppdiaaGreatDoor.Wl
open Go.RowKit Go.Pw

structure Tm where
  k : Int
  ov : Value
  os : List Int
  s : ByteArray
  n : Int
  ok : ov.oneCell' = true
  hk : 0 ≤ k ∧ k < 256 ∧ k ≠ 4
  hn : -9223372036854775808 ≤ n ∧ n ≤ 9223372036854775807
  ho : ∀ z ∈ os, -9223372036854775808 ≤ z ∧ z ≤ 9223372036854775807
  hs : s.size ≤ 1000000
  hl : os.length ≤ 1000000
def tc (x : Tm) : List Value := [.int .u8 x.k, x.ov, .string x.s, .int .i64 x.n]
theorem tc_len (x : Tm) : (tc x).length = 4 := rfl
theorem tc_one (x : Tm) : ∀ u ∈ tc x, u.oneCell' = true := by
  intro u hu
  simp only [tc, List.mem_cons, List.not_mem_nil, or_false] at hu
  rcases hu with rfl | rfl | rfl | rfl
  · rfl
  · exact x.ok
  · rfl
  · rfl
theorem tc_arr (x : Tm) : (tc x).toArray.all (·.oneCell') = true := all_oneCell_toArray (tc_one x)
def ofR (x : Tm) : Res := row 3 1 x.ov x.os.length (x.os.map (Value.int .i64))
abbrev tabR (TB TM : Nat) (v : Value) (l : List Tm) (rs : List Res) : List Res :=
  row 296 4 v l.length (fl tc l) :: blk TB [v, .map (some TM)] 242 :: mapT TM l.length :: many (l.map ofR) :: rs
def byR (v : Value) (n : Nat) : Res := exR v.ownBlock.toList (fun xs : List Int => row 5 1 v n (xs.map (Value.int .u8))) (fun _ => rfl) fun xs => xs.length = n ∧ ∀ x ∈ xs, 0 ≤ x ∧ x < 256

theorem len_any {w0 : World} {rs : List Res} (TB TM : Nat) (v : Value) (l : List Tm) (w : World) (h : Sep w0 w (tabR TB TM v l rs)) :
    Calls Tryz.prog 188 #[.pointer (some ⟨TB, 0, none⟩)] w fun e w' => e = .returned (.int .i64 l.length) ∧ Only w w' [] := by
  have hb : w.heap[TB]? = _ := h.get 1 rfl
  have c0 := cell_two0 hb
  obtain ⟨ao, c, rfl⟩ := own_slice (h.get 0 rfl)
  go_enter Tryz.func188, Tryz.ntmps188
  go_wp2_with fail
  go_ret
  exact ⟨rfl, Only.refl _ _⟩

def tZ : Tm := ⟨0, .slice none 0 0, [], ⟨#[]⟩, 0, rfl, by decide, by decide, by simp, by decide, by decide⟩
def TGot (l : List Tm) (w : World) (e : Ending) (w' : World) : Prop := ∃ x b, e = .returned (.tuple #[.agg (tc x).toArray, .bool b]) ∧ Only w w' [] ∧ ((b = false ∧ x = tZ) ∨ (b = true ∧ x ∈ l))
set_option maxRecDepth 100000 in
theorem get_any {w0 : World} {rs : List Res} (TB TM : Nat) (v : Value) (l : List Tm) (i : Int) (w : World) (h : Sep w0 w (tabR TB TM v l rs)) (hl : l.length ≤ 1000000) :
    Calls Tryz.prog 259 #[.pointer (some ⟨TB, 0, none⟩), .int .i64 i] w (TGot l w) := by
  have hb : w.heap[TB]? = _ := h.get 1 rfl
  have c0 := cell_two0 hb
  have hrow := h.get 0 rfl
  obtain ⟨ao, c, rfl⟩ := own_slice hrow
  by_cases hout : i < 0 ∨ (l.length : Int) ≤ i
  · go_enter Tryz.func259, Tryz.ntmps259
    go_wp2_with (first
      | (refine wpList_alloc_new rfl 296 rfl (.agg (tc tZ).toArray) (fun _ => by kernel_rfl) ?_; intro X wX oX lX bX; have c0 := cell_two0 (oX.at hb (by simp)))
      | (refine wpList_store_blk rfl 296 _ _ rfl X (tc tZ) rfl rfl bX rfl (by kernel_rfl) (tc_arr _) ?_; intro wY oY bY))
    all_goals first
      | (exfalso; omega)
      | (have d0 := cell_in bY 0
         have d1 := cell_in bY 1
         have d2 := cell_in bY 2
         have d3 := cell_in bY 3
         refine bodyPost_ret (v := .tuple #[.agg (tc tZ).toArray, .bool false]) (by simp [results, Tryz.results259, go_sem, d0, d1, d2, d3, tc, tZ]) rfl ?_
         exact ⟨tZ, false, rfl, oX.new oY (fun k hk => by simp only [List.mem_singleton] at hk; omega), .inl ⟨rfl, rfl⟩⟩)
  · obtain ⟨k, rfl⟩ := Int.eq_ofNat_of_zero_le (show 0 ≤ i by omega)
    have hk : k < l.length := by omega
    obtain ⟨g, rfl, _⟩ := own_some hrow (by omega)
    have hr := fun (w' : World) (o : Only w w' []) => rec_range tc_len ((h.quiet o).get 0 rfl) hk
    have hm : l[k] ∈ l := List.getElem_mem hk
    generalize l[k] = x at hr hm
    have d1 : decide ((k : Int) < 0) = false := by simp
    have d2 : decide ((l.length : Int) ≤ k) = false := by simp; omega
    clear hrow h
    go_enter Tryz.func259, Tryz.ntmps259
    go_wp2_with (first
      | (refine wpList_alloc_new rfl 296 rfl (.agg (tc tZ).toArray) (fun _ => by kernel_rfl) ?_; intro X wX oX lX bX; have c0 := cell_two0 (oX.at hb (by simp)); have hrX := hr _ oX)
      | (refine wpList_load_mid rfl 296 _ rfl g (k * 4) rfl (tc x) _ hrX Tryz.underlying296 (by rfl) (by kernel_rfl) ?_)
      | (refine wpList_store_blk rfl 296 _ _ rfl X (tc x) rfl rfl bX rfl (by kernel_rfl) (tc_arr _) ?_; intro wY oY bY))
    all_goals first
      | (exfalso; omega)
      | (have d0 := cell_in bY 0
         have d1 := cell_in bY 1
         have d2 := cell_in bY 2
         have d3 := cell_in bY 3
         refine bodyPost_ret (v := .tuple #[.agg (tc x).toArray, .bool true]) (by simp [results, Tryz.results259, go_sem, d0, d1, d2, d3, tc]) rfl ?_
         exact ⟨x, true, rfl, oX.new oY (fun k hk => by simp only [List.mem_singleton] at hk; omega), .inr ⟨rfl, hm⟩⟩)
end Go.Proofs.YtmmhbehlpppdiaaGreatDoor.Wl
namespace Go.Proofs.YtmmhbehlpppdiaaGreatDoor.Wl
open Go.RowKit Go.Pw

theorem info_u8 : (Tryz.prog.info? 5).map (fun i => (i.zero, i.size, i.bytes)) = some (some (.int .u8 0), 1, 1) := by kernel_rfl
theorem make_bytes (w : World) (k : Nat) (hk : k ≤ 1000000) :
    (Instr.makeSlice 22 (.int .i64 (k : Int)) (.int .i64 (k : Int))).run Tryz.prog w = .ok (.slice (some ⟨w.heap.size, 0, none⟩) k k) (w.alloc (.cells ((List.replicate k (Value.int .u8 0)).toArray) 5)) := by
  obtain ⟨i0, hi, hz0, hz1, hz2⟩ := info_parts info_u8
  have h := run_make (P := Tryz.prog) w 22 5 i0 (.int .u8 0) Tryz.underlying22 hi hz0 .i64 .i64 k k (by omega) (Int.le_refl _) (by rw [hz2]; omega) (by omega)
  rw [hz1, Int.toNat_natCast, Nat.mul_one] at h
  rw [h]
  have : madeCells (Value.int .u8 0).cells k = (List.replicate k (Value.int .u8 0)).toArray := by
    apply Array.toList_inj.1
    rw [show (Value.int .u8 0).cells = #[Value.int .u8 0] from rfl, toList_madeCells_one]
  rw [this]
def Byt (xs : List Int) : Prop := ∀ x ∈ xs, 0 ≤ x ∧ x < 256
theorem Byt.set {xs : List Int} (h : Byt xs) (k : Nat) {u : Int} (hu : 0 ≤ u ∧ u < 256) : Byt (xs.set k u) := fun x hx => by
  rcases List.mem_or_eq_of_mem_set hx with h1 | rfl
  · exact h x h1
  · exact hu
theorem byt_rep (n : Nat) : Byt (List.replicate n 0) := fun x hx => by
  rw [List.eq_of_mem_replicate hx]
  decide
theorem by_cell {w : World} {g n c : Nat} {xs : List Int} (h : w.ownsRow 0 5 1 (.slice (some ⟨g, 0, none⟩) n c) n (xs.map (Value.int .u8))) {k : Nat} (hk : k < xs.length) : w.cell? ⟨g, k, none⟩ = some (.int .u8 xs[k]) := by
  have hl : xs.length = n := by simpa using h.1
  rw [h.cellAt k (by omega), List.getElem?_map, List.getElem?_eq_getElem hk]
  rfl
theorem by_set {w0 w : World} {rs : List Res} {g n c : Nat} {xs : List Int} (h : Sep w0 w (row 5 1 (.slice (some ⟨g, 0, none⟩) n c) n (xs.map (Value.int .u8)) :: rs)) (k : Nat) (u : Int) : Sep w0 (w.setCell ⟨g, k, none⟩ (.int .u8 u)) (row 5 1 (.slice (some ⟨g, 0, none⟩) n c) n ((xs.set k u).map (Value.int .u8)) :: rs) := by
  have := h.puts k [.int .u8 u]
  rw [List.map_set]
  exact this
theorem by_up {w0 w : World} {rs : List Res} {v : Value} {n : Nat} {xs : List Int} (h : Sep w0 w (row 5 1 v n (xs.map (Value.int .u8)) :: rs)) (hl : xs.length = n) (hb : Byt xs) : Sep w0 w (byR v n :: rs) :=
  h.step (b := byR v n) (L := []) (Only.refl _ _) (by simp) ⟨xs, ⟨hl, hb⟩, h.head⟩ (fun k hk => .inl hk)

set_option maxRecDepth 100000 in
set_option maxHeartbeats 800000 in
theorem tbytes_any (i : Int) (w : World) : Calls Tryz.prog 176 #[.int .i64 i] w fun e w' => ∃ v, e = .returned v ∧ Sep w w' [byR v 32] := by
  have hmk : (Instr.makeSlice 22 (.int .i64 32) (.int .i64 32)).run Tryz.prog w = _ := make_bytes w 32 (by decide)
  have hg := heap_alloc_new w (.cells ((List.replicate 32 (Value.int .u8 0)).toArray) 5)
  have s1 : Sep w (w.alloc (.cells ((List.replicate 32 (Value.int .u8 0)).toArray) 5)) [row 5 1 (.slice (some ⟨w.heap.size, 0, none⟩) 32 32) 32 ((List.replicate 32 (0 : Int)).map (Value.int .u8))] :=
    (Sep.nil w).add (Only.alloc _ _ _) (blk_row hg rfl (by decide)) (fun k hk => by simp [row, Value.ownBlock] at hk; omega)
  generalize w.alloc (.cells ((List.replicate 32 (Value.int .u8 0)).toArray) 5) = V at *
  generalize w.heap.size = B at *
  have c0 := by_cell (show V.ownsRow 0 _ _ _ _ _ from s1.head) (k := 0) (by simp)
  have f0 := (show V.ownsRow 0 _ _ _ _ _ from s1.head).frozenAt 0
  have s2 := by_set s1 0 84
  have hb2 := (byt_rep 32).set 0 (u := 84) (by decide)
  have hl2 : ((List.replicate 32 (0 : Int)).set 0 84).length = 32 := by simp
  clear s1 hg
  generalize (List.replicate 32 (0 : Int)).set 0 84 = x0 at *
  go_enter Tryz.func176, Tryz.ntmps176
  go_wp2_with fail
  go_loopw [8] (fun x wr => ∃ (k : Nat) (xs : List Int), x = .int .i64 k ∧ k ≤ 8 ∧ xs.length = 32 ∧ Byt xs ∧ Sep w wr [row 5 1 (.slice (some ⟨B, 0, none⟩) 32 32) 32 (xs.map (Value.int .u8))]) (fun x _ => 8 - (intOf x).toNat)
  case atStart => exact ⟨0, x0, rfl, Nat.zero_le _, hl2, hb2, s2⟩
  case round =>
    obtain ⟨k, xs, rfl, hk, hl, hb, hs⟩ := hrel
    by_cases hk8 : k < 8
    · have d1 : decide ((k : Int) < 8) = true := by simpa using (show (k : Int) < 8 by omega)
      have e1 : IntKind.i64.wrap (1 + (k : Int)) = ((1 + k : Nat) : Int) := by rw [IntWalk.i64_in _ (by omega)]; omega
      have c1 := by_cell (show wr.ownsRow 0 _ _ _ _ _ from hs.head) (k := 1 + k) (by omega)
      have f1 := (show wr.ownsRow 0 _ _ _ _ _ from hs.head).frozenAt (1 + k)
      have s3 := fun u => by_set hs (1 + k) u
      go_wp2_with fail
      exact ⟨⟨k + 1, xs.set (1 + k) _, by simp, by omega, by simpa using hl, hb.set _ ⟨Int.emod_nonneg _ (by decide), Int.emod_lt_of_pos _ (by decide)⟩, s3 _⟩, by simp [intOf]; omega⟩
    · obtain rfl : k = 8 := by omega
      have d1 : decide (((8 : Nat) : Int) < 8) = false := by simp
      go_wp2_with fail
      go_ret
      exact ⟨_, rfl, by_up hs hl hb⟩
end Go.Proofs.YtmmhbehlpppdiaaGreatDoor.Wl
namespace Go.Pw
open Go.RowKit
section
variable {P : Program} {ops : Array Oper} {Q : Exit → Act → World → Prop} {md : Region.Mode} {S S' : World → Prop} {z : Nat} {xs : List Nat}
def isTail (md : Region.Mode) (ops : Array Oper) (z : Nat) (xs : List Nat) : Bool := (List.range ops.size).all fun j => decide (j < z) || (List.range z).all fun i => xs.contains i || (clos md ops 6 (deps md ops j)).contains i

theorem tail_spec {listed : Array Bool} (hz : isTail md ops z xs = true) (hd : Down md ops listed) {j : Nat} (hr : j ∈ Region.ready md ops listed) (hj : z ≤ j) {i : Nat} (hi : i < z) (hx : i ∉ xs) : listed.getD i false = true := by
  obtain ⟨_, o, ho, hall⟩ := mem_ready.1 hr
  have h0 : ∀ d ∈ deps md ops j, listed.getD d false = true := fun d hdd => by
    obtain ⟨e, h1, h2, rfl⟩ := (deps_of ho).1 hdd
    exact hall e h1 h2
  have h1 := List.all_eq_true.1 hz j (List.mem_range.2 (Array.getElem?_eq_some_iff.1 ho).1)
  have hn : ¬ j < z := by omega
  simp only [Bool.or_eq_true, decide_eq_true_eq, hn, false_or] at h1
  have h2 := List.all_eq_true.1 h1 i (List.mem_range.2 hi)
  simp only [Bool.or_eq_true, List.contains_iff_mem, hx, false_or] at h2
  exact clos_listed hd _ _ h0 i h2
def wpAnyU (P : Program) (md : Region.Mode) (ops : Array Oper) (Q : Exit → Act → World → Prop) (S : World → Prop) (z : Nat) : Nat → Array Bool → Act → World → Prop
  | 0, listed, a, w => Region.ready md ops listed = [] ∧ Q .normal a w
  | fuel + 1, listed, a, w =>
    (Region.ready md ops listed = [] → Q .normal a w) ∧
    ∀ i ∈ Region.ready md ops listed, wpOp P ops Q i (fun a' w' => (i < z → S w') ∧ wpAnyU P md ops Q S z fuel (listed.setIfInBounds i true) a' w') a w

theorem wpAny_of_u : ∀ (fuel : Nat) (listed : Array Bool) (a : Act) (w : World), wpAnyU P md ops Q S z fuel listed a w → wpAny P md ops Q fuel listed a w
  | 0, _, _, _, h => h
  | fuel + 1, _, _, _, h => ⟨h.1, fun i hi => wpOp_mono (fun a' w' h' => wpAny_of_u fuel _ a' w' h'.2) (h.2 i hi)⟩
theorem wpAnyH_of_u : ∀ (fuel : Nat) (listed : Array Bool) (a : Act) (w : World), wpAnyU P md ops Q S z fuel listed a w → wpAnyH P md ops Q (fun _ => True) fuel listed a w
  | 0, _, _, _, h => h
  | fuel + 1, _, _, _, h => ⟨h.1, fun i hi => wpOp_mono (fun a' w' h' => ⟨trivial, wpAnyH_of_u fuel _ a' w' h'.2⟩) (h.2 i hi)⟩
theorem wpAnyU_first {i : Nat} {oi : Oper} {v : Value} (hz : isTail md ops z xs = true) (hiz : i < z) (hix : i ∉ xs) (hi : ops[i]? = some oi) (hsel : ∀ (j : Nat) (o : Oper) cs b, ops[j]? = some o → o.op ≠ .select cs b)
    (hQ : ∀ c a w, Q (.panic c) (a.put oi.dst v) w → Q (.panic c) a w) :
    ∀ (fuel : Nat) (listed : Array Bool) (a : Act) (w : World), Down md ops listed →
      (∀ j oj, ops[j]? = some oj → j ≠ i → listed.getD j true = false → (∀ e ∈ oj.after, Region.binds md e = true → e.on ≠ i) → oi.apart ops oj = true) →
      i ∈ Region.ready md ops listed → YieldsIf P ops S oi v a → S w →
      wpAnyU P md ops Q S z fuel (listed.setIfInBounds i true) (a.put oi.dst v) w → wpAnyU P md ops Q S z (fuel + 1) listed a w := by
  intro fuel
  induction fuel with
  | zero =>
    intro listed a w _ _ hr hy hS H
    refine ⟨fun h => (by rw [h] at hr; cases hr), fun j hj => ?_⟩
    by_cases hji : j = i
    · subst hji; exact hy.wpOp hi hS ⟨fun _ => hS, H⟩
    · have := ready_mono hj hji
      rw [H.1] at this
      cases this
  | succ fuel ih =>
    intro listed a w hdown hfree hr hy hS H
    refine ⟨fun h => (by rw [h] at hr; cases hr), fun j hj => ?_⟩
    by_cases hji : j = i
    · subst hji; exact hy.wpOp hi hS ⟨fun _ => hS, H⟩
    · have hu := unlisted hr
      have hjz : j < z := by
        rcases Nat.lt_or_ge j z with h | h
        · exact h
        · have := tail_spec hz hdown hj h hiz hix
          rw [hu.1] at this
          cases this
      have h1 := H.2 j (ready_mono hj hji)
      obtain ⟨hjun, oj, hoj, hall⟩ := mem_ready.1 hj
      have hnot : ∀ e ∈ oj.after, Region.binds md e = true → e.on ≠ i := fun e he hb heq => by
        have h1 := hall e he hb
        rw [heq, hu.1] at h1
        cases h1
      have h2 := wpOp_putIf hoj (hfree j oj hoj hji hjun hnot) (fun cs b => hsel i oi cs b hi) (fun cs b => hsel j oj cs b hoj) hQ hy h1
      refine wpOp_mono (fun a' w' h3 => ⟨h3.2.1, ih (listed.setIfInBounds j true) a' w' (hdown.set hj) (fun k ok hk hki hun hno => hfree k ok hk hki ?_ hno) (ready_mono hr (Ne.symm hji)) h3.1 (h3.2.1 hjz) ?_⟩) h2
      · by_cases hjk : j = k
        · subst hjk; exact hjun
        · rw [getD_set_ne true hjk] at hun; exact hun
      · rw [Array.setIfInBounds_comm _ _ hji]
        exact h3.2.2
theorem wpAnyU_take {i : Nat} {oi : Oper} {v : Value} {fuel : Nat} {listed : Array Bool} {a : Act} {w : World} (hz : Shut (isTail md ops z xs = true)) (hi : ops[i]? = some oi) (hiz : (decide (i < z) && !xs.contains i) = true) (hd : downB md ops listed = true)
    (hs : Region.noSelect ops = true) (hf : Region.free md ops listed i = true) (hr : (Region.ready md ops listed).contains i = true)
    (hQ : ∀ c a w, Q (.panic c) (a.put oi.dst v) w → Q (.panic c) a w) (hy : YieldsIf P ops S oi v a) (hS : S w)
    (h : wpAnyU P md ops Q S z fuel (listed.setIfInBounds i true) (a.put oi.dst v) w) : wpAnyU P md ops Q S z (fuel + 1) listed a w := by
  rw [Bool.and_eq_true, decide_eq_true_eq] at hiz
  exact wpAnyU_first hz.out hiz.1 (by simpa using hiz.2) hi (Region.noSelect_spec hs) hQ fuel listed a w (downB_spec hd) (Region.free_spec hi hf) (by simpa using hr) hy hS h
theorem wpAnyU_one {i : Nat} {o : Oper} {fuel : Nat} {listed : Array Bool} {a : Act} {w : World} (hr : Region.ready md ops listed = [i]) (ho : ops[i]? = some o)
    (h : ∀ K' : Act → World → Prop, Shut (∀ a w, S w → (S w → wpAnyU P md ops Q S z fuel (listed.setIfInBounds i true) a w) → K' a w) → if Region.wanted o (yielded ops a.tmps) = true then Oper.wp P o a w K' Q else K' (a.put o.dst undef) w) :
    wpAnyU P md ops Q S z (fuel + 1) listed a w :=
  ⟨fun h => (by rw [hr] at h; cases h), fun j hj => by
    rw [hr] at hj
    obtain rfl : j = i := by simpa using hj
    exact wpOp_step ho (fun K' hK => h K' (fun a w hS hW => hK a w ⟨fun _ => hS, hW hS⟩))⟩
theorem wpAnyU_two {i k : Nat} {o p : Oper} {fuel : Nat} {listed : Array Bool} {a : Act} {w : World} (hr : Region.ready md ops listed = [i, k]) (ho : ops[i]? = some o) (hp : ops[k]? = some p)
    (h : ∀ K' : Act → World → Prop, Shut (∀ a w, S w → (S w → wpAnyU P md ops Q S z fuel (listed.setIfInBounds i true) a w) → K' a w) → if Region.wanted o (yielded ops a.tmps) = true then Oper.wp P o a w K' Q else K' (a.put o.dst undef) w)
    (h2 : ∀ K' : Act → World → Prop, Shut (∀ a w, S w → (S w → wpAnyU P md ops Q S z fuel (listed.setIfInBounds k true) a w) → K' a w) → if Region.wanted p (yielded ops a.tmps) = true then Oper.wp P p a w K' Q else K' (a.put p.dst undef) w) :
    wpAnyU P md ops Q S z (fuel + 1) listed a w :=
  ⟨fun h => (by rw [hr] at h; cases h), fun j hj => by
    rw [hr] at hj
    rcases List.mem_cons.1 hj with rfl | hj
    · exact wpOp_step ho (fun K' hK => h K' (fun a w hS hW => hK a w ⟨fun _ => hS, hW hS⟩))
    · obtain rfl : j = k := by simpa using hj
      exact wpOp_step hp (fun K' hK => h2 K' (fun a w hS hW => hK a w ⟨fun _ => hS, hW hS⟩))⟩
theorem wpAnyU_next {i : Nat} {o : Oper} {fuel : Nat} {listed : Array Bool} {a : Act} {w : World} (hr : Region.ready md ops listed = [i]) (hz : (z ≤ i) = True) (ho : ops[i]? = some o)
    (h : ∀ K' : Act → World → Prop, Shut (∀ a w, wpAnyU P md ops Q S z fuel (listed.setIfInBounds i true) a w → K' a w) → if Region.wanted o (yielded ops a.tmps) = true then Oper.wp P o a w K' Q else K' (a.put o.dst undef) w) :
    wpAnyU P md ops Q S z (fuel + 1) listed a w :=
  ⟨fun h => (by rw [hr] at h; cases h), fun j hj => by
    rw [hr] at hj
    obtain rfl : j = i := by simpa using hj
    have hz' : z ≤ j := of_eq_true hz
    exact wpOp_step ho (fun K' hK => h K' (fun a w hW => hK a w ⟨fun hlt => absurd hlt (by omega), hW⟩))⟩
theorem wpAnyU_done {listed : Array Bool} {a : Act} {w : World} (hr : Region.ready md ops listed = []) (h : Q .normal a w) : ∀ fuel, wpAnyU P md ops Q S z fuel listed a w
  | 0 => ⟨hr, h⟩
  | _ + 1 => ⟨fun _ => h, by rw [hr]; simp⟩
theorem wp_region_u {id : Nat} {a : Act} {w : World} (z : Nat) (xs : List Nat) (hm : P.follows .mixedOrders = true) (hz : isTail .any ops z xs = true) (hS : S w.drew)
    (h : Shut (isTail .any ops z xs = true) → S w.drew → wpAnyU P .any ops Q S z ops.size (Array.replicate ops.size false) a w.drew) : (Code.region id ops true).wp P Q a w :=
  wp_region_any hm (wpAny_of_u _ _ _ _ (h hz hS))
theorem wpAnyU_in (z : Nat) (xs : List Nat) {fuel : Nat} {listed : Array Bool} {a : Act} {w : World} (hz : isTail md ops z xs = true) (hS : S w)
    (h : Shut (isTail md ops z xs = true) → S w → wpAnyU P md ops Q S z fuel listed a w) : wpAnyH P md ops Q (fun _ => True) fuel listed a w :=
  wpAnyH_of_u _ _ _ _ (h hz hS)
end
end Go.Pw
namespace Go.Proofs.YtmmhbehlpppdiaaGreatDoor.Wl
open Go.RowKit Go.Pw
def ItoaOK (w0 : World) : Prop := ∀ w, Only w0 w [] → ∀ n : Int, -9223372036854775808 ≤ n → n ≤ 9223372036854775807 → Calls Tryz.prog 307 #[.int .i64 n] w fun e w' => (∃ s, e = .returned (.string s) ∧ s.size ≤ 20) ∧ Only w w' []
theorem ItoaOK.mono {w w' : World} (h : ItoaOK w) (o : Only w w' []) : ItoaOK w' := fun w1 o1 => h w1 (o.trans o1)

set_option maxRecDepth 100000 in
set_option maxHeartbeats 800000 in
theorem name_any (x : Tm) (w : World) (hI : ItoaOK w) (hs : Pw.Src w x.ov 1 x.os.length (x.os.map (Value.int .i64))) :
    Calls Tryz.prog 245 #[.agg (tc x).toArray] w fun e w' => (∃ s, e = .returned (.string s)) ∧ Only w w' [] := by
  obtain ⟨ao, c, hov, _⟩ := id hs
  have hk := x.hk
  have hn := x.hn
  have ho := x.ho
  have hsz := x.hs
  have hol := x.hl
  simp only [tc, hov] at *
  generalize x.k = kk at *
  generalize x.s = ss at *
  generalize x.n = nn at *
  generalize x.os = os at *
  have e0 : IntKind.i64.wrap kk = kk := IntWalk.i64_in _ (by omega)
  go_enter Tryz.func245, Tryz.ntmps245
  go_upto_region 1 with (refine wpList_box_new rfl 296 _ rfl (.agg #[.int .u8 kk, .slice ao os.length c, .string ss, .int .i64 nn]) rfl ?_; intro X wX oX lX bX)
  refine wp_region_u (S := fun w' => Only wX w' []) 8 [] (by kernel_rfl) (by kernel_rfl) (Only.drew _ _) (fun hZ hHeld => ?_)
  refine' wpAnyU_take (i := 0) (v := _) hZ (op_at' rfl) (by kernel_rfl) (by kernel_rfl) (by kernel_rfl) (by kernel_rfl) (by kernel_rfl) (fun _ _ _ h => h) (Or.inl ⟨by rfl, ?hy1⟩) (by assumption) ?rest1
  case hy1 =>
    intro w' hS
    go_simp
    try with_reducible rfl
  try simp only [Act.put, List.setIfInBounds_toArray, List.set_cons_zero, List.set_cons_succ]
  refine' wpAnyU_take (i := 1) (v := _) hZ (op_at' rfl) (by kernel_rfl) (by kernel_rfl) (by kernel_rfl) (by kernel_rfl) (by kernel_rfl) (fun _ _ _ h => h) (Or.inl ⟨by rfl, ?hy2⟩) (by assumption) ?rest2
  case hy2 =>
    intro w' hS
    have hb := hS.at bX (by simp)
    have d0 := cell_in hb 0
    have d3 := cell_in hb 3
    go_simp
    try with_reducible rfl
  try simp only [Act.put, List.setIfInBounds_toArray, List.set_cons_zero, List.set_cons_succ]
  refine' wpAnyU_take (i := 2) (v := _) hZ (op_at' rfl) (by kernel_rfl) (by kernel_rfl) (by kernel_rfl) (by kernel_rfl) (by kernel_rfl) (fun _ _ _ h => h) (Or.inl ⟨by rfl, ?hy3⟩) (by assumption) ?rest3
  case hy3 =>
    intro w' hS
    go_simp
    try with_reducible rfl
  try simp only [Act.put, List.setIfInBounds_toArray, List.set_cons_zero, List.set_cons_succ]
  refine' wpAnyU_take (i := 5) (v := _) hZ (op_at' rfl) (by kernel_rfl) (by kernel_rfl) (by kernel_rfl) (by kernel_rfl) (by kernel_rfl) (fun _ _ _ h => h) (Or.inl ⟨by rfl, ?hy4⟩) (by assumption) ?rest4
  case hy4 =>
    intro w' hS
    go_simp
    try with_reducible rfl
  try simp only [Act.put, List.setIfInBounds_toArray, List.set_cons_zero, List.set_cons_succ]
  refine' wpAnyU_take (i := 6) (v := _) hZ (op_at' rfl) (by kernel_rfl) (by kernel_rfl) (by kernel_rfl) (by kernel_rfl) (by kernel_rfl) (fun _ _ _ h => h) (Or.inl ⟨by rfl, ?hy5⟩) (by assumption) ?rest5
  case hy5 =>
    intro w' hS
    have hb := hS.at bX (by simp)
    have d0 := cell_in hb 0
    have d3 := cell_in hb 3
    go_simp
    try with_reducible rfl
  try simp only [Act.put, List.setIfInBounds_toArray, List.set_cons_zero, List.set_cons_succ]
  refine wpAnyU_one (i := 3) (by kernel_rfl) (op_at' rfl) (fun K hK => ?_)
  go_simp
  refine (hI _ (oX.trans hHeld) kk (by omega) (by omega)).mono ?_
  rintro e w3 ⟨⟨s3, rfl, z3⟩, o3⟩
  go_wp2_with fail
  refine hK.out _ _ (hHeld.trans o3) (fun hHeld => ?_)
  clear hK K
  try simp only [Act.put, List.setIfInBounds_toArray, List.set_cons_zero, List.set_cons_succ]
  refine' wpAnyU_take (i := 4) (v := _) hZ (op_at' rfl) (by kernel_rfl) (by kernel_rfl) (by kernel_rfl) (by kernel_rfl) (by kernel_rfl) (fun _ _ _ h => h) (Or.inl ⟨by rfl, ?hy6⟩) (by assumption) ?rest6
  case hy6 =>
    intro w' hS
    have y1 : ¬ 9223372036854775807 < s3.size + 1 := by omega
    go_simp
    try with_reducible rfl
  try simp only [Act.put, List.setIfInBounds_toArray, List.set_cons_zero, List.set_cons_succ]
  refine wpAnyU_one (i := 7) (by kernel_rfl) (op_at' rfl) (fun K hK => ?_)
  go_simp
  refine (hI _ (oX.trans hHeld) nn hn.1 hn.2).mono ?_
  rintro e w7 ⟨⟨s7, rfl, z7⟩, o7⟩
  go_wp2_with fail
  refine hK.out _ _ (hHeld.trans o7) (fun hHeld => ?_)
  clear hK K
  try simp only [Act.put, List.setIfInBounds_toArray, List.set_cons_zero, List.set_cons_succ]
  refine wpAnyU_next (i := 8) (by kernel_rfl) (by simp) (op_at' rfl) (fun K hK => ?_)
  go_simp
  go_wp2_with fail
  refine hK.out _ _ ?_
  clear hK K
  try simp only [Act.put, List.setIfInBounds_toArray, List.set_cons_zero, List.set_cons_succ]
  refine wpAnyU_next (i := 9) (by kernel_rfl) (by simp) (op_at' rfl) (fun K hK => ?_)
  go_simp
  go_wp2_with fail
  refine hK.out _ _ ?_
  clear hK K
  try simp only [Act.put, List.setIfInBounds_toArray, List.set_cons_zero, List.set_cons_succ]
  refine wpAnyU_done (by kernel_rfl) ?_ _
  have d1 := cell_in (hHeld.at bX (by simp)) 1
  have zN : (s3 ++ { data := #[32] } ++ s7 : ByteArray).size ≤ 41 := by have q : ({ data := #[32] } : ByteArray).size = 1 := rfl; simp only [ByteArray.size_append]; omega
  generalize (s3 ++ { data := #[32] } ++ s7 : ByteArray) = sN at *
  clear z3 z7 o3 o7
  go_wp2_with fail
  go_loopw [3, 18] (fun x y wr => ∃ (k : Nat) (s : ByteArray), x = .string s ∧ y = .int .i64 k ∧ k ≤ os.length ∧ s.size ≤ 41 + 21 * k ∧ Only wX wr []) (fun _ y _ => os.length - (intOf y).toNat)
  case atStart => exact ⟨0, sN, rfl, rfl, Nat.zero_le _, by omega, hHeld⟩
  case round =>
    obtain ⟨k, s, rfl, rfl, hk2, hz, ho2⟩ := hrel
    by_cases hkl : k < os.length
    · have e1 : decide ((k : Int) < os.length) = true := by simpa using hkl
      obtain ⟨b, o, rfl, hc⟩ := src_new hs (show k < os.length from hkl)
      have ck := hc wr (oX.trans ho2) k (.int .i64 os[k]) (by simp [hkl])
      have hok := ho _ (List.getElem_mem hkl)
      generalize os[k] = z at *
      clear hc hs
      go_wp2_with fail
      refine (hI _ (oX.trans ho2) z hok.1 hok.2).mono ?_
      rintro e w9 ⟨⟨s9, rfl, z9⟩, o9⟩
      have y1 : ¬ 9223372036854775807 < 1 + s9.size := by omega
      have y2 : ¬ 9223372036854775807 < s.size + (1 + s9.size) := by omega
      go_wp2_with fail
      exact ⟨⟨k + 1, _, rfl, by simp, by omega, by have q : ({ data := #[32] } : ByteArray).size = 1 := rfl; simp only [ByteArray.size_append]; omega, ho2.trans o9⟩, by simp [intOf]; omega⟩
    · obtain rfl : k = os.length := by omega
      have e1 : decide ((os.length : Int) < os.length) = false := by simp
      have d2 := cell_in (ho2.at bX (by simp)) 2
      have y1 : ¬ 9223372036854775807 < s.size + 1 := by omega
      have y2 : ¬ 9223372036854775807 < s.size + 1 + ss.size := by omega
      go_wp2_with fail
      go_ret
      exact ⟨⟨_, rfl⟩, oX.trans ho2⟩
end Go.Proofs.YtmmhbehlpppdiaaGreatDoor.Wl
