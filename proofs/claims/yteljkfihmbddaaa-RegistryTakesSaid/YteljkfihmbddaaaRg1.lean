/- The lines and bundles of layer 17 (registry) as they lie; the search for a device. Printed by gen_rg1.py. -/
import Derived.Test.YteljkfihmbddaaaCmp
import Derived.Test.YteljkfihmbddaaaMany
import Derived.Test.YteljkfihmbddaaaRegT
import Derived.Deep.Cut
namespace Go.Pw
open Go.RowKit
theorem rec_range {w : World} {e k g c : Nat} {α : Type} {enc : α → List Value} (hk : ∀ x, (enc x).length = k) {l : List α} (h : w.ownsRow 0 e k (.slice (some ⟨g, 0, none⟩) l.length c) l.length (fl enc l)) {m : Nat} (hm : m < l.length) : w.rangeAt g (m * k) (enc l[m]) := fun j v hj => by
  have hj' : j < k := by have := (List.getElem?_eq_some_iff.1 hj).1; rwa [hk] at this
  have hlt : m * k + j < l.length * k := by
    have : (m + 1) * k ≤ l.length * k := Nat.mul_le_mul_right _ hm
    rw [Nat.add_mul] at this
    omega
  rw [h.cellAt (m * k + j) hlt, fl_at hk hm hj']
  exact hj
theorem rec_cell {w : World} {e k g c : Nat} {α : Type} {enc : α → List Value} (hk : ∀ x, (enc x).length = k) {l : List α} (h : w.ownsRow 0 e k (.slice (some ⟨g, 0, none⟩) l.length c) l.length (fl enc l)) {m : Nat} (hm : m < l.length) (j : Nat) {v : Value} (hj : (enc l[m])[j]? = some v) : w.cell? ⟨g, m * k + j, none⟩ = some v :=
  rec_range hk h hm j v hj
end Go.Pw
namespace Go.Proofs.Yteljkfihmbddaaa
open Go.RowKit Go.Pw
set_option linter.unusedVariables false

/-- A bundle as it lies; what its slices are isn't looked at. -/
structure Bu where
  u : Int
  d : Int
  s1 : Value
  s2 : Value
  sg : Int
  s3 : Value
  s4 : Value
  has : Bool
  on : Int
  s5 : Value
  ok : s1.oneCell' = true ∧ s2.oneCell' = true ∧ s3.oneCell' = true ∧ s4.oneCell' = true ∧ s5.oneCell' = true
def bc (b : Bu) : List Value := [.int .i64 b.u, .int .i64 b.d, b.s1, b.s2, .int .u32 b.sg, b.s3, b.s4, .bool b.has, .int .u32 b.on, b.s5]
theorem bc_len (b : Bu) : (bc b).length = 10 := rfl
theorem bc_one (b : Bu) : ∀ u ∈ bc b, u.oneCell' = true := by
  obtain ⟨h1, h2, h3, h4, h5⟩ := b.ok
  intro u hu
  simp only [bc, List.mem_cons, List.not_mem_nil, or_false] at hu
  rcases hu with rfl | rfl | rfl | rfl | rfl | rfl | rfl | rfl | rfl | rfl <;> first | assumption | rfl
def b0 : Bu := ⟨0, 0, .slice none 0 0, .slice none 0 0, 0, .slice none 0 0, .slice none 0 0, false, 0, .slice none 0 0, by simp [Value.oneCell']⟩
/-- A line as it lies: v the slice of its prekeys for once, os these. -/
structure Li where
  u : Int
  d : Int
  on : Bool
  b : Bu
  v : Value
  os : List Bu
  ok : v.oneCell' = true
def lc (x : Li) : List Value := .int .i64 x.u :: .int .i64 x.d :: .bool x.on :: (bc x.b ++ [x.v])
theorem lc_len (x : Li) : (lc x).length = 14 := rfl
theorem lc_one (x : Li) : ∀ u ∈ lc x, u.oneCell' = true := by
  intro u hu
  simp only [lc, List.mem_cons, List.mem_append, List.not_mem_nil, or_false] at hu
  rcases hu with rfl | rfl | rfl | hu | rfl
  · rfl
  · rfl
  · rfl
  · exact bc_one _ u hu
  · exact x.ok
theorem lc_arr (x : Li) : (lc x).toArray.all (·.oneCell') = true := all_oneCell_toArray (lc_one x)
theorem bc_arr (x : Bu) : (bc x).toArray.all (·.oneCell') = true := all_oneCell_toArray (bc_one x)
def wv (u d : Int) : Value := .agg #[.int .i64 u, .int .i64 d]

set_option maxRecDepth 100000 in
set_option maxHeartbeats 800000 in
theorem lfinds_any (x : Li) (u d : Int) (w : World) :
    Calls Try.prog 49 #[.agg (lc x).toArray, wv u d] w fun e w' => e = .returned (.int .i64 (cmpW x.u x.d u d)) ∧ Only w w' [] := by
  simp only [wv]
  have h0 : (lc x).toArray[0]? = some (.int .i64 x.u) := rfl
  have h1 : (lc x).toArray[1]? = some (.int .i64 x.d) := rfl
  generalize lc x = cs at *
  go_enter Try.func49, Try.ntmps49
  go_wp2_with (first
    | (refine wpList_box_new rfl 76 _ rfl (.agg cs.toArray) rfl ?_; intro X wX oX hXl hX)
    | (refine wpList_box_new rfl 30 _ rfl (.agg #[.int .i64 u, .int .i64 d]) rfl ?_; intro Y wY oY hYl hY; have hX := oY.at hX (by simp); have hx0 := (cell_in hX 0).trans h0; have hx1 := (cell_in hX 1).trans h1; have hy0 := cell_two0 hY; have hy1 := cell_two1 hY))
  refine (compare_any x.u x.d u d _).mono ?_
  rintro e w1 ⟨rfl, ho⟩
  go_wp2_with fail
  go_ret
  exact ⟨rfl, (oX.trans oY).trans ho⟩

/-- Rising: whoever stands ahead stands ahead. -/
def Rise (l : List Li) : Prop := ∀ (u d : Int) (i j : Nat) (hi : i < j) (hj : j < l.length), cmpW l[j].u l[j].d u d < 0 → cmpW (l[i]'(by omega)).u (l[i]'(by omega)).d u d < 0
def placeL (l : List Li) (u d : Int) : Nat := l.findIdx fun r => decide (0 ≤ cmpW r.u r.d u d)
def foundL (l : List Li) (u d : Int) : Bool := match l[placeL l u d]? with
  | none => false
  | some r => cmpW r.u r.d u d == 0
theorem found_at {l : List Li} {u d : Int} (h : foundL l u d = true) : ∃ hk : placeL l u d < l.length, cmpW (l[placeL l u d]).u (l[placeL l u d]).d u d = 0 := by
  unfold foundL at h
  by_cases hk : placeL l u d < l.length
  · rw [List.getElem?_eq_getElem hk] at h
    exact ⟨hk, by simpa using h⟩
  · rw [List.getElem?_eq_none (by omega)] at h
    simp at h
theorem place_le (l : List Li) (u d : Int) : placeL l u d ≤ l.length := List.findIdx_le_length

set_option maxRecDepth 100000 in
set_option maxHeartbeats 3200000 in
theorem search_any {w0 : World} {rs : List Res} (l : List Li) (v : Value) (u d : Int) (w : World) (h : Sep w0 w (row 76 14 v l.length (fl lc l) :: rs)) (hl : l.length ≤ 1000000) (hr : Rise l) :
    Calls Try.prog 48 #[v, wv u d, .func (.func 49) #[] #[]] w fun e w' => e = .returned (.tuple #[.int .i64 (placeL l u d), .bool (foundL l u d)]) ∧ Only w w' [] := by
  obtain ⟨ao, c, rfl⟩ := own_slice (show w.ownsRow 0 _ 14 v l.length (fl lc l) from h.head)
  simp only [wv]
  have hW : (w.alloc (.cells #[.int .i64 u, .int .i64 d] 30)).heap[w.heap.size]? = some (.cells #[.int .i64 u, .int .i64 d] 30 (0, 0)) := heap_alloc_new w _
  have s1 := h.quiet (Only.alloc w (.cells #[.int .i64 u, .int .i64 d] 30) [])
  have o1 := Only.alloc w (.cells #[.int .i64 u, .int .i64 d] 30) []
  have HR := Lib.hid hr
  clear h hr
  go_enter Try.func48, Try.ntmps48
  go_wp2_with fail
  generalize w.alloc (.cells #[.int .i64 u, .int .i64 d] 30) = W at *
  generalize w.heap.size = A at *
  go_loopw [9, 10] (fun x y wr => ∃ i j : Nat, x = .int .i64 i ∧ y = .int .i64 j ∧ i ≤ j ∧ j ≤ l.length ∧ Hid (∀ k (hk : k < l.length), k < i → cmpW l[k].u l[k].d u d < 0) ∧ Hid (∀ k (hk : k < l.length), j ≤ k → 0 ≤ cmpW l[k].u l[k].d u d) ∧ Only W wr []) (fun x y _ => (intOf y).toNat - (intOf x).toNat)
  case atStart => exact ⟨0, l.length, rfl, rfl, Nat.zero_le _, Nat.le_refl _, fun k hk h => by omega, fun k hk h => by omega, Only.refl _ _⟩
  case round =>
    obtain ⟨i, j, rfl, rfl, hij, hj, hlo, hhi, ho⟩ := hrel
    by_cases hlt : i < j
    · have d1 : decide ((i : Int) < j) = true := by simpa using hlt
      obtain ⟨m, hm⟩ : ∃ m, m = (i + j) / 2 := ⟨_, rfl⟩
      have em : ((i : Int) + j) / 2 = m := by omega
      have him : i ≤ m := by omega
      have hmj : m < j := by omega
      have hml : m < l.length := by omega
      obtain ⟨g, rfl, _⟩ := own_some (show W.ownsRow 0 _ 14 (.slice ao l.length c) l.length (fl lc l) from s1.head) (by omega)
      have hrng : ∀ w', Only wr.drew w' [] → w'.rangeAt g (m * 14) (lc l[m]) :=
        fun w' hS => rec_range lc_len (s1.quiet (ho.trans ((Only.drew wr []).trans hS))).head hml
      have htar : ∀ w', Only wr.drew w' [] → w'.cell? ⟨A, 0, none⟩ = some (.int .i64 u) ∧ w'.cell? ⟨A, 1, none⟩ = some (.int .i64 d) := fun w' hS => by
        have := (ho.trans ((Only.drew wr []).trans hS)).at hW (by simp)
        exact ⟨cell_two0 this, cell_two1 this⟩
      have hup : Hid (cmpW l[m].u l[m].d u d < 0 → ∀ k (hk : k < l.length), k < m + 1 → cmpW l[k].u l[k].d u d < 0) := fun hx k hk hkm => by
        by_cases e : k = m
        · subst e; exact hx
        · exact HR.out u d k m (by omega) hml hx
      have hdn : Hid (0 ≤ cmpW l[m].u l[m].d u d → ∀ k (hk : k < l.length), m ≤ k → 0 ≤ cmpW l[k].u l[k].d u d) := fun hx k hk hkm => by
        by_cases e : k = m
        · subst e; exact hx
        · by_cases h0 : cmpW l[k].u l[k].d u d < 0
          · exact absurd (HR.out u d m k (by omega) hk h0) (by omega)
          · omega
      generalize l[m] = x at *
      have HE := Lib.hid em
      clear em hm
      go_upto_region 5 with fail
      rw [HE.out]
      refine wp_region_held_drew (S := fun w' => Only wr.drew w' []) (by kernel_rfl) (Only.refl _ _) (fun hHeld => ?_)
      refine' wpAnyH_take (i := 0) (v := _) (op_at rfl) (by kernel_rfl) (by kernel_rfl) (by kernel_rfl) (fun _ _ _ h => h) (Or.inl ⟨by rfl, ?hy1⟩) (by assumption) ?rest1
      case hy1 =>
        intro w' hS
        go_simp
        try with_reducible rfl
      try simp only [Act.put, List.setIfInBounds_toArray, List.set_cons_zero, List.set_cons_succ]
      refine' wpAnyH_take (i := 1) (v := _) (op_at rfl) (by kernel_rfl) (by kernel_rfl) (by kernel_rfl) (fun _ _ _ h => h) (Or.inl ⟨by rfl, ?hy2⟩) (by assumption) ?rest2
      case hy2 =>
        intro w' hS
        go_simp
        try with_reducible rfl
      try simp only [Act.put, List.setIfInBounds_toArray, List.set_cons_zero, List.set_cons_succ]
      refine' wpAnyH_take (i := 2) (v := _) (op_at rfl) (by kernel_rfl) (by kernel_rfl) (by kernel_rfl) (fun _ _ _ h => h) (Or.inl ⟨by rfl, ?hy3⟩) (by assumption) ?rest3
      case hy3 =>
        intro w' hS
        go_simp
        try with_reducible rfl
      try simp only [Act.put, List.setIfInBounds_toArray, List.set_cons_zero, List.set_cons_succ]
      refine' wpAnyH_take (i := 3) (v := _) (op_at rfl) (by kernel_rfl) (by kernel_rfl) (by kernel_rfl) (fun _ _ _ h => h) (Or.inl ⟨by rfl, ?hy4⟩) (by assumption) ?rest4
      case hy4 =>
        intro w' hS
        go_simp
        try with_reducible rfl
      try simp only [Act.put, List.setIfInBounds_toArray, List.set_cons_zero, List.set_cons_succ]
      refine wpAnyH_take (i := 4) (op_at rfl) (by kernel_rfl) (by kernel_rfl) (by kernel_rfl) (fun _ _ _ h => h) (yieldsIf_load_mid (by rfl) _ _ rfl g (m * 14) rfl (lc x) _ (fun w' hS => hrng w' hS) Try.underlying76 (by rfl) (by rw [lc_len]; kernel_rfl)) (by assumption) ?_
      try simp only [Act.put, List.setIfInBounds_toArray, List.set_cons_zero, List.set_cons_succ]
      refine' wpAnyH_take (i := 5) (v := _) (op_at rfl) (by kernel_rfl) (by kernel_rfl) (by kernel_rfl) (fun _ _ _ h => h) (Or.inl ⟨by rfl, ?hy6⟩) (by assumption) ?rest6
      case hy6 =>
        intro w' hS
        obtain ⟨ht0, ht1⟩ := htar w' hS
        go_simp
        try with_reducible rfl
      try simp only [Act.put, List.setIfInBounds_toArray, List.set_cons_zero, List.set_cons_succ]
      refine wpAnyH_ready (rs := [6]) (by kernel_rfl) (by simp) (AllReadyH.cons (op_at rfl) (fun K hK => ?_) AllReadyH.nil)
      go_simp
      refine (lfinds_any x u d _).mono fun e w3 hq => ?_
      obtain ⟨rfl, o3⟩ := hq
      go_wp2_with fail
      refine hK.out _ _ o3 (fun hHeld => ?_)
      clear hK K
      try simp only [Act.put, List.setIfInBounds_toArray, List.set_cons_zero, List.set_cons_succ]
      refine wpAnyH_more (S' := fun w' => Only w3 w' []) (fun w' h => Only.trans o3 h) _ _ _ _ ?_
      clear hHeld
      have hHeld : Only w3 w3 [] := Only.refl _ _
      refine' wpAnyH_take (i := 7) (v := _) (op_at rfl) (by kernel_rfl) (by kernel_rfl) (by kernel_rfl) (fun _ _ _ h => h) (Or.inl ⟨by rfl, ?hy7⟩) (by assumption) ?rest7
      case hy7 =>
        intro w' hS
        go_simp
        try with_reducible rfl
      try simp only [Act.put, List.setIfInBounds_toArray, List.set_cons_zero, List.set_cons_succ]
      refine wpAnyH_done (by kernel_rfl) ?_ _
      by_cases hx : cmpW x.u x.d u d < 0
      · have d2 : decide (cmpW x.u x.d u d < 0) = true := by simpa using hx
        have HU := Lib.hid (hup.out hx)
        clear hup hdn
        go_wp2_with fail
        refine ⟨⟨m + 1, j, by simp, rfl, by omega, hj, HU.out, hhi, (ho.trans (Only.drew wr [])).trans (o3.trans hHeld)⟩, by simp [intOf]; omega⟩
      · have d2 : decide (cmpW x.u x.d u d < 0) = false := by simpa using hx
        have HU := Lib.hid (hdn.out (by omega))
        clear hup hdn
        go_wp2_with fail
        refine ⟨⟨i, m, rfl, rfl, him, by omega, hlo, HU.out, (ho.trans (Only.drew wr [])).trans (o3.trans hHeld)⟩, by simp [intOf]; omega⟩
    · obtain rfl : i = j := by omega
      have d1 : decide ((i : Int) < i) = false := by simp
      have hpl : Hid (placeL l u d = i) := by
        show placeL l u d = i
        unfold placeL
        by_cases h : i < l.length
        · rw [List.findIdx_eq h]
          refine ⟨by simpa using hhi.out i h (Nat.le_refl _), fun k hk => ?_⟩
          have := hlo.out k (by omega) hk
          simp only [decide_eq_false_iff_not]
          omega
        · obtain rfl : i = l.length := by omega
          rw [List.findIdx_eq_length]
          intro r hr
          obtain ⟨k, hk, rfl⟩ := List.mem_iff_getElem.1 hr
          have := hlo.out k hk hk
          simp only [decide_eq_false_iff_not]
          omega
      by_cases hml : i < l.length
      · have d2 : decide ((i : Int) < l.length) = true := by simpa using hml
        obtain ⟨g, rfl, _⟩ := own_some (show W.ownsRow 0 _ 14 (.slice ao l.length c) l.length (fl lc l) from s1.head) (by omega)
        have hrng : ∀ w', Only wr.drew w' [] → w'.rangeAt g (i * 14) (lc l[i]) :=
          fun w' hS => rec_range lc_len (s1.quiet (ho.trans ((Only.drew wr []).trans hS))).head hml
        have htar : ∀ w', Only wr.drew w' [] → w'.cell? ⟨A, 0, none⟩ = some (.int .i64 u) ∧ w'.cell? ⟨A, 1, none⟩ = some (.int .i64 d) := fun w' hS => by
          have := (ho.trans ((Only.drew wr []).trans hS)).at hW (by simp)
          exact ⟨cell_two0 this, cell_two1 this⟩
        have hfd : Hid (foundL l u d = (cmpW l[i].u l[i].d u d == 0)) := by
          show foundL l u d = _
          unfold foundL
          rw [hpl.out, List.getElem?_eq_getElem hml]
        generalize l[i] = x at *
        go_upto_region 8 with fail
        refine wp_region_held_drew (S := fun w' => Only wr.drew w' []) (by kernel_rfl) (Only.refl _ _) (fun hHeld => ?_)
        refine' wpAnyH_take (i := 0) (v := _) (op_at rfl) (by kernel_rfl) (by kernel_rfl) (by kernel_rfl) (fun _ _ _ h => h) (Or.inl ⟨by rfl, ?hy8⟩) (by assumption) ?rest8
        case hy8 =>
          intro w' hS
          go_simp
          try with_reducible rfl
        try simp only [Act.put, List.setIfInBounds_toArray, List.set_cons_zero, List.set_cons_succ]
        refine' wpAnyH_take (i := 1) (v := _) (op_at rfl) (by kernel_rfl) (by kernel_rfl) (by kernel_rfl) (fun _ _ _ h => h) (Or.inl ⟨by rfl, ?hy9⟩) (by assumption) ?rest9
        case hy9 =>
          intro w' hS
          go_simp
          try with_reducible rfl
        try simp only [Act.put, List.setIfInBounds_toArray, List.set_cons_zero, List.set_cons_succ]
        refine' wpAnyH_take (i := 2) (v := _) (op_at rfl) (by kernel_rfl) (by kernel_rfl) (by kernel_rfl) (fun _ _ _ h => h) (Or.inl ⟨by rfl, ?hy10⟩) (by assumption) ?rest10
        case hy10 =>
          intro w' hS
          go_simp
          try with_reducible rfl
        try simp only [Act.put, List.setIfInBounds_toArray, List.set_cons_zero, List.set_cons_succ]
        refine' wpAnyH_take (i := 3) (v := _) (op_at rfl) (by kernel_rfl) (by kernel_rfl) (by kernel_rfl) (fun _ _ _ h => h) (Or.inl ⟨by rfl, ?hy11⟩) (by assumption) ?rest11
        case hy11 =>
          intro w' hS
          go_simp
          try with_reducible rfl
        try simp only [Act.put, List.setIfInBounds_toArray, List.set_cons_zero, List.set_cons_succ]
        refine' wpAnyH_take (i := 4) (v := _) (op_at rfl) (by kernel_rfl) (by kernel_rfl) (by kernel_rfl) (fun _ _ _ h => h) (Or.inl ⟨by rfl, ?hy12⟩) (by assumption) ?rest12
        case hy12 =>
          intro w' hS
          go_simp
          try with_reducible rfl
        try simp only [Act.put, List.setIfInBounds_toArray, List.set_cons_zero, List.set_cons_succ]
        refine' wpAnyH_take (i := 5) (v := _) (op_at rfl) (by kernel_rfl) (by kernel_rfl) (by kernel_rfl) (fun _ _ _ h => h) (Or.inl ⟨by rfl, ?hy13⟩) (by assumption) ?rest13
        case hy13 =>
          intro w' hS
          go_simp
          try with_reducible rfl
        try simp only [Act.put, List.setIfInBounds_toArray, List.set_cons_zero, List.set_cons_succ]
        refine' wpAnyH_take (i := 6) (v := _) (op_at rfl) (by kernel_rfl) (by kernel_rfl) (by kernel_rfl) (fun _ _ _ h => h) (Or.inl ⟨by rfl, ?hy14⟩) (by assumption) ?rest14
        case hy14 =>
          intro w' hS
          go_simp
          try with_reducible rfl
        try simp only [Act.put, List.setIfInBounds_toArray, List.set_cons_zero, List.set_cons_succ]
        refine' wpAnyH_take (i := 7) (v := _) (op_at rfl) (by kernel_rfl) (by kernel_rfl) (by kernel_rfl) (fun _ _ _ h => h) (Or.inl ⟨by rfl, ?hy15⟩) (by assumption) ?rest15
        case hy15 =>
          intro w' hS
          go_simp
          try with_reducible rfl
        try simp only [Act.put, List.setIfInBounds_toArray, List.set_cons_zero, List.set_cons_succ]
        refine' wpAnyH_take (i := 8) (v := _) (op_at rfl) (by kernel_rfl) (by kernel_rfl) (by kernel_rfl) (fun _ _ _ h => h) (Or.inl ⟨by rfl, ?hy16⟩) (by assumption) ?rest16
        case hy16 =>
          intro w' hS
          go_simp
          try with_reducible rfl
        try simp only [Act.put, List.setIfInBounds_toArray, List.set_cons_zero, List.set_cons_succ]
        refine wpAnyH_take (i := 9) (op_at rfl) (by kernel_rfl) (by kernel_rfl) (by kernel_rfl) (fun _ _ _ h => h) (yieldsIf_load_mid (by rfl) _ _ rfl g (i * 14) rfl (lc x) _ (fun w' hS => hrng w' hS) Try.underlying76 (by rfl) (by rw [lc_len]; kernel_rfl)) (by assumption) ?_
        try simp only [Act.put, List.setIfInBounds_toArray, List.set_cons_zero, List.set_cons_succ]
        refine' wpAnyH_take (i := 10) (v := _) (op_at rfl) (by kernel_rfl) (by kernel_rfl) (by kernel_rfl) (fun _ _ _ h => h) (Or.inl ⟨by rfl, ?hy18⟩) (by assumption) ?rest18
        case hy18 =>
          intro w' hS
          obtain ⟨ht0, ht1⟩ := htar w' hS
          go_simp
          try with_reducible rfl
        try simp only [Act.put, List.setIfInBounds_toArray, List.set_cons_zero, List.set_cons_succ]
        refine wpAnyH_ready (rs := [11]) (by kernel_rfl) (by simp) (AllReadyH.cons (op_at rfl) (fun K hK => ?_) AllReadyH.nil)
        go_simp
        refine (lfinds_any x u d _).mono fun e w3 hq => ?_
        obtain ⟨rfl, o3⟩ := hq
        go_wp2_with fail
        refine hK.out _ _ o3 (fun hHeld => ?_)
        clear hK K
        try simp only [Act.put, List.setIfInBounds_toArray, List.set_cons_zero, List.set_cons_succ]
        refine wpAnyH_more (S' := fun w' => Only w3 w' []) (fun w' h => Only.trans o3 h) _ _ _ _ ?_
        clear hHeld
        have hHeld : Only w3 w3 [] := Only.refl _ _
        refine' wpAnyH_take (i := 12) (v := _) (op_at rfl) (by kernel_rfl) (by kernel_rfl) (by kernel_rfl) (fun _ _ _ h => h) (Or.inl ⟨by rfl, ?hy19⟩) (by assumption) ?rest19
        case hy19 =>
          intro w' hS
          go_simp
          try with_reducible rfl
        try simp only [Act.put, List.setIfInBounds_toArray, List.set_cons_zero, List.set_cons_succ]
        refine' wpAnyH_take (i := 13) (v := _) (op_at rfl) (by kernel_rfl) (by kernel_rfl) (by kernel_rfl) (fun _ _ _ h => h) (Or.inl ⟨by rfl, ?hy20⟩) (by assumption) ?rest20
        case hy20 =>
          intro w' hS
          go_simp
          try with_reducible rfl
        try simp only [Act.put, List.setIfInBounds_toArray, List.set_cons_zero, List.set_cons_succ]
        refine' wpAnyH_take (i := 14) (v := _) (op_at rfl) (by kernel_rfl) (by kernel_rfl) (by kernel_rfl) (fun _ _ _ h => h) (Or.inl ⟨by rfl, ?hy21⟩) (by assumption) ?rest21
        case hy21 =>
          intro w' hS
          go_simp
          try with_reducible rfl
        try simp only [Act.put, List.setIfInBounds_toArray, List.set_cons_zero, List.set_cons_succ]
        refine' wpAnyH_take (i := 15) (v := _) (op_at rfl) (by kernel_rfl) (by kernel_rfl) (by kernel_rfl) (fun _ _ _ h => h) (Or.inl ⟨by rfl, ?hy22⟩) (by assumption) ?rest22
        case hy22 =>
          intro w' hS
          go_simp
          try with_reducible rfl
        try simp only [Act.put, List.setIfInBounds_toArray, List.set_cons_zero, List.set_cons_succ]
        refine wpAnyH_done (by kernel_rfl) ?_ _
        go_wp2_with fail
        refine bodyPost_ret (v := .tuple #[.int .i64 i, .bool (cmpW x.u x.d u d == 0)]) (by simp [results, Try.results48, go_sem]) rfl ?_
        exact ⟨by rw [hpl.out, hfd.out], o1.trans ((ho.trans (Only.drew wr [])).trans (o3.trans hHeld))⟩
      · have d2 : decide ((i : Int) < l.length) = false := by simpa using hml
        have hfd : Hid (foundL l u d = false) := by
          show foundL l u d = _
          unfold foundL
          rw [hpl.out, List.getElem?_eq_none (by omega)]
        go_upto_region 8 with fail
        refine wp_region_held_drew (S := fun w' => Only wr.drew w' []) (by kernel_rfl) (Only.refl _ _) (fun hHeld => ?_)
        refine' wpAnyH_take (i := 0) (v := _) (op_at rfl) (by kernel_rfl) (by kernel_rfl) (by kernel_rfl) (fun _ _ _ h => h) (Or.inl ⟨by rfl, ?hy23⟩) (by assumption) ?rest23
        case hy23 =>
          intro w' hS
          go_simp
          try with_reducible rfl
        try simp only [Act.put, List.setIfInBounds_toArray, List.set_cons_zero, List.set_cons_succ]
        refine' wpAnyH_take (i := 1) (v := _) (op_at rfl) (by kernel_rfl) (by kernel_rfl) (by kernel_rfl) (fun _ _ _ h => h) (Or.inl ⟨by rfl, ?hy24⟩) (by assumption) ?rest24
        case hy24 =>
          intro w' hS
          go_simp
          try with_reducible rfl
        try simp only [Act.put, List.setIfInBounds_toArray, List.set_cons_zero, List.set_cons_succ]
        refine' wpAnyH_take (i := 2) (v := _) (op_at rfl) (by kernel_rfl) (by kernel_rfl) (by kernel_rfl) (fun _ _ _ h => h) (Or.inl ⟨by rfl, ?hy25⟩) (by assumption) ?rest25
        case hy25 =>
          intro w' hS
          go_simp
          try with_reducible rfl
        try simp only [Act.put, List.setIfInBounds_toArray, List.set_cons_zero, List.set_cons_succ]
        refine' wpAnyH_take (i := 3) (v := _) (op_at rfl) (by kernel_rfl) (by kernel_rfl) (by kernel_rfl) (fun _ _ _ h => h) (Or.inl ⟨by rfl, ?hy26⟩) (by assumption) ?rest26
        case hy26 =>
          intro w' hS
          go_simp
          try with_reducible rfl
        try simp only [Act.put, List.setIfInBounds_toArray, List.set_cons_zero, List.set_cons_succ]
        refine' wpAnyH_take (i := 4) (v := _) (op_at rfl) (by kernel_rfl) (by kernel_rfl) (by kernel_rfl) (fun _ _ _ h => h) (Or.inl ⟨by rfl, ?hy27⟩) (by assumption) ?rest27
        case hy27 =>
          intro w' hS
          go_simp
          try with_reducible rfl
        try simp only [Act.put, List.setIfInBounds_toArray, List.set_cons_zero, List.set_cons_succ]
        refine wpAnyH_take (i := 5) (v := undef) (op_at rfl) (by kernel_rfl) (by kernel_rfl) (by kernel_rfl) (fun _ _ _ h => h) (Or.inr ⟨by rfl, rfl⟩) (by assumption) ?_
        try simp only [Act.put, List.setIfInBounds_toArray, List.set_cons_zero, List.set_cons_succ]
        refine wpAnyH_take (i := 6) (v := undef) (op_at rfl) (by kernel_rfl) (by kernel_rfl) (by kernel_rfl) (fun _ _ _ h => h) (Or.inr ⟨by rfl, rfl⟩) (by assumption) ?_
        try simp only [Act.put, List.setIfInBounds_toArray, List.set_cons_zero, List.set_cons_succ]
        refine wpAnyH_take (i := 7) (v := undef) (op_at rfl) (by kernel_rfl) (by kernel_rfl) (by kernel_rfl) (fun _ _ _ h => h) (Or.inr ⟨by rfl, rfl⟩) (by assumption) ?_
        try simp only [Act.put, List.setIfInBounds_toArray, List.set_cons_zero, List.set_cons_succ]
        refine wpAnyH_take (i := 8) (v := undef) (op_at rfl) (by kernel_rfl) (by kernel_rfl) (by kernel_rfl) (fun _ _ _ h => h) (Or.inr ⟨by rfl, rfl⟩) (by assumption) ?_
        try simp only [Act.put, List.setIfInBounds_toArray, List.set_cons_zero, List.set_cons_succ]
        refine wpAnyH_take (i := 9) (v := undef) (op_at rfl) (by kernel_rfl) (by kernel_rfl) (by kernel_rfl) (fun _ _ _ h => h) (Or.inr ⟨by rfl, rfl⟩) (by assumption) ?_
        try simp only [Act.put, List.setIfInBounds_toArray, List.set_cons_zero, List.set_cons_succ]
        refine wpAnyH_take (i := 10) (v := undef) (op_at rfl) (by kernel_rfl) (by kernel_rfl) (by kernel_rfl) (fun _ _ _ h => h) (Or.inr ⟨by rfl, rfl⟩) (by assumption) ?_
        try simp only [Act.put, List.setIfInBounds_toArray, List.set_cons_zero, List.set_cons_succ]
        refine wpAnyH_take (i := 11) (v := undef) (op_at rfl) (by kernel_rfl) (by kernel_rfl) (by kernel_rfl) (fun _ _ _ h => h) (Or.inr ⟨by rfl, rfl⟩) (by assumption) ?_
        try simp only [Act.put, List.setIfInBounds_toArray, List.set_cons_zero, List.set_cons_succ]
        refine wpAnyH_take (i := 12) (v := undef) (op_at rfl) (by kernel_rfl) (by kernel_rfl) (by kernel_rfl) (fun _ _ _ h => h) (Or.inr ⟨by rfl, rfl⟩) (by assumption) ?_
        try simp only [Act.put, List.setIfInBounds_toArray, List.set_cons_zero, List.set_cons_succ]
        refine' wpAnyH_take (i := 13) (v := _) (op_at rfl) (by kernel_rfl) (by kernel_rfl) (by kernel_rfl) (fun _ _ _ h => h) (Or.inl ⟨by rfl, ?hy36⟩) (by assumption) ?rest36
        case hy36 =>
          intro w' hS
          go_simp
          try with_reducible rfl
        try simp only [Act.put, List.setIfInBounds_toArray, List.set_cons_zero, List.set_cons_succ]
        refine' wpAnyH_take (i := 14) (v := _) (op_at rfl) (by kernel_rfl) (by kernel_rfl) (by kernel_rfl) (fun _ _ _ h => h) (Or.inl ⟨by rfl, ?hy37⟩) (by assumption) ?rest37
        case hy37 =>
          intro w' hS
          go_simp
          try with_reducible rfl
        try simp only [Act.put, List.setIfInBounds_toArray, List.set_cons_zero, List.set_cons_succ]
        refine' wpAnyH_take (i := 15) (v := _) (op_at rfl) (by kernel_rfl) (by kernel_rfl) (by kernel_rfl) (fun _ _ _ h => h) (Or.inl ⟨by rfl, ?hy38⟩) (by assumption) ?rest38
        case hy38 =>
          intro w' hS
          go_simp
          try with_reducible rfl
        try simp only [Act.put, List.setIfInBounds_toArray, List.set_cons_zero, List.set_cons_succ]
        refine wpAnyH_done (by kernel_rfl) ?_ _
        go_wp2_with fail
        refine bodyPost_ret (v := .tuple #[.int .i64 i, .bool (false)]) (by simp [results, Try.results48, go_sem]) rfl ?_
        exact ⟨by rw [hpl.out, hfd.out], o1.trans ((ho.trans (Only.drew wr [])).trans hHeld)⟩
end Go.Proofs.Yteljkfihmbddaaa
