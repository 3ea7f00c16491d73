/- Several texts in one: Rg1, Rg2, Rg3, Rg4, RgAu. -/
import Derived.Test.YteljkfihmbddaaaCmp
import Derived.Test.YteljkfihmbddaaaPk
import Derived.Test.YteljkfihmbddaaaPa
import Derived.Deep.Cut
set_option linter.unusedSimpArgs false
set_option linter.unusedVariables false
/- The lines and bundles of layer 17 (registry) as they lie; the search for a device. Printed by gen_rg1.py. -/
namespace Go.Pw
open Go.RowKit
theorem rec_range {w : World} {e k g c : Nat} {α : Type} {enc : α → List Value} (hk : ∀ x, (enc x).length = k) {l : List α} (h : w.ownsRow 0 e k (.slice (some ⟨g, 0, none⟩) l.length c) l.length (fl enc l)) {m : Nat} (hm : m < l.length) : w.rangeAt g (m * k) (enc l[m]) := fun j v hj => by
  have hj' : j < k := by have := (List.getElem?_eq_some_iff.1 hj).1; rwa [hk] at this
  have hlt : m * k + j < l.length * k := by
    have : (m + 1) * k ≤ l.length * k := Nat.mul_le_mul_right _ hm
    rw [Nat.add_mul] at this
    omega
  rw [h.cellAt (m * k + j) hlt, fl_at hk hm hj']
  exact hj
theorem rec_cell {w : World} {e k g c : Nat} {α : Type} {enc : α → List Value} (hk : ∀ x, (enc x).length = k) {l : List α} (h : w.ownsRow 0 e k (.slice (some ⟨g, 0, none⟩) l.length c) l.length (fl enc l)) {m : Nat} (hm : m < l.length) (j : Nat) {v : Value} (hj : (enc l[m])[j]? = some v) : w.cell? ⟨g, m * k + j, none⟩ = some v :=
  rec_range hk h hm j v hj
end Go.Pw
namespace Go.Proofs.Yteljkfihmbddaaa
open Go.RowKit Go.Pw
set_option linter.unusedVariables false

/-- A bundle as it lies; what its slices are isn't looked at. -/
structure Bu where
  u : Int
  d : Int
  s1 : Value
  s2 : Value
  sg : Int
  s3 : Value
  s4 : Value
  has : Bool
  on : Int
  s5 : Value
  ok : s1.oneCell' = true ∧ s2.oneCell' = true ∧ s3.oneCell' = true ∧ s4.oneCell' = true ∧ s5.oneCell' = true
def bc (b : Bu) : List Value := [.int .i64 b.u, .int .i64 b.d, b.s1, b.s2, .int .u32 b.sg, b.s3, b.s4, .bool b.has, .int .u32 b.on, b.s5]
theorem bc_len (b : Bu) : (bc b).length = 10 := rfl
theorem bc_one (b : Bu) : ∀ u ∈ bc b, u.oneCell' = true := by
  obtain ⟨h1, h2, h3, h4, h5⟩ := b.ok
  intro u hu
  simp only [bc, List.mem_cons, List.not_mem_nil, or_false] at hu
  rcases hu with rfl | rfl | rfl | rfl | rfl | rfl | rfl | rfl | rfl | rfl <;> first | assumption | rfl
def b0 : Bu := ⟨0, 0, .slice none 0 0, .slice none 0 0, 0, .slice none 0 0, .slice none 0 0, false, 0, .slice none 0 0, by simp [Value.oneCell']⟩
/-- A line as it lies: v the slice of its prekeys for once, os these. -/
structure Li where
  u : Int
  d : Int
  on : Bool
  b : Bu
  v : Value
  os : List Bu
  ok : v.oneCell' = true
def lc (x : Li) : List Value := .int .i64 x.u :: .int .i64 x.d :: .bool x.on :: (bc x.b ++ [x.v])
theorem lc_len (x : Li) : (lc x).length = 14 := rfl
theorem lc_one (x : Li) : ∀ u ∈ lc x, u.oneCell' = true := by
  intro u hu
  simp only [lc, List.mem_cons, List.mem_append, List.not_mem_nil, or_false] at hu
  rcases hu with rfl | rfl | rfl | hu | rfl
  · rfl
  · rfl
  · rfl
  · exact bc_one _ u hu
  · exact x.ok
theorem lc_arr (x : Li) : (lc x).toArray.all (·.oneCell') = true := all_oneCell_toArray (lc_one x)
theorem bc_arr (x : Bu) : (bc x).toArray.all (·.oneCell') = true := all_oneCell_toArray (bc_one x)
def wv (u d : Int) : Value := .agg #[.int .i64 u, .int .i64 d]

set_option maxRecDepth 100000 in
set_option maxHeartbeats 800000 in
theorem lfinds_any (x : Li) (u d : Int) (w : World) :
    Calls Try.prog 49 #[.agg (lc x).toArray, wv u d] w fun e w' => e = .returned (.int .i64 (cmpW x.u x.d u d)) ∧ Only w w' [] := by
  simp only [wv]
  have h0 : (lc x).toArray[0]? = some (.int .i64 x.u) := rfl
  have h1 : (lc x).toArray[1]? = some (.int .i64 x.d) := rfl
  generalize lc x = cs at *
  go_enter Try.func49, Try.ntmps49
  go_wp2_with (first
    | (refine wpList_box_new rfl 76 _ rfl (.agg cs.toArray) rfl ?_; intro X wX oX hXl hX)
    | (refine wpList_box_new rfl 30 _ rfl (.agg #[.int .i64 u, .int .i64 d]) rfl ?_; intro Y wY oY hYl hY; have hX := oY.at hX (by simp); have hx0 := (cell_in hX 0).trans h0; have hx1 := (cell_in hX 1).trans h1; have hy0 := cell_two0 hY; have hy1 := cell_two1 hY))
  refine (compare_any x.u x.d u d _).mono ?_
  rintro e w1 ⟨rfl, ho⟩
  go_wp2_with fail
  go_ret
  exact ⟨rfl, (oX.trans oY).trans ho⟩

/-- Rising: whoever stands ahead stands ahead. -/
def Rise (l : List Li) : Prop := ∀ (u d : Int) (i j : Nat) (hi : i < j) (hj : j < l.length), cmpW l[j].u l[j].d u d < 0 → cmpW (l[i]'(by omega)).u (l[i]'(by omega)).d u d < 0
def placeL (l : List Li) (u d : Int) : Nat := l.findIdx fun r => decide (0 ≤ cmpW r.u r.d u d)
def foundL (l : List Li) (u d : Int) : Bool := match l[placeL l u d]? with
  | none => false
  | some r => cmpW r.u r.d u d == 0
theorem found_at {l : List Li} {u d : Int} (h : foundL l u d = true) : ∃ hk : placeL l u d < l.length, cmpW (l[placeL l u d]).u (l[placeL l u d]).d u d = 0 := by
  unfold foundL at h
  by_cases hk : placeL l u d < l.length
  · rw [List.getElem?_eq_getElem hk] at h
    exact ⟨hk, by simpa using h⟩
  · rw [List.getElem?_eq_none (by omega)] at h
    simp at h
theorem place_le (l : List Li) (u d : Int) : placeL l u d ≤ l.length := List.findIdx_le_length

set_option maxRecDepth 100000 in
set_option maxHeartbeats 3200000 in
theorem search_any {w0 : World} {rs : List Res} (l : List Li) (v : Value) (u d : Int) (w : World) (h : Sep w0 w (row 76 14 v l.length (fl lc l) :: rs)) (hl : l.length ≤ 1000000) (hr : Rise l) :
    Calls Try.prog 48 #[v, wv u d, .func (.func 49) #[] #[]] w fun e w' => e = .returned (.tuple #[.int .i64 (placeL l u d), .bool (foundL l u d)]) ∧ Only w w' [] := by
  obtain ⟨ao, c, rfl⟩ := own_slice (show w.ownsRow 0 _ 14 v l.length (fl lc l) from h.head)
  simp only [wv]
  have hW : (w.alloc (.cells #[.int .i64 u, .int .i64 d] 30)).heap[w.heap.size]? = some (.cells #[.int .i64 u, .int .i64 d] 30 (0, 0)) := heap_alloc_new w _
  have s1 := h.quiet (Only.alloc w (.cells #[.int .i64 u, .int .i64 d] 30) [])
  have o1 := Only.alloc w (.cells #[.int .i64 u, .int .i64 d] 30) []
  have HR := Lib.hid hr
  clear h hr
  go_enter Try.func48, Try.ntmps48
  go_wp2_with fail
  generalize w.alloc (.cells #[.int .i64 u, .int .i64 d] 30) = W at *
  generalize w.heap.size = A at *
  go_loopw [9, 10] (fun x y wr => ∃ i j : Nat, x = .int .i64 i ∧ y = .int .i64 j ∧ i ≤ j ∧ j ≤ l.length ∧ Hid (∀ k (hk : k < l.length), k < i → cmpW l[k].u l[k].d u d < 0) ∧ Hid (∀ k (hk : k < l.length), j ≤ k → 0 ≤ cmpW l[k].u l[k].d u d) ∧ Only W wr []) (fun x y _ => (intOf y).toNat - (intOf x).toNat)
  case atStart => exact ⟨0, l.length, rfl, rfl, Nat.zero_le _, Nat.le_refl _, fun k hk h => by omega, fun k hk h => by omega, Only.refl _ _⟩
  case round =>
    obtain ⟨i, j, rfl, rfl, hij, hj, hlo, hhi, ho⟩ := hrel
    by_cases hlt : i < j
    · have d1 : decide ((i : Int) < j) = true := by simpa using hlt
      obtain ⟨m, hm⟩ : ∃ m, m = (i + j) / 2 := ⟨_, rfl⟩
      have em : ((i : Int) + j) / 2 = m := by omega
      have him : i ≤ m := by omega
      have hmj : m < j := by omega
      have hml : m < l.length := by omega
      obtain ⟨g, rfl, _⟩ := own_some (show W.ownsRow 0 _ 14 (.slice ao l.length c) l.length (fl lc l) from s1.head) (by omega)
      have hrng : ∀ w', Only wr.drew w' [] → w'.rangeAt g (m * 14) (lc l[m]) :=
        fun w' hS => rec_range lc_len (s1.quiet (ho.trans ((Only.drew wr []).trans hS))).head hml
      have htar : ∀ w', Only wr.drew w' [] → w'.cell? ⟨A, 0, none⟩ = some (.int .i64 u) ∧ w'.cell? ⟨A, 1, none⟩ = some (.int .i64 d) := fun w' hS => by
        have := (ho.trans ((Only.drew wr []).trans hS)).at hW (by simp)
        exact ⟨cell_two0 this, cell_two1 this⟩
      have hup : Hid (cmpW l[m].u l[m].d u d < 0 → ∀ k (hk : k < l.length), k < m + 1 → cmpW l[k].u l[k].d u d < 0) := fun hx k hk hkm => by
        by_cases e : k = m
        · subst e; exact hx
        · exact HR.out u d k m (by omega) hml hx
      have hdn : Hid (0 ≤ cmpW l[m].u l[m].d u d → ∀ k (hk : k < l.length), m ≤ k → 0 ≤ cmpW l[k].u l[k].d u d) := fun hx k hk hkm => by
        by_cases e : k = m
        · subst e; exact hx
        · by_cases h0 : cmpW l[k].u l[k].d u d < 0
          · exact absurd (HR.out u d m k (by omega) hk h0) (by omega)
          · omega
      generalize l[m] = x at *
      have HE := Lib.hid em
      clear em hm
      go_upto_region 5 with fail
      rw [HE.out]
      refine wp_region_held_drew (S := fun w' => Only wr.drew w' []) (by kernel_rfl) (Only.refl _ _) (fun hHeld => ?_)
      refine' wpAnyH_take (i := 0) (v := _) (op_at rfl) (by kernel_rfl) (by kernel_rfl) (by kernel_rfl) (fun _ _ _ h => h) (Or.inl ⟨by rfl, ?hy1⟩) (by assumption) ?rest1
      case hy1 =>
        intro w' hS
        go_simp
        try with_reducible rfl
      try simp only [Act.put, List.setIfInBounds_toArray, List.set_cons_zero, List.set_cons_succ]
      refine' wpAnyH_take (i := 1) (v := _) (op_at rfl) (by kernel_rfl) (by kernel_rfl) (by kernel_rfl) (fun _ _ _ h => h) (Or.inl ⟨by rfl, ?hy2⟩) (by assumption) ?rest2
      case hy2 =>
        intro w' hS
        go_simp
        try with_reducible rfl
      try simp only [Act.put, List.setIfInBounds_toArray, List.set_cons_zero, List.set_cons_succ]
      refine' wpAnyH_take (i := 2) (v := _) (op_at rfl) (by kernel_rfl) (by kernel_rfl) (by kernel_rfl) (fun _ _ _ h => h) (Or.inl ⟨by rfl, ?hy3⟩) (by assumption) ?rest3
      case hy3 =>
        intro w' hS
        go_simp
        try with_reducible rfl
      try simp only [Act.put, List.setIfInBounds_toArray, List.set_cons_zero, List.set_cons_succ]
      refine' wpAnyH_take (i := 3) (v := _) (op_at rfl) (by kernel_rfl) (by kernel_rfl) (by kernel_rfl) (fun _ _ _ h => h) (Or.inl ⟨by rfl, ?hy4⟩) (by assumption) ?rest4
      case hy4 =>
        intro w' hS
        go_simp
        try with_reducible rfl
      try simp only [Act.put, List.setIfInBounds_toArray, List.set_cons_zero, List.set_cons_succ]
      refine wpAnyH_take (i := 4) (op_at rfl) (by kernel_rfl) (by kernel_rfl) (by kernel_rfl) (fun _ _ _ h => h) (yieldsIf_load_mid (by rfl) _ _ rfl g (m * 14) rfl (lc x) _ (fun w' hS => hrng w' hS) Try.underlying76 (by rfl) (by rw [lc_len]; kernel_rfl)) (by assumption) ?_
      try simp only [Act.put, List.setIfInBounds_toArray, List.set_cons_zero, List.set_cons_succ]
      refine' wpAnyH_take (i := 5) (v := _) (op_at rfl) (by kernel_rfl) (by kernel_rfl) (by kernel_rfl) (fun _ _ _ h => h) (Or.inl ⟨by rfl, ?hy6⟩) (by assumption) ?rest6
      case hy6 =>
        intro w' hS
        obtain ⟨ht0, ht1⟩ := htar w' hS
        go_simp
        try with_reducible rfl
      try simp only [Act.put, List.setIfInBounds_toArray, List.set_cons_zero, List.set_cons_succ]
      refine wpAnyH_ready (rs := [6]) (by kernel_rfl) (by simp) (AllReadyH.cons (op_at rfl) (fun K hK => ?_) AllReadyH.nil)
      go_simp
      refine (lfinds_any x u d _).mono fun e w3 hq => ?_
      obtain ⟨rfl, o3⟩ := hq
      go_wp2_with fail
      refine hK.out _ _ o3 (fun hHeld => ?_)
      clear hK K
      try simp only [Act.put, List.setIfInBounds_toArray, List.set_cons_zero, List.set_cons_succ]
      refine wpAnyH_more (S' := fun w' => Only w3 w' []) (fun w' h => Only.trans o3 h) _ _ _ _ ?_
      clear hHeld
      have hHeld : Only w3 w3 [] := Only.refl _ _
      refine' wpAnyH_take (i := 7) (v := _) (op_at rfl) (by kernel_rfl) (by kernel_rfl) (by kernel_rfl) (fun _ _ _ h => h) (Or.inl ⟨by rfl, ?hy7⟩) (by assumption) ?rest7
      case hy7 =>
        intro w' hS
        go_simp
        try with_reducible rfl
      try simp only [Act.put, List.setIfInBounds_toArray, List.set_cons_zero, List.set_cons_succ]
      refine wpAnyH_done (by kernel_rfl) ?_ _
      by_cases hx : cmpW x.u x.d u d < 0
      · have d2 : decide (cmpW x.u x.d u d < 0) = true := by simpa using hx
        have HU := Lib.hid (hup.out hx)
        clear hup hdn
        go_wp2_with fail
        refine ⟨⟨m + 1, j, by simp, rfl, by omega, hj, HU.out, hhi, (ho.trans (Only.drew wr [])).trans (o3.trans hHeld)⟩, by simp [intOf]; omega⟩
      · have d2 : decide (cmpW x.u x.d u d < 0) = false := by simpa using hx
        have HU := Lib.hid (hdn.out (by omega))
        clear hup hdn
        go_wp2_with fail
        refine ⟨⟨i, m, rfl, rfl, him, by omega, hlo, HU.out, (ho.trans (Only.drew wr [])).trans (o3.trans hHeld)⟩, by simp [intOf]; omega⟩
    · obtain rfl : i = j := by omega
      have d1 : decide ((i : Int) < i) = false := by simp
      have hpl : Hid (placeL l u d = i) := by
        show placeL l u d = i
        unfold placeL
        by_cases h : i < l.length
        · rw [List.findIdx_eq h]
          refine ⟨by simpa using hhi.out i h (Nat.le_refl _), fun k hk => ?_⟩
          have := hlo.out k (by omega) hk
          simp only [decide_eq_false_iff_not]
          omega
        · obtain rfl : i = l.length := by omega
          rw [List.findIdx_eq_length]
          intro r hr
          obtain ⟨k, hk, rfl⟩ := List.mem_iff_getElem.1 hr
          have := hlo.out k hk hk
          simp only [decide_eq_false_iff_not]
          omega
      by_cases hml : i < l.length
      · have d2 : decide ((i : Int) < l.length) = true := by simpa using hml
        obtain ⟨g, rfl, _⟩ := own_some (show W.ownsRow 0 _ 14 (.slice ao l.length c) l.length (fl lc l) from s1.head) (by omega)
        have hrng : ∀ w', Only wr.drew w' [] → w'.rangeAt g (i * 14) (lc l[i]) :=
          fun w' hS => rec_range lc_len (s1.quiet (ho.trans ((Only.drew wr []).trans hS))).head hml
        have htar : ∀ w', Only wr.drew w' [] → w'.cell? ⟨A, 0, none⟩ = some (.int .i64 u) ∧ w'.cell? ⟨A, 1, none⟩ = some (.int .i64 d) := fun w' hS => by
          have := (ho.trans ((Only.drew wr []).trans hS)).at hW (by simp)
          exact ⟨cell_two0 this, cell_two1 this⟩
        have hfd : Hid (foundL l u d = (cmpW l[i].u l[i].d u d == 0)) := by
          show foundL l u d = _
          unfold foundL
          rw [hpl.out, List.getElem?_eq_getElem hml]
        generalize l[i] = x at *
        go_upto_region 8 with fail
        refine wp_region_held_drew (S := fun w' => Only wr.drew w' []) (by kernel_rfl) (Only.refl _ _) (fun hHeld => ?_)
        refine' wpAnyH_take (i := 0) (v := _) (op_at rfl) (by kernel_rfl) (by kernel_rfl) (by kernel_rfl) (fun _ _ _ h => h) (Or.inl ⟨by rfl, ?hy8⟩) (by assumption) ?rest8
        case hy8 =>
          intro w' hS
          go_simp
          try with_reducible rfl
        try simp only [Act.put, List.setIfInBounds_toArray, List.set_cons_zero, List.set_cons_succ]
        refine' wpAnyH_take (i := 1) (v := _) (op_at rfl) (by kernel_rfl) (by kernel_rfl) (by kernel_rfl) (fun _ _ _ h => h) (Or.inl ⟨by rfl, ?hy9⟩) (by assumption) ?rest9
        case hy9 =>
          intro w' hS
          go_simp
          try with_reducible rfl
        try simp only [Act.put, List.setIfInBounds_toArray, List.set_cons_zero, List.set_cons_succ]
        refine' wpAnyH_take (i := 2) (v := _) (op_at rfl) (by kernel_rfl) (by kernel_rfl) (by kernel_rfl) (fun _ _ _ h => h) (Or.inl ⟨by rfl, ?hy10⟩) (by assumption) ?rest10
        case hy10 =>
          intro w' hS
          go_simp
          try with_reducible rfl
        try simp only [Act.put, List.setIfInBounds_toArray, List.set_cons_zero, List.set_cons_succ]
        refine' wpAnyH_take (i := 3) (v := _) (op_at rfl) (by kernel_rfl) (by kernel_rfl) (by kernel_rfl) (fun _ _ _ h => h) (Or.inl ⟨by rfl, ?hy11⟩) (by assumption) ?rest11
        case hy11 =>
          intro w' hS
          go_simp
          try with_reducible rfl
        try simp only [Act.put, List.setIfInBounds_toArray, List.set_cons_zero, List.set_cons_succ]
        refine' wpAnyH_take (i := 4) (v := _) (op_at rfl) (by kernel_rfl) (by kernel_rfl) (by kernel_rfl) (fun _ _ _ h => h) (Or.inl ⟨by rfl, ?hy12⟩) (by assumption) ?rest12
        case hy12 =>
          intro w' hS
          go_simp
          try with_reducible rfl
        try simp only [Act.put, List.setIfInBounds_toArray, List.set_cons_zero, List.set_cons_succ]
        refine' wpAnyH_take (i := 5) (v := _) (op_at rfl) (by kernel_rfl) (by kernel_rfl) (by kernel_rfl) (fun _ _ _ h => h) (Or.inl ⟨by rfl, ?hy13⟩) (by assumption) ?rest13
        case hy13 =>
          intro w' hS
          go_simp
          try with_reducible rfl
        try simp only [Act.put, List.setIfInBounds_toArray, List.set_cons_zero, List.set_cons_succ]
        refine' wpAnyH_take (i := 6) (v := _) (op_at rfl) (by kernel_rfl) (by kernel_rfl) (by kernel_rfl) (fun _ _ _ h => h) (Or.inl ⟨by rfl, ?hy14⟩) (by assumption) ?rest14
        case hy14 =>
          intro w' hS
          go_simp
          try with_reducible rfl
        try simp only [Act.put, List.setIfInBounds_toArray, List.set_cons_zero, List.set_cons_succ]
        refine' wpAnyH_take (i := 7) (v := _) (op_at rfl) (by kernel_rfl) (by kernel_rfl) (by kernel_rfl) (fun _ _ _ h => h) (Or.inl ⟨by rfl, ?hy15⟩) (by assumption) ?rest15
        case hy15 =>
          intro w' hS
          go_simp
          try with_reducible rfl
        try simp only [Act.put, List.setIfInBounds_toArray, List.set_cons_zero, List.set_cons_succ]
        refine' wpAnyH_take (i := 8) (v := _) (op_at rfl) (by kernel_rfl) (by kernel_rfl) (by kernel_rfl) (fun _ _ _ h => h) (Or.inl ⟨by rfl, ?hy16⟩) (by assumption) ?rest16
        case hy16 =>
          intro w' hS
          go_simp
          try with_reducible rfl
        try simp only [Act.put, List.setIfInBounds_toArray, List.set_cons_zero, List.set_cons_succ]
        refine wpAnyH_take (i := 9) (op_at rfl) (by kernel_rfl) (by kernel_rfl) (by kernel_rfl) (fun _ _ _ h => h) (yieldsIf_load_mid (by rfl) _ _ rfl g (i * 14) rfl (lc x) _ (fun w' hS => hrng w' hS) Try.underlying76 (by rfl) (by rw [lc_len]; kernel_rfl)) (by assumption) ?_
        try simp only [Act.put, List.setIfInBounds_toArray, List.set_cons_zero, List.set_cons_succ]
        refine' wpAnyH_take (i := 10) (v := _) (op_at rfl) (by kernel_rfl) (by kernel_rfl) (by kernel_rfl) (fun _ _ _ h => h) (Or.inl ⟨by rfl, ?hy18⟩) (by assumption) ?rest18
        case hy18 =>
          intro w' hS
          obtain ⟨ht0, ht1⟩ := htar w' hS
          go_simp
          try with_reducible rfl
        try simp only [Act.put, List.setIfInBounds_toArray, List.set_cons_zero, List.set_cons_succ]
        refine wpAnyH_ready (rs := [11]) (by kernel_rfl) (by simp) (AllReadyH.cons (op_at rfl) (fun K hK => ?_) AllReadyH.nil)
        go_simp
        refine (lfinds_any x u d _).mono fun e w3 hq => ?_
        obtain ⟨rfl, o3⟩ := hq
        go_wp2_with fail
        refine hK.out _ _ o3 (fun hHeld => ?_)
        clear hK K
        try simp only [Act.put, List.setIfInBounds_toArray, List.set_cons_zero, List.set_cons_succ]
        refine wpAnyH_more (S' := fun w' => Only w3 w' []) (fun w' h => Only.trans o3 h) _ _ _ _ ?_
        clear hHeld
        have hHeld : Only w3 w3 [] := Only.refl _ _
        refine' wpAnyH_take (i := 12) (v := _) (op_at rfl) (by kernel_rfl) (by kernel_rfl) (by kernel_rfl) (fun _ _ _ h => h) (Or.inl ⟨by rfl, ?hy19⟩) (by assumption) ?rest19
        case hy19 =>
          intro w' hS
          go_simp
          try with_reducible rfl
        try simp only [Act.put, List.setIfInBounds_toArray, List.set_cons_zero, List.set_cons_succ]
        refine' wpAnyH_take (i := 13) (v := _) (op_at rfl) (by kernel_rfl) (by kernel_rfl) (by kernel_rfl) (fun _ _ _ h => h) (Or.inl ⟨by rfl, ?hy20⟩) (by assumption) ?rest20
        case hy20 =>
          intro w' hS
          go_simp
          try with_reducible rfl
        try simp only [Act.put, List.setIfInBounds_toArray, List.set_cons_zero, List.set_cons_succ]
        refine' wpAnyH_take (i := 14) (v := _) (op_at rfl) (by kernel_rfl) (by kernel_rfl) (by kernel_rfl) (fun _ _ _ h => h) (Or.inl ⟨by rfl, ?hy21⟩) (by assumption) ?rest21
        case hy21 =>
          intro w' hS
          go_simp
          try with_reducible rfl
        try simp only [Act.put, List.setIfInBounds_toArray, List.set_cons_zero, List.set_cons_succ]
        refine' wpAnyH_take (i := 15) (v := _) (op_at rfl) (by kernel_rfl) (by kernel_rfl) (by kernel_rfl) (fun _ _ _ h => h) (Or.inl ⟨by rfl, ?hy22⟩) (by assumption) ?rest22
        case hy22 =>
          intro w' hS
          go_simp
          try with_reducible rfl
        try simp only [Act.put, List.setIfInBounds_toArray, List.set_cons_zero, List.set_cons_succ]
        refine wpAnyH_done (by kernel_rfl) ?_ _
        go_wp2_with fail
        refine bodyPost_ret (v := .tuple #[.int .i64 i, .bool (cmpW x.u x.d u d == 0)]) (by simp [results, Try.results48, go_sem]) rfl ?_
        exact ⟨by rw [hpl.out, hfd.out], o1.trans ((ho.trans (Only.drew wr [])).trans (o3.trans hHeld))⟩
      · have d2 : decide ((i : Int) < l.length) = false := by simpa using hml
        have hfd : Hid (foundL l u d = false) := by
          show foundL l u d = _
          unfold foundL
          rw [hpl.out, List.getElem?_eq_none (by omega)]
        go_upto_region 8 with fail
        refine wp_region_held_drew (S := fun w' => Only wr.drew w' []) (by kernel_rfl) (Only.refl _ _) (fun hHeld => ?_)
        refine' wpAnyH_take (i := 0) (v := _) (op_at rfl) (by kernel_rfl) (by kernel_rfl) (by kernel_rfl) (fun _ _ _ h => h) (Or.inl ⟨by rfl, ?hy23⟩) (by assumption) ?rest23
        case hy23 =>
          intro w' hS
          go_simp
          try with_reducible rfl
        try simp only [Act.put, List.setIfInBounds_toArray, List.set_cons_zero, List.set_cons_succ]
        refine' wpAnyH_take (i := 1) (v := _) (op_at rfl) (by kernel_rfl) (by kernel_rfl) (by kernel_rfl) (fun _ _ _ h => h) (Or.inl ⟨by rfl, ?hy24⟩) (by assumption) ?rest24
        case hy24 =>
          intro w' hS
          go_simp
          try with_reducible rfl
        try simp only [Act.put, List.setIfInBounds_toArray, List.set_cons_zero, List.set_cons_succ]
        refine' wpAnyH_take (i := 2) (v := _) (op_at rfl) (by kernel_rfl) (by kernel_rfl) (by kernel_rfl) (fun _ _ _ h => h) (Or.inl ⟨by rfl, ?hy25⟩) (by assumption) ?rest25
        case hy25 =>
          intro w' hS
          go_simp
          try with_reducible rfl
        try simp only [Act.put, List.setIfInBounds_toArray, List.set_cons_zero, List.set_cons_succ]
        refine' wpAnyH_take (i := 3) (v := _) (op_at rfl) (by kernel_rfl) (by kernel_rfl) (by kernel_rfl) (fun _ _ _ h => h) (Or.inl ⟨by rfl, ?hy26⟩) (by assumption) ?rest26
        case hy26 =>
          intro w' hS
          go_simp
          try with_reducible rfl
        try simp only [Act.put, List.setIfInBounds_toArray, List.set_cons_zero, List.set_cons_succ]
        refine' wpAnyH_take (i := 4) (v := _) (op_at rfl) (by kernel_rfl) (by kernel_rfl) (by kernel_rfl) (fun _ _ _ h => h) (Or.inl ⟨by rfl, ?hy27⟩) (by assumption) ?rest27
        case hy27 =>
          intro w' hS
          go_simp
          try with_reducible rfl
        try simp only [Act.put, List.setIfInBounds_toArray, List.set_cons_zero, List.set_cons_succ]
        refine wpAnyH_take (i := 5) (v := undef) (op_at rfl) (by kernel_rfl) (by kernel_rfl) (by kernel_rfl) (fun _ _ _ h => h) (Or.inr ⟨by rfl, rfl⟩) (by assumption) ?_
        try simp only [Act.put, List.setIfInBounds_toArray, List.set_cons_zero, List.set_cons_succ]
        refine wpAnyH_take (i := 6) (v := undef) (op_at rfl) (by kernel_rfl) (by kernel_rfl) (by kernel_rfl) (fun _ _ _ h => h) (Or.inr ⟨by rfl, rfl⟩) (by assumption) ?_
        try simp only [Act.put, List.setIfInBounds_toArray, List.set_cons_zero, List.set_cons_succ]
        refine wpAnyH_take (i := 7) (v := undef) (op_at rfl) (by kernel_rfl) (by kernel_rfl) (by kernel_rfl) (fun _ _ _ h => h) (Or.inr ⟨by rfl, rfl⟩) (by assumption) ?_
        try simp only [Act.put, List.setIfInBounds_toArray, List.set_cons_zero, List.set_cons_succ]
        refine wpAnyH_take (i := 8) (v := undef) (op_at rfl) (by kernel_rfl) (by kernel_rfl) (by kernel_rfl) (fun _ _ _ h => h) (Or.inr ⟨by rfl, rfl⟩) (by assumption) ?_
        try simp only [Act.put, List.setIfInBounds_toArray, List.set_cons_zero, List.set_cons_succ]
        refine wpAnyH_take (i := 9) (v := undef) (op_at rfl) (by kernel_rfl) (by kernel_rfl) (by kernel_rfl) (fun _ _ _ h => h) (Or.inr ⟨by rfl, rfl⟩) (by assumption) ?_
        try simp only [Act.put, List.setIfInBounds_toArray, List.set_cons_zero, List.set_cons_succ]
        refine wpAnyH_take (i := 10) (v := undef) (op_at rfl) (by kernel_rfl) (by kernel_rfl) (by kernel_rfl) (fun _ _ _ h => h) (Or.inr ⟨by rfl, rfl⟩) (by assumption) ?_
        try simp only [Act.put, List.setIfInBounds_toArray, List.set_cons_zero, List.set_cons_succ]
        refine wpAnyH_take (i := 11) (v := undef) (op_at rfl) (by kernel_rfl) (by kernel_rfl) (by kernel_rfl) (fun _ _ _ h => h) (Or.inr ⟨by rfl, rfl⟩) (by assumption) ?_
        try simp only [Act.put, List.setIfInBounds_toArray, List.set_cons_zero, List.set_cons_succ]
        refine wpAnyH_take (i := 12) (v := undef) (op_at rfl) (by kernel_rfl) (by kernel_rfl) (by kernel_rfl) (fun _ _ _ h => h) (Or.inr ⟨by rfl, rfl⟩) (by assumption) ?_
        try simp only [Act.put, List.setIfInBounds_toArray, List.set_cons_zero, List.set_cons_succ]
        refine' wpAnyH_take (i := 13) (v := _) (op_at rfl) (by kernel_rfl) (by kernel_rfl) (by kernel_rfl) (fun _ _ _ h => h) (Or.inl ⟨by rfl, ?hy36⟩) (by assumption) ?rest36
        case hy36 =>
          intro w' hS
          go_simp
          try with_reducible rfl
        try simp only [Act.put, List.setIfInBounds_toArray, List.set_cons_zero, List.set_cons_succ]
        refine' wpAnyH_take (i := 14) (v := _) (op_at rfl) (by kernel_rfl) (by kernel_rfl) (by kernel_rfl) (fun _ _ _ h => h) (Or.inl ⟨by rfl, ?hy37⟩) (by assumption) ?rest37
        case hy37 =>
          intro w' hS
          go_simp
          try with_reducible rfl
        try simp only [Act.put, List.setIfInBounds_toArray, List.set_cons_zero, List.set_cons_succ]
        refine' wpAnyH_take (i := 15) (v := _) (op_at rfl) (by kernel_rfl) (by kernel_rfl) (by kernel_rfl) (fun _ _ _ h => h) (Or.inl ⟨by rfl, ?hy38⟩) (by assumption) ?rest38
        case hy38 =>
          intro w' hS
          go_simp
          try with_reducible rfl
        try simp only [Act.put, List.setIfInBounds_toArray, List.set_cons_zero, List.set_cons_succ]
        refine wpAnyH_done (by kernel_rfl) ?_ _
        go_wp2_with fail
        refine bodyPost_ret (v := .tuple #[.int .i64 i, .bool (false)]) (by simp [results, Try.results48, go_sem]) rfl ?_
        exact ⟨by rw [hpl.out, hfd.out], o1.trans ((ho.trans (Only.drew wr [])).trans hHeld)⟩
end Go.Proofs.Yteljkfihmbddaaa

/- find, Is, All of layer 17 (registry). Printed by gen_rg2.py. -/
namespace Go.Proofs.Yteljkfihmbddaaa
open Go.RowKit Go.Pw
set_option linter.unusedVariables false

set_option maxRecDepth 100000 in
set_option maxHeartbeats 1600000 in
theorem find_nil (u d : Int) (w : World) :
    Calls Try.prog 28 #[.pointer none, wv u d] w fun e w' => e = .returned (.tuple #[.int .i64 0, .bool false]) ∧ Only w w' [] := by
  simp only [wv]
  go_enter Try.func28, Try.ntmps28
  go_wp2_with fail
  refine bodyPost_ret (v := .tuple #[.int .i64 0, .bool false]) (by simp [results, Try.results28, go_sem]) rfl ?_
  exact ⟨rfl, Only.alloc _ _ _⟩

set_option maxRecDepth 100000 in
set_option maxHeartbeats 1600000 in
theorem find_any {w0 : World} {rs : List Res} (B : Nat) (l : List Li) (v : Value) (u d : Int) (w : World) (h : Sep w0 w (row 76 14 v l.length (fl lc l) :: blk B [v] 72 :: rs)) (hl : l.length ≤ 1000000) (hr : Rise l) :
    Calls Try.prog 28 #[.pointer (some ⟨B, 0, none⟩), wv u d] w fun e w' => e = .returned (.tuple #[.int .i64 (placeL l u d), .bool (foundL l u d)]) ∧ Only w w' [] := by
  obtain ⟨ao, c, rfl⟩ := own_slice (show w.ownsRow 0 _ 14 v l.length (fl lc l) from h.head)
  simp only [wv]
  have hW : (w.alloc (.cells #[.int .i64 u, .int .i64 d] 30)).heap[w.heap.size]? = some (.cells #[.int .i64 u, .int .i64 d] 30 (0, 0)) := heap_alloc_new w _
  have sB := h.quiet (Only.alloc w (.cells #[.int .i64 u, .int .i64 d] 30) [])
  have o1 := Only.alloc w (.cells #[.int .i64 u, .int .i64 d] 30) []
  clear h
  go_enter Try.func28, Try.ntmps28
  go_upto_region 3 with fail
  generalize w.alloc (.cells #[.int .i64 u, .int .i64 d] 30) = W at *
  generalize w.heap.size = A at *
  refine wp_region_held_drew (S := fun w' => Only W.drew w' []) (by kernel_rfl) (Only.refl _ _) (fun hHeld => ?_)
  refine' wpAnyH_take (i := 0) (v := _) (op_at rfl) (by kernel_rfl) (by kernel_rfl) (by kernel_rfl) (fun _ _ _ h => h) (Or.inl ⟨by rfl, ?hy1⟩) (by assumption) ?rest1
  case hy1 =>
    intro w' hS
    go_simp
    try with_reducible rfl
  try simp only [Act.put, List.setIfInBounds_toArray, List.set_cons_zero, List.set_cons_succ]
  refine' wpAnyH_take (i := 1) (v := _) (op_at rfl) (by kernel_rfl) (by kernel_rfl) (by kernel_rfl) (fun _ _ _ h => h) (Or.inl ⟨by rfl, ?hy2⟩) (by assumption) ?rest2
  case hy2 =>
    intro w' hS
    go_simp
    try with_reducible rfl
  try simp only [Act.put, List.setIfInBounds_toArray, List.set_cons_zero, List.set_cons_succ]
  refine' wpAnyH_take (i := 2) (v := _) (op_at rfl) (by kernel_rfl) (by kernel_rfl) (by kernel_rfl) (fun _ _ _ h => h) (Or.inl ⟨by rfl, ?hy3⟩) (by assumption) ?rest3
  case hy3 =>
    intro w' hS
    go_simp
    try with_reducible rfl
  try simp only [Act.put, List.setIfInBounds_toArray, List.set_cons_zero, List.set_cons_succ]
  refine' wpAnyH_take (i := 3) (v := _) (op_at rfl) (by kernel_rfl) (by kernel_rfl) (by kernel_rfl) (fun _ _ _ h => h) (Or.inl ⟨by rfl, ?hy4⟩) (by assumption) ?rest4
  case hy4 =>
    intro w' hS
    have hc0 := cell_of_one ((sB.quiet ((Only.drew W []).trans hS)).tail.head)
    go_simp
    try with_reducible rfl
  try simp only [Act.put, List.setIfInBounds_toArray, List.set_cons_zero, List.set_cons_succ]
  refine' wpAnyH_take (i := 4) (v := _) (op_at rfl) (by kernel_rfl) (by kernel_rfl) (by kernel_rfl) (fun _ _ _ h => h) (Or.inl ⟨by rfl, ?hy5⟩) (by assumption) ?rest5
  case hy5 =>
    intro w' hS
    have ht := ((Only.drew W []).trans hS).at hW (by simp)
    have ht0 := cell_two0 ht
    have ht1 := cell_two1 ht
    go_simp
    try with_reducible rfl
  try simp only [Act.put, List.setIfInBounds_toArray, List.set_cons_zero, List.set_cons_succ]
  refine wpAnyH_ready (rs := [5]) (by kernel_rfl) (by simp) (AllReadyH.cons (op_at rfl) (fun K hK => ?_) AllReadyH.nil)
  go_simp
  refine (search_any l _ u d _ (sB.quiet ((Only.drew W []).trans hHeld)) hl hr).mono fun e w3 hq => ?_
  obtain ⟨rfl, o3⟩ := hq
  go_wp2_with fail
  refine hK.out _ _ o3 (fun hHeld => ?_)
  clear hK K
  try simp only [Act.put, List.setIfInBounds_toArray, List.set_cons_zero, List.set_cons_succ]
  refine' wpAnyH_take (i := 6) (v := _) (op_at rfl) (by kernel_rfl) (by kernel_rfl) (by kernel_rfl) (fun _ _ _ h => h) (Or.inl ⟨by rfl, ?hy6⟩) (by assumption) ?rest6
  case hy6 =>
    intro w' hS
    go_simp
    try with_reducible rfl
  try simp only [Act.put, List.setIfInBounds_toArray, List.set_cons_zero, List.set_cons_succ]
  refine' wpAnyH_take (i := 7) (v := _) (op_at rfl) (by kernel_rfl) (by kernel_rfl) (by kernel_rfl) (fun _ _ _ h => h) (Or.inl ⟨by rfl, ?hy7⟩) (by assumption) ?rest7
  case hy7 =>
    intro w' hS
    go_simp
    try with_reducible rfl
  try simp only [Act.put, List.setIfInBounds_toArray, List.set_cons_zero, List.set_cons_succ]
  refine' wpAnyH_take (i := 8) (v := _) (op_at rfl) (by kernel_rfl) (by kernel_rfl) (by kernel_rfl) (fun _ _ _ h => h) (Or.inl ⟨by rfl, ?hy8⟩) (by assumption) ?rest8
  case hy8 =>
    intro w' hS
    go_simp
    try with_reducible rfl
  try simp only [Act.put, List.setIfInBounds_toArray, List.set_cons_zero, List.set_cons_succ]
  refine' wpAnyH_take (i := 9) (v := _) (op_at rfl) (by kernel_rfl) (by kernel_rfl) (by kernel_rfl) (fun _ _ _ h => h) (Or.inl ⟨by rfl, ?hy9⟩) (by assumption) ?rest9
  case hy9 =>
    intro w' hS
    go_simp
    try with_reducible rfl
  try simp only [Act.put, List.setIfInBounds_toArray, List.set_cons_zero, List.set_cons_succ]
  refine wpAnyH_done (by kernel_rfl) ?_ _
  go_wp2_with fail
  refine bodyPost_ret (v := .tuple #[.int .i64 (placeL l u d), .bool (foundL l u d)]) (by simp [results, Try.results28, go_sem]) rfl ?_
  exact ⟨rfl, o1.trans ((Only.drew W []).trans hHeld)⟩

/-- Is a device there? -/
def isL (l : List Li) (u d : Int) : Bool := foundL l u d && (match l[placeL l u d]? with | some x => x.on | none => false)

theorem is_nil (u d : Int) (w : World) :
    Calls Try.prog 25 #[.pointer none, wv u d] w fun e w' => e = .returned (.bool false) ∧ Only w w' [] := by
  simp only [wv]
  go_enter Try.func25, Try.ntmps25
  go_wp2_with fail
  refine (find_nil u d _).mono ?_
  rintro e w1 ⟨rfl, o1⟩
  go_wp2_with fail
  go_ret
  exact ⟨rfl, (Only.alloc _ _ _).trans o1⟩

set_option maxRecDepth 100000 in
set_option maxHeartbeats 1600000 in
theorem is_any {w0 : World} {rs : List Res} (B : Nat) (l : List Li) (v : Value) (u d : Int) (w : World) (h : Sep w0 w (row 76 14 v l.length (fl lc l) :: blk B [v] 72 :: rs)) (hl : l.length ≤ 1000000) (hr : Rise l) :
    Calls Try.prog 25 #[.pointer (some ⟨B, 0, none⟩), wv u d] w fun e w' => e = .returned (.bool (isL l u d)) ∧ Only w w' [] := by
  obtain ⟨ao, c, rfl⟩ := own_slice (show w.ownsRow 0 _ 14 v l.length (fl lc l) from h.head)
  have oA := Only.alloc w (.cells #[.int .i64 u, .int .i64 d] 30) []
  have sB := h.quiet oA
  clear h
  have Hfind := find_any B l _ u d _ sB hl hr
  have hI : isL l u d = (foundL l u d && (match l[placeL l u d]? with | some x => x.on | none => false)) := rfl
  simp only [wv] at *
  rw [hI]
  clear hI
  cases hf : foundL l u d with
  | true =>
    obtain ⟨hk, _⟩ := found_at hf
    rw [hf] at Hfind
    rw [List.getElem?_eq_getElem hk]
    simp only [Bool.true_and]
    generalize placeL l u d = k at *
    obtain ⟨g, rfl, _⟩ := own_some (show (w.alloc (.cells #[.int .i64 u, .int .i64 d] 30)).ownsRow 0 _ 14 (.slice ao l.length c) l.length (fl lc l) from sB.head) (by omega)
    have hE := fun w1 (h1 : Sep w0 w1 (row 76 14 (.slice (some ⟨g, 0, none⟩) l.length c) l.length (fl lc l) :: blk B [.slice (some ⟨g, 0, none⟩) l.length c] 72 :: rs)) => rec_cell lc_len h1.head hk 2 (v := .bool l[k].on) rfl
    generalize l[k] = x at *
    go_enter Try.func25, Try.ntmps25
    go_wp2_with fail
    refine Hfind.mono ?_
    rintro e w1 ⟨rfl, o1⟩
    have s1 := sB.quiet o1
    have hc := hE w1 s1
    have hBc := cell_of_one s1.tail.head
    have oF := oA.trans o1
    clear sB hE s1 o1 oA
    go_wp2_with fail
    go_ret
    exact ⟨rfl, oF⟩
  | false =>
    rw [hf] at Hfind
    simp only [Bool.false_and]
    go_enter Try.func25, Try.ntmps25
    go_wp2_with fail
    refine Hfind.mono ?_
    rintro e w1 ⟨rfl, o1⟩
    have oF := oA.trans o1
    clear sB o1 oA
    go_wp2_with fail
    go_ret
    exact ⟨rfl, oF⟩

/-- A new row of devices. -/
def Whos (ws : List (Int × Int)) (w : World) (e : Ending) (w' : World) : Prop := ∃ ao c, e = .returned (.slice ao ws.length c) ∧ Sep w w' [row 30 2 (.slice ao ws.length c) ws.length (fl wc ws)]
theorem who_info : (Try.prog.info? 30).map (fun i => (i.zero, i.size, i.bytes)) = some (some (.agg #[.int .i64 0, .int .i64 0]), 2, 16) := by kernel_rfl
theorem whos_nil (w : World) : Sep w w [row 30 2 (.slice none 0 0) ([] : List (Int × Int)).length (fl wc [])] := (Sep.nil w).rown _ _

theorem all_nil (w : World) :
    Calls Try.prog 26 #[.pointer none] w fun e w' => e = .returned (.slice none 0 0) ∧ Only w w' [] := by
  go_enter Try.func26, Try.ntmps26
  go_wp2_with fail
  go_ret
  exact ⟨rfl, Only.refl _ _⟩

def lineZ : Value := .agg (lc ⟨0, 0, false, b0, .slice none 0 0, [], rfl⟩).toArray
def keys (l : List Li) : List (Int × Int) := l.map fun x => (x.u, x.d)

set_option maxRecDepth 100000 in
set_option maxHeartbeats 3200000 in
theorem all_any {w0 : World} {rs : List Res} (B : Nat) (l : List Li) (v : Value) (w : World) (h : Sep w0 w (row 76 14 v l.length (fl lc l) :: blk B [v] 72 :: rs)) (hl : l.length ≤ 1000000) :
    Calls Try.prog 26 #[.pointer (some ⟨B, 0, none⟩)] w (Whos (keys l) w) := by
  obtain ⟨i0, hi, hz0, hz1, hz2⟩ := info_parts who_info
  obtain ⟨ao, c, rfl⟩ := own_slice (show w.ownsRow 0 _ 14 v l.length (fl lc l) from h.head)
  have hBc := cell_of_one h.tail.head
  go_enter Try.func26, Try.ntmps26
  go_wp2_with fail
  clear hBc
  go_loopw [3, 13] (fun x y wr => ∃ (k : Nat) (a1 : Option Addr) (c1 : Nat), x = .slice a1 k c1 ∧ y = .int .i64 k ∧ k ≤ l.length ∧ Sep w wr [row 30 2 (.slice a1 k c1) k (fl wc (keys (l.take k)))]) (fun _ y _ => l.length - (intOf y).toNat)
  case atStart => exact ⟨0, none, 0, rfl, rfl, Nat.zero_le _, whos_nil w⟩
  case round =>
    obtain ⟨k, a1, c1, rfl, rfl, hk, hs⟩ := hrel
    by_cases hkl : k < l.length
    · have d1 : decide ((k : Int) < l.length) = true := by simpa using hkl
      obtain ⟨g, rfl, _⟩ := own_some (show w.ownsRow 0 _ 14 (.slice ao l.length c) l.length (fl lc l) from h.head) (by omega)
      have hrng : wr.rangeAt g (k * 14) (lc l[k]) := rec_range lc_len (h.quiet hs.only).head hkl
      have htk : Hid (fl wc (keys (l.take k)) ++ wc (l[k].u, l[k].d) = fl wc (keys (l.take (k + 1)))) := by
        show _ = _
        rw [List.take_succ_eq_append_getElem hkl, keys, keys, List.map_append, fl_app]
        rfl
      generalize l[k] = x at *
      have h1c := lc_arr x
      have g0 : (lc x).toArray[0]? = some (.int .i64 x.u) := rfl
      have g1 : (lc x).toArray[1]? = some (.int .i64 x.d) := rfl
      have hll := lc_len x
      generalize lc x = cs at *
      go_wp2_with (first
        | (refine wpList_load_mid rfl 76 _ rfl g (k * 14) rfl cs _ hrng Try.underlying76 (by rfl) (by rw [hll]; kernel_rfl) ?_)
        | (refine wpList_alloc_new rfl 76 rfl lineZ (fun _ => by kernel_rfl) ?_; intro X wX oX hXl hX)
        | (refine wpList_store_blk rfl 76 _ _ rfl X cs rfl rfl hX hll.symm (by rw [hll]; kernel_rfl) h1c ?_; intro wY oY hY; have hs2 := hs.quiet (oX.new oY (fun i hi => by simp only [List.mem_singleton] at hi; omega)); have hy0 := (cell_in hY 0).trans g0; have hy1 := (cell_in hY 1).trans g1; clear hs hX oX oY hY)
        | (at_builtin; refine wpList_append_sep rfl _ _ 31 rfl 30 i0 _ 2 16 Try.underlying31 hi hz0 hz1 hz2 rfl (by decide) (.slice a1 k c1) k _ rfl (hs2.quiet (Only.alloc _ (.cells #[.int .i64 x.u, .int .i64 x.d] 30) [])) _ 1 (wc (x.u, x.d)) rfl (src_lit _ [.int .i64 x.u, .int .i64 x.d] _ 1 2 rfl) (wc_one _) (by unfold maxLen; omega) (by omega) ?_; intro a7 c7 w7 o7 s7; rw [htk.out] at s7))
      exact ⟨⟨k + 1, a7, c7, rfl, by simp, by omega, s7⟩, by simp [intOf]; omega⟩
    · obtain rfl : k = l.length := by omega
      have d1 : decide ((l.length : Int) < l.length) = false := by simp
      have hn : Hid ((keys l).length = l.length) := by simp [Hid, keys]
      rw [List.take_length] at hs
      go_wp2_with fail
      go_ret
      exact ⟨a1, c1, by rw [hn.out]; rfl, by rw [hn.out]; exact hs⟩
end Go.Proofs.Yteljkfihmbddaaa

/- List, Next, Audience of layer 17 (registry). Printed by gen_rg3.py. -/
namespace Go.Proofs.Yteljkfihmbddaaa
open Go.RowKit Go.Pw
set_option linter.unusedVariables false

/-- A user's devices that are. -/
def listL (l : List Li) (user : Int) : List (Int × Int) := (keys l).filter fun p => p.1 == user && isL l p.1 p.2

theorem filter_snoc {α : Type} (f : α → Bool) (l : List α) (x : α) : (l ++ [x]).filter f = l.filter f ++ (if f x = true then [x] else []) := by
  rw [List.filter_append]
  cases h : f x <;> simp [h]
theorem keys_len (l : List Li) : (keys l).length = l.length := by simp [keys]

theorem list_nil (user : Int) (w : World) :
    Calls Try.prog 10 #[.pointer none, .int .i64 user] w fun e w' => e = .returned (.slice none 0 0) ∧ Only w w' [] := by
  go_enter Try.func10, Try.ntmps10
  go_wp2_with fail
  refine (all_nil _).mono ?_
  rintro e w1 ⟨rfl, o⟩
  go_wp2_with fail
  go_loopw [5, 11] (fun x y wr => x = .slice none 0 0 ∧ y = .int .i64 0 ∧ Only w wr []) (fun _ _ _ => 0)
  case atStart => exact ⟨rfl, rfl, o⟩
  case round =>
    obtain ⟨rfl, rfl, o⟩ := hrel
    go_wp2_with fail
    go_ret
    exact ⟨rfl, o⟩
theorem audience_nil (u d to : Int) (w : World) :
    Calls Try.prog 27 #[.pointer none, wv u d, .int .i64 to] w fun e w' => e = .returned (.slice none 0 0) ∧ Only w w' [] := by
  simp only [wv]
  go_enter Try.func27, Try.ntmps27
  go_wp2_with fail
  refine (all_nil _).mono ?_
  rintro e w1 ⟨rfl, o⟩
  go_wp2_with fail
  go_loopw [7, 13] (fun x y wr => x = .slice none 0 0 ∧ y = .int .i64 0 ∧ Only w wr []) (fun _ _ _ => 0)
  case atStart => exact ⟨rfl, rfl, (Only.alloc _ _ _).trans o⟩
  case round =>
    obtain ⟨rfl, rfl, o⟩ := hrel
    go_wp2_with fail
    go_ret
    exact ⟨rfl, o⟩

set_option maxRecDepth 100000 in
set_option maxHeartbeats 3200000 in
theorem list_any {w0 : World} {rs : List Res} (B : Nat) (l : List Li) (v : Value) (user : Int) (w : World) (h : Sep w0 w (row 76 14 v l.length (fl lc l) :: blk B [v] 72 :: rs)) (hl : l.length ≤ 1000000) (hr : Rise l) :
    Calls Try.prog 10 #[.pointer (some ⟨B, 0, none⟩), .int .i64 user] w (Whos (listL l user) w) := by
  obtain ⟨i0, hi, hz0, hz1, hz2⟩ := info_parts who_info
  have Hall := all_any B l v w h hl
  have His := fun (u d : Int) (w' : World) (o : Only w w' []) => is_any B l v u d w' (h.quiet o) hl hr
  have hkl := keys_len l
  have hLL : listL l user = (keys l).filter fun p => p.1 == user && isL l p.1 p.2 := rfl
  rw [hLL]
  clear hLL
  generalize keys l = ks at *
  clear h hr
  obtain ⟨F, hF⟩ : ∃ F : Int × Int → Bool, F = fun p => p.1 == user && isL l p.1 p.2 := ⟨_, rfl⟩
  rw [← hF]
  have HF := Lib.hid (fun p : Int × Int => show F p = (p.1 == user && isL l p.1 p.2) by rw [hF])
  clear hF
  go_enter Try.func10, Try.ntmps10
  go_wp2_with fail
  refine Hall.mono ?_
  rintro e w1 ⟨aA, cA, rfl, sA⟩
  clear Hall
  go_wp2_with fail
  go_loopw [5, 11] (fun x y wr => ∃ (k : Nat) (a1 : Option Addr) (c1 : Nat), x = .slice a1 ((ks.take k).filter F).length c1 ∧ y = .int .i64 k ∧ k ≤ ks.length ∧ Sep w wr [row 30 2 (.slice a1 ((ks.take k).filter F).length c1) ((ks.take k).filter F).length (fl wc ((ks.take k).filter F)), row 30 2 (.slice aA ks.length cA) ks.length (fl wc ks)]) (fun _ y _ => ks.length - (intOf y).toNat)
  case atStart => exact ⟨0, none, 0, rfl, rfl, Nat.zero_le _, sA.rown _ _⟩
  case round =>
    clear sA
    obtain ⟨k, a1, c1, rfl, rfl, hk, hs⟩ := hrel
    by_cases hkk : k < ks.length
    · have d1 : decide ((k : Int) < ks.length) = true := by simpa using hkk
      have hA : wr.ownsRow 0 30 2 (.slice aA ks.length cA) ks.length (fl wc ks) := hs.tail.head
      obtain ⟨gA, rfl, _⟩ := own_some hA (by omega)
      have e0 := rec_cell wc_len hA hkk 0 (v := .int .i64 ks[k].1) rfl
      have e1 := rec_cell wc_len hA hkk 1 (v := .int .i64 ks[k].2) rfl
      rw [Nat.add_zero] at e0
      have htk : (ks.take (k + 1)).filter F = (ks.take k).filter F ++ (if F ks[k] = true then [ks[k]] else []) := by
        rw [List.take_succ_eq_append_getElem hkk, filter_snoc]
      have hFk := HF.out ks[k]
      generalize ks[k] = p at *
      obtain ⟨pu, pd⟩ := p
      simp only at e0 e1 hFk
      have hql : ((ks.take k).filter F).length ≤ 1000000 := by have := List.length_filter_le F (ks.take k); rw [List.length_take] at this; omega
      generalize hq : (ks.take k).filter F = q at *
      have h1c : ([.int .i64 pu, .int .i64 pd] : List Value).toArray.all (·.oneCell') = true := by simp [Value.oneCell']
      clear hq hA
      by_cases hu : pu = user
      · have du : (pu == user) = true := by simpa using hu
        rw [du, Bool.true_and] at hFk
        clear hu
        go_wp2_with (first
          | (refine wpList_alloc_new rfl 30 rfl (.agg #[.int .i64 0, .int .i64 0]) (fun _ => by kernel_rfl) ?_; intro X wX oX hXl hX)
          | (refine wpList_store_blk rfl 30 _ _ rfl X [.int .i64 pu, .int .i64 pd] rfl rfl hX rfl (by kernel_rfl) h1c ?_; intro wY oY hY; have hs2 := hs.quiet (oX.new oY (fun i hi => by simp only [List.mem_singleton] at hi; omega)); have hy0 := cell_two0 hY; have hy1 := cell_two1 hY; clear hs hX oX oY e0 e1))
        refine (His pu pd _ hs2.only).mono ?_
        cases hI : isL l pu pd with
        | true =>
          rintro e w3 ⟨rfl, o3⟩
          rw [hI] at hFk
          have htk : Hid (fl wc q ++ wc (pu, pd) = fl wc ((ks.take (k + 1)).filter F) ∧ ((ks.take (k + 1)).filter F).length = q.length + 1) := by
            show _ ∧ _
            rw [htk, if_pos hFk, fl_app]
            exact ⟨rfl, by simp⟩
          clear hFk hI du
          have hs3 := hs2.quiet o3
          have hY3 := o3.at hY (by simp)
          clear hs2 o3 hY hy0 hy1
          have hy0 := cell_two0 hY3
          have hy1 := cell_two1 hY3
          go_wp2_with (at_builtin; refine wpList_append_sep rfl _ _ 31 rfl 30 i0 _ 2 16 Try.underlying31 hi hz0 hz1 hz2 rfl (by decide) (.slice a1 q.length c1) q.length _ rfl (hs3.quiet (Only.alloc _ (.cells #[.int .i64 pu, .int .i64 pd] 30) [])) _ 1 (wc (pu, pd)) rfl (src_lit _ [.int .i64 pu, .int .i64 pd] _ 1 2 rfl) (wc_one _) (by unfold maxLen; omega) (by omega) ?_; intro a7 c7 w7 o7 s7; rw [htk.out.1] at s7)
          refine ⟨⟨k + 1, a7, c7, by rw [htk.out.2], by simp, by omega, by rw [htk.out.2]; exact s7⟩, by simp [intOf]; omega⟩
        | false =>
          rintro e w3 ⟨rfl, o3⟩
          rw [hI] at hFk
          have htk : Hid ((ks.take (k + 1)).filter F = q) := by
            show _ = _
            rw [htk, if_neg (by rw [hFk]; simp), List.append_nil]
          clear hFk hI du
          have hs3 := hs2.quiet o3
          clear hs2 o3 hY hy0 hy1
          go_wp2_with fail
          refine ⟨⟨k + 1, a1, c1, by rw [htk.out], by simp, by omega, by rw [htk.out]; exact hs3⟩, by simp [intOf]; omega⟩
      · have du : (pu == user) = false := by simpa using hu
        rw [du, Bool.false_and] at hFk
        have htk : Hid ((ks.take (k + 1)).filter F = q) := by
          show _ = _
          rw [htk, if_neg (by rw [hFk]; simp), List.append_nil]
        clear hu hFk
        go_wp2_with (first
          | (refine wpList_alloc_new rfl 30 rfl (.agg #[.int .i64 0, .int .i64 0]) (fun _ => by kernel_rfl) ?_; intro X wX oX hXl hX)
          | (refine wpList_store_blk rfl 30 _ _ rfl X [.int .i64 pu, .int .i64 pd] rfl rfl hX rfl (by kernel_rfl) h1c ?_; intro wY oY hY; have hs2 := hs.quiet (oX.new oY (fun i hi => by simp only [List.mem_singleton] at hi; omega)); have hy0 := cell_two0 hY; have hy1 := cell_two1 hY; clear hs hX oX oY e0 e1))
        refine ⟨⟨k + 1, a1, c1, by rw [htk.out], by simp, by omega, by rw [htk.out]; exact hs2⟩, by simp [intOf]; omega⟩
    · obtain rfl : k = ks.length := by omega
      have d1 : decide ((ks.length : Int) < ks.length) = false := by simp
      rw [List.take_length] at hs ⊢
      go_wp2_with fail
      go_ret
      exact ⟨a1, c1, rfl, hs.sel 2 [0]⟩
end Go.Proofs.Yteljkfihmbddaaa

/- Next, Left, Ident of layer 17 (registry). Printed by gen_rg4.py. -/
namespace Go.Proofs.Yteljkfihmbddaaa
open Go.RowKit Go.Pw
set_option linter.unusedVariables false

theorem next_nil (user : Int) (w : World) :
    Calls Try.prog 11 #[.pointer none, .int .i64 user] w fun e w' => e = .returned (.tuple #[wv 0 0, .int .i64 1]) ∧ Only w w' [] := by
  have h1c : ([.int .i64 0, .int .i64 0] : List Value).toArray.all (·.oneCell') = true := by simp [Value.oneCell']
  go_enter Try.func11, Try.ntmps11
  go_wp2_with (first
    | (refine wpList_alloc_new rfl 30 rfl (.agg #[.int .i64 0, .int .i64 0]) (fun _ => by kernel_rfl) ?_; intro X wX oX hXl hX)
    | (refine wpList_store_blk rfl 30 _ _ rfl X [.int .i64 0, .int .i64 0] rfl rfl hX rfl (by kernel_rfl) h1c ?_; intro wY oY hY; have oF := oX.new oY (fun i hi => by simp only [List.mem_singleton] at hi; omega); have hy0 := cell_two0 hY; have hy1 := cell_two1 hY))
  refine bodyPost_ret (v := .tuple #[.agg #[.int .i64 0, .int .i64 0], .int .i64 1]) (by simp [results, Try.results11, go_sem, hy0, hy1]) rfl ?_
  exact ⟨rfl, oF⟩

/-- What Next tells. -/
def cntL (l : List Li) (user : Int) : Nat := ((keys l).filter fun p => p.1 == user).length
def nextD (l : List Li) (user : Int) : (Int × Int) × Int :=
  if user < 0 ∨ 8 ≤ user then ((0, 0), 1) else if 4 ≤ (listL l user).length then ((0, 0), 3) else ((user, cntL l user + 1), 0)

set_option maxRecDepth 100000 in
set_option maxHeartbeats 3200000 in
theorem next_any {w0 : World} {rs : List Res} (B : Nat) (l : List Li) (v : Value) (user : Int) (w : World) (h : Sep w0 w (row 76 14 v l.length (fl lc l) :: blk B [v] 72 :: rs)) (hl : l.length ≤ 1000000) (hr : Rise l) :
    Calls Try.prog 11 #[.pointer (some ⟨B, 0, none⟩), .int .i64 user] w fun e w' => e = .returned (.tuple #[wv (nextD l user).1.1 (nextD l user).1.2, .int .i64 (nextD l user).2]) ∧ Only w w' [] := by
  have Hlist := fun (w' : World) (o : Only w w' []) => list_any B l v user w' (h.quiet o) hl hr
  have h1z : ([.int .i64 0, .int .i64 0] : List Value).toArray.all (·.oneCell') = true := by simp [Value.oneCell']
  by_cases hu : user < 0 ∨ 8 ≤ user
  · have e : nextD l user = ((0, 0), 1) := if_pos hu
    rw [e]
    by_cases hn : user < 0
    · have d1 : decide (user < 0) = true := by simpa using hn
      clear e hu Hlist h
      go_enter Try.func11, Try.ntmps11
      go_wp2_with (first
        | (refine wpList_alloc_new rfl 30 rfl (.agg #[.int .i64 0, .int .i64 0]) (fun _ => by kernel_rfl) ?_; intro X wX oX hXl hX)
        | (refine wpList_store_blk rfl 30 _ _ rfl X [.int .i64 0, .int .i64 0] rfl rfl hX rfl (by kernel_rfl) h1z ?_; intro wY oY hY; have oF := oX.new oY (fun i hi => by simp only [List.mem_singleton] at hi; omega); have hy0 := cell_two0 hY; have hy1 := cell_two1 hY))
      refine bodyPost_ret (v := .tuple #[.agg #[.int .i64 0, .int .i64 0], .int .i64 1]) (by simp [results, Try.results11, go_sem, hy0, hy1]) rfl ?_
      exact ⟨rfl, oF⟩
    · have d1 : decide (user < 0) = false := by simpa using hn
      have d2 : decide (8 ≤ user) = true := by simp; omega
      clear e hu Hlist h
      go_enter Try.func11, Try.ntmps11
      go_wp2_with (first
        | (refine wpList_alloc_new rfl 30 rfl (.agg #[.int .i64 0, .int .i64 0]) (fun _ => by kernel_rfl) ?_; intro X wX oX hXl hX)
        | (refine wpList_store_blk rfl 30 _ _ rfl X [.int .i64 0, .int .i64 0] rfl rfl hX rfl (by kernel_rfl) h1z ?_; intro wY oY hY; have oF := oX.new oY (fun i hi => by simp only [List.mem_singleton] at hi; omega); have hy0 := cell_two0 hY; have hy1 := cell_two1 hY))
      refine bodyPost_ret (v := .tuple #[.agg #[.int .i64 0, .int .i64 0], .int .i64 1]) (by simp [results, Try.results11, go_sem, hy0, hy1]) rfl ?_
      exact ⟨rfl, oF⟩
  · have d1 : decide (user < 0) = false := by simp; omega
    have d2 : decide (8 ≤ user) = false := by simp; omega
    have hll : (listL l user).length ≤ 1000000 := by have h1 := List.length_filter_le (fun p : Int × Int => p.1 == user && isL l p.1 p.2) (keys l); rw [keys_len] at h1; unfold listL; omega
    by_cases h4 : 4 ≤ (listL l user).length
    · have e : nextD l user = ((0, 0), 3) := by unfold nextD; rw [if_neg hu, if_pos h4]
      rw [e]
      have d3 : decide ((4 : Int) ≤ (listL l user).length) = true := by simp; omega
      generalize listL l user = q at *
      clear e hu h hr
      go_enter Try.func11, Try.ntmps11
      go_wp2_with (refine wpList_alloc_new rfl 30 rfl (.agg #[.int .i64 0, .int .i64 0]) (fun _ => by kernel_rfl) ?_; intro X wX oX hXl hX)
      refine (Hlist _ oX).mono ?_
      rintro e w1 ⟨aA, cA, rfl, sA⟩
      have hX1 := sA.only.at hX (by simp)
      have o1 := oX.trans sA.only
      clear Hlist hX oX sA h4
      go_wp2_with (refine wpList_store_blk rfl 30 _ _ rfl X [.int .i64 0, .int .i64 0] rfl rfl hX1 rfl (by kernel_rfl) h1z ?_; intro wY oY hY; have oF := o1.new oY (fun i hi => by simp only [List.mem_singleton] at hi; omega); have hy0 := cell_two0 hY; have hy1 := cell_two1 hY)
      refine bodyPost_ret (v := .tuple #[.agg #[.int .i64 0, .int .i64 0], .int .i64 3]) (by simp [results, Try.results11, go_sem, hy0, hy1]) rfl ?_
      exact ⟨rfl, oF⟩
    · have e : nextD l user = ((user, (cntL l user : Int) + 1), 0) := by unfold nextD; rw [if_neg hu, if_neg h4]
      rw [e]
      have d3 : decide ((4 : Int) ≤ (listL l user).length) = false := by simp; omega
      have hc : cntL l user = ((keys (l.take l.length)).filter fun p => p.1 == user).length := by rw [List.take_length]; rfl
      have hcl : cntL l user ≤ 1000000 := by have h1 := List.length_filter_le (fun p : Int × Int => p.1 == user) (keys l); rw [keys_len] at h1; unfold cntL; omega
      generalize listL l user = q at *
      have HC := Lib.hid hc
      clear hc
      generalize cntL l user = cn at *
      have h1u : ([.int .i64 user, .int .i64 ((cn : Int) + 1)] : List Value).toArray.all (·.oneCell') = true := by simp [Value.oneCell']
      obtain ⟨ao, c, rfl⟩ := own_slice (show w.ownsRow 0 _ 14 v l.length (fl lc l) from h.head)
      clear e hu hr
      go_enter Try.func11, Try.ntmps11
      go_wp2_with (refine wpList_alloc_new rfl 30 rfl (.agg #[.int .i64 0, .int .i64 0]) (fun _ => by kernel_rfl) ?_; intro X wX oX hXl hX)
      refine (Hlist _ oX).mono ?_
      rintro e w1 ⟨aA, cA, rfl, sA⟩
      have hX1 := sA.only.at hX (by simp)
      have o1 := oX.trans sA.only
      have h1 := h.quiet o1
      have hBc := cell_of_one h1.tail.head
      clear Hlist hX oX sA h4 h
      go_wp2_with fail
      clear hBc
      go_loopw [6, 31] (fun x y wr => ∃ (k : Nat), x = .int .i64 (((keys (l.take k)).filter fun p => p.1 == user).length : Nat) ∧ y = .int .i64 k ∧ k ≤ l.length ∧ Only w1 wr []) (fun _ y _ => l.length - (intOf y).toNat)
      case atStart => exact ⟨0, rfl, rfl, Nat.zero_le _, Only.refl _ _⟩
      case round =>
        obtain ⟨k, rfl, rfl, hk, hs⟩ := hrel
        by_cases hkl : k < l.length
        · have dk : decide ((k : Int) < l.length) = true := by simpa using hkl
          obtain ⟨g, rfl, _⟩ := own_some (show w1.ownsRow 0 _ 14 (.slice ao l.length c) l.length (fl lc l) from h1.head) (by omega)
          have hrng : wr.rangeAt g (k * 14) (lc l[k]) := rec_range lc_len (h1.quiet hs).head hkl
          have htk : ((keys (l.take (k + 1))).filter fun p => p.1 == user) = ((keys (l.take k)).filter fun p => p.1 == user) ++ (if (l[k].u == user) = true then [(l[k].u, l[k].d)] else []) := by
            rw [List.take_succ_eq_append_getElem hkl, keys, keys, List.map_append, List.map_singleton, filter_snoc]
          have hml : ((keys (l.take k)).filter fun p => p.1 == user).length ≤ 1000000 := by
            have h1 := List.length_filter_le (fun p : Int × Int => p.1 == user) (keys (l.take k)); rw [keys_len, List.length_take] at h1; omega
          generalize hm : (keys (l.take k)).filter (fun p => p.1 == user) = m at *
          clear hm
          generalize l[k] = x at *
          have h1c := lc_arr x
          have g0 : (lc x).toArray[0]? = some (.int .i64 x.u) := rfl
          have hll2 := lc_len x
          generalize lc x = cs at *
          by_cases hxu : x.u = user
          · have dx : (x.u == user) = true := by simpa using hxu
            rw [dx, if_pos rfl] at htk
            have Htk : Hid (((keys (l.take (k + 1))).filter fun p => p.1 == user).length = m.length + 1) := by show _ = _; rw [htk]; simp
            clear htk hxu
            go_wp2_with (first
              | (refine wpList_load_mid rfl 76 _ rfl g (k * 14) rfl cs _ hrng Try.underlying76 (by rfl) (by rw [hll2]; kernel_rfl) ?_)
              | (refine wpList_alloc_new rfl 76 rfl lineZ (fun _ => by kernel_rfl) ?_; intro Z wZ oZ hZl hZ)
              | (refine wpList_store_blk rfl 76 _ _ rfl Z cs rfl rfl hZ hll2.symm (by rw [hll2]; kernel_rfl) h1c ?_; intro wY oY hY; have hs2 := hs.trans (oZ.new oY (fun i hi => by simp only [List.mem_singleton] at hi; omega)); have hy0 := (cell_in hY 0).trans g0; clear hs hZ oZ oY hY))
            refine ⟨⟨k + 1, by rw [Htk.out]; simp, by simp, by omega, hs2⟩, by simp [intOf]; omega⟩
          · have dx : (x.u == user) = false := by simpa using hxu
            rw [dx, if_neg (by simp), List.append_nil] at htk
            have Htk : Hid (((keys (l.take (k + 1))).filter fun p => p.1 == user).length = m.length) := by show _ = _; rw [htk]
            clear htk hxu
            go_wp2_with (first
              | (refine wpList_load_mid rfl 76 _ rfl g (k * 14) rfl cs _ hrng Try.underlying76 (by rfl) (by rw [hll2]; kernel_rfl) ?_)
              | (refine wpList_alloc_new rfl 76 rfl lineZ (fun _ => by kernel_rfl) ?_; intro Z wZ oZ hZl hZ)
              | (refine wpList_store_blk rfl 76 _ _ rfl Z cs rfl rfl hZ hll2.symm (by rw [hll2]; kernel_rfl) h1c ?_; intro wY oY hY; have hs2 := hs.trans (oZ.new oY (fun i hi => by simp only [List.mem_singleton] at hi; omega)); have hy0 := (cell_in hY 0).trans g0; clear hs hZ oZ oY hY))
            refine ⟨⟨k + 1, by rw [Htk.out], by simp, by omega, hs2⟩, by simp [intOf]; omega⟩
        · obtain rfl : k = l.length := by omega
          have dk : decide ((l.length : Int) < l.length) = false := by simp
          rw [← HC.out]
          have hX2 := hs.at hX1 (by simp)
          have o2 := o1.trans hs
          clear hs hX1 o1 h1 HC
          go_wp2_with (refine wpList_store_blk rfl 30 _ _ rfl X [.int .i64 user, .int .i64 ((cn : Int) + 1)] rfl rfl hX2 rfl (by kernel_rfl) h1u ?_; intro wY oY hY; have oF := o2.new oY (fun i hi => by simp only [List.mem_singleton] at hi; omega); have hy0 := cell_two0 hY; have hy1 := cell_two1 hY)
          refine bodyPost_ret (v := .tuple #[.agg #[.int .i64 user, .int .i64 ((cn : Int) + 1)], .int .i64 0]) (by simp [results, Try.results11, go_sem, hy0, hy1]) rfl ?_
          exact ⟨rfl, oF⟩
end Go.Proofs.Yteljkfihmbddaaa

/- Audience of layer 17 (registry). Printed by gen_rgau.py. -/
namespace Go.Pw
open Go.RowKit
/-- What another call made stands beside what was there. -/
theorem Sep.plus {w0 w w' : World} {rs rs' : List Res} (h : Sep w0 w rs) (h' : Sep w w' rs') : Sep w0 w' (rs' ++ rs) := by
  refine ⟨h.only.trans h'.only, fun r hr => ?_, fun r hr k hk => ?_, List.pairwise_append.2 ⟨h'.apart, h.apart, fun a ha b hb k hk hkb => ?_⟩⟩
  · rcases List.mem_append.1 hr with hr | hr
    · exact h'.ok r hr
    · exact Res.only (h.ok r hr) h'.only (by simp)
  · rcases List.mem_append.1 hr with hr | hr
    · have := h'.new r hr k hk
      have := h.only.size
      omega
    · exact h.new r hr k hk
  · have h1 := h'.new a ha k hk
    have h2 := b.lt w (h.ok b hb) k hkb
    omega
end Go.Pw
namespace Go.Proofs.Yteljkfihmbddaaa
open Go.RowKit Go.Pw
set_option linter.unusedVariables false

/-- For whom a message is. -/
def audF (l : List Li) (fu fd to : Int) (p : Int × Int) : Bool := isL l p.1 p.2 && (!(p.1 == fu && p.2 == fd) && (p.1 == to || p.1 == fu))
def audL (l : List Li) (fu fd to : Int) : List (Int × Int) := (keys l).filter (audF l fu fd to)

set_option maxRecDepth 100000 in
set_option maxHeartbeats 1600000 in
theorem audience_any {w0 : World} {rs : List Res} (B : Nat) (l : List Li) (v : Value) (fu fd to : Int) (w : World) (h : Sep w0 w (row 76 14 v l.length (fl lc l) :: blk B [v] 72 :: rs)) (hl : l.length ≤ 1000000) (hr : Rise l) :
    Calls Try.prog 27 #[.pointer (some ⟨B, 0, none⟩), wv fu fd, .int .i64 to] w (Whos (audL l fu fd to) w) := by
  obtain ⟨i0, hi, hz0', hz1', hz2'⟩ := info_parts who_info
  have Hall := fun (w' : World) (o : Only w w' []) => all_any B l v w' (h.quiet o) hl
  have His := fun (u d : Int) (w' : World) (o : Only w w' []) => is_any B l v u d w' (h.quiet o) hl hr
  have hkl := keys_len l
  have hLL : audL l fu fd to = (keys l).filter (audF l fu fd to) := rfl
  rw [hLL]
  clear hLL
  obtain ⟨F, hF⟩ : ∃ F : Int × Int → Bool, F = audF l fu fd to := ⟨_, rfl⟩
  rw [← hF]
  have HF := Lib.hid (fun p : Int × Int => show F p = (isL l p.1 p.2 && (!(p.1 == fu && p.2 == fd) && (p.1 == to || p.1 == fu))) by rw [hF]; rfl)
  clear hF h hr
  generalize keys l = on at *
  simp only [wv] at *
  go_enter Try.func27, Try.ntmps27
  go_wp2_with ((refine wpList_box_new rfl 30 _ rfl (.agg #[.int .i64 fu, .int .i64 fd]) rfl ?_; intro Z wZ oZ hZl hZ))
  refine (Hall _ oZ).mono ?_
  rintro e w1 ⟨aA, cA, rfl, sA⟩
  have s0 : Sep w w1 (row 30 2 (.slice none 0 0) 0 [] :: row 30 2 (.slice aA on.length cA) on.length (fl wc on) :: blk Z [.int .i64 fu, .int .i64 fd] 30 :: []) := (((Sep.nil w).add (b := blk Z [.int .i64 fu, .int .i64 fd] 30) oZ hZ (fun k hk => by simp [blk] at hk; omega)).plus sA).rown _ _
  clear Hall sA oZ hZl hZ
  go_wp2_with fail
  go_loopw [7, 13] (fun x y wr => ∃ (k : Nat) (a1 : Option Addr) (c1 : Nat), x = .slice a1 ((on.take k).filter F).length c1 ∧ y = .int .i64 k ∧ k ≤ on.length ∧ Pw.Sep w wr (row 30 2 (.slice a1 ((on.take k).filter F).length c1) ((on.take k).filter F).length (fl wc ((on.take k).filter F)) :: row 30 2 (.slice aA on.length cA) on.length (fl wc on) :: blk Z [.int .i64 fu, .int .i64 fd] 30 :: [])) (fun _ y _ => on.length - (intOf y).toNat)
  case atStart => exact ⟨0, none, 0, rfl, rfl, Nat.zero_le _, s0⟩
  case round =>
    clear s0
    obtain ⟨k, a1, c1, rfl, rfl, hk, hs⟩ := hrel
    by_cases hkk : k < on.length
    · have d1 : decide ((k : Int) < on.length) = true := by simpa using hkk
      have hA : wr.ownsRow 0 30 2 (.slice aA on.length cA) on.length (fl wc on) := (hs.sel 2 [1]).head
      obtain ⟨gA, rfl, _⟩ := own_some hA (by omega)
      have e0 := rec_cell wc_len hA hkk 0 (v := .int .i64 on[k].1) rfl
      have e1 := rec_cell wc_len hA hkk 1 (v := .int .i64 on[k].2) rfl
      rw [Nat.add_zero] at e0
      have htk : (on.take (k + 1)).filter F = (on.take k).filter F ++ (if F on[k] = true then [on[k]] else []) := by
        rw [List.take_succ_eq_append_getElem hkk, filter_snoc]
      have hFk := HF.out on[k]
      generalize on[k] = p at *
      obtain ⟨pu, pd⟩ := p
      simp only at e0 e1 hFk
      have hql : ((on.take k).filter F).length ≤ 1000000 := by have := List.length_filter_le F (on.take k); rw [List.length_take] at this; omega
      generalize hq : (on.take k).filter F = q at *
      have h1c : ([.int .i64 pu, .int .i64 pd] : List Value).toArray.all (·.oneCell') = true := by simp [Value.oneCell']
      clear hq hA
      go_upto_region 5 with (first
        | (refine wpList_alloc_new rfl 30 rfl (.agg #[.int .i64 0, .int .i64 0]) (fun _ => by kernel_rfl) ?_; intro X wX oX hXl hX)
        | (refine wpList_store_blk rfl 30 _ _ rfl X [.int .i64 pu, .int .i64 pd] rfl rfl hX rfl (by kernel_rfl) h1c ?_; intro wY oY hY; have hs2 := hs.quiet (oX.new oY (fun i hi => by simp only [List.mem_singleton] at hi; omega)); have hy0 := cell_two0 hY; have hy1 := cell_two1 hY; clear hs hX oX oY e0 e1))
      go_wp2_with fail
      refine (His pu pd _ hs2.only).mono ?_
      cases hI : isL l pu pd with
      | false =>
        rintro e w3 ⟨rfl, o3⟩
        have hx : F (pu, pd) = false := by rw [hFk, hI]; rfl
        have hs3 := hs2.quiet o3
        clear hs2 o3 hY hy0 hy1 hI
        replace htk : Hid ((on.take (k + 1)).filter F = q) := by
          show _ = _
          rw [htk, if_neg (by rw [hx]; simp), List.append_nil]
        clear hx hFk
        go_wp2_with fail
        refine ⟨⟨k + 1, a1, c1, by rw [htk.out], by simp, by omega, by rw [htk.out]; exact hs3⟩, by simp [intOf]; omega⟩
      | true =>
        rintro e w3 ⟨rfl, o3⟩
        rw [hI, Bool.true_and] at hFk
        have hs3 := hs2.quiet o3
        have hY3 := o3.at hY (by simp)
        have hZ3 : w3.heap[Z]? = some (.cells #[.int .i64 fu, .int .i64 fd] 30 (0, 0)) := (hs3.sel 3 [2]).head
        clear hs2 o3 hY hy0 hy1 hI
        have hy0 := cell_two0 hY3
        have hy1 := cell_two1 hY3
        have hz0 := cell_two0 hZ3
        have hz1 := cell_two1 hZ3
        clear hY3 hZ3
        by_cases h1 : pu = fu
        · obtain rfl : pu = fu := h1
          by_cases h2 : pd = fd
          · obtain rfl : pd = fd := h2
            have hx : F (pu, pd) = false := by rw [hFk]; simp
            replace htk : Hid ((on.take (k + 1)).filter F = q) := by
              show _ = _
              rw [htk, if_neg (by rw [hx]; simp), List.append_nil]
            clear hx hFk
            go_wp2_with fail
            refine ⟨⟨k + 1, a1, c1, by rw [htk.out], by simp, by omega, by rw [htk.out]; exact hs3⟩, by simp [intOf]; omega⟩
          · have hx : F (pu, pd) = true := by rw [hFk]; simp [h2]
            have b2 : (pd == fd) = false := by simpa using h2
            by_cases h3 : pu = to
            · obtain rfl : pu = to := h3
              clear h2
              replace htk : Hid (fl wc q ++ wc (pu, pd) = fl wc ((on.take (k + 1)).filter F) ∧ ((on.take (k + 1)).filter F).length = q.length + 1) := by
                show _ ∧ _
                rw [htk, if_pos hx, fl_app]
                exact ⟨rfl, by simp⟩
              clear hx hFk
              go_wp2_with (at_builtin; refine wpList_append_sep rfl _ _ 31 rfl 30 i0 _ 2 16 Try.underlying31 hi hz0' hz1' hz2' rfl (by decide) (.slice a1 q.length c1) q.length _ rfl (hs3.quiet (Only.alloc _ (.cells #[.int .i64 pu, .int .i64 pd] 30) [])) _ 1 (wc (pu, pd)) rfl (src_lit _ [.int .i64 pu, .int .i64 pd] _ 1 2 rfl) (wc_one _) (by unfold maxLen; omega) (by omega) ?_; intro a7 c7 w7 o7 s7; rw [htk.out.1] at s7)
              refine ⟨⟨k + 1, a7, c7, by rw [htk.out.2], by simp, by omega, by rw [htk.out.2]; exact s7⟩, by simp [intOf]; omega⟩
            · have b3 : (pu == to) = false := by simpa using h3
              clear h2 h3
              replace htk : Hid (fl wc q ++ wc (pu, pd) = fl wc ((on.take (k + 1)).filter F) ∧ ((on.take (k + 1)).filter F).length = q.length + 1) := by
                show _ ∧ _
                rw [htk, if_pos hx, fl_app]
                exact ⟨rfl, by simp⟩
              clear hx hFk
              go_wp2_with (at_builtin; refine wpList_append_sep rfl _ _ 31 rfl 30 i0 _ 2 16 Try.underlying31 hi hz0' hz1' hz2' rfl (by decide) (.slice a1 q.length c1) q.length _ rfl (hs3.quiet (Only.alloc _ (.cells #[.int .i64 pu, .int .i64 pd] 30) [])) _ 1 (wc (pu, pd)) rfl (src_lit _ [.int .i64 pu, .int .i64 pd] _ 1 2 rfl) (wc_one _) (by unfold maxLen; omega) (by omega) ?_; intro a7 c7 w7 o7 s7; rw [htk.out.1] at s7)
              refine ⟨⟨k + 1, a7, c7, by rw [htk.out.2], by simp, by omega, by rw [htk.out.2]; exact s7⟩, by simp [intOf]; omega⟩
        · have b1 : (pu == fu) = false := by simpa using h1
          by_cases h3 : pu = to
          · obtain rfl : pu = to := h3
            have hx : F (pu, pd) = true := by rw [hFk]; simp [h1]
            clear h1
            replace htk : Hid (fl wc q ++ wc (pu, pd) = fl wc ((on.take (k + 1)).filter F) ∧ ((on.take (k + 1)).filter F).length = q.length + 1) := by
              show _ ∧ _
              rw [htk, if_pos hx, fl_app]
              exact ⟨rfl, by simp⟩
            clear hx hFk
            go_wp2_with (at_builtin; refine wpList_append_sep rfl _ _ 31 rfl 30 i0 _ 2 16 Try.underlying31 hi hz0' hz1' hz2' rfl (by decide) (.slice a1 q.length c1) q.length _ rfl (hs3.quiet (Only.alloc _ (.cells #[.int .i64 pu, .int .i64 pd] 30) [])) _ 1 (wc (pu, pd)) rfl (src_lit _ [.int .i64 pu, .int .i64 pd] _ 1 2 rfl) (wc_one _) (by unfold maxLen; omega) (by omega) ?_; intro a7 c7 w7 o7 s7; rw [htk.out.1] at s7)
            refine ⟨⟨k + 1, a7, c7, by rw [htk.out.2], by simp, by omega, by rw [htk.out.2]; exact s7⟩, by simp [intOf]; omega⟩
          · have hx : F (pu, pd) = false := by rw [hFk]; simp [h1, h3]
            have b3 : (pu == to) = false := by simpa using h3
            clear h1 h3
            replace htk : Hid ((on.take (k + 1)).filter F = q) := by
              show _ = _
              rw [htk, if_neg (by rw [hx]; simp), List.append_nil]
            clear hx hFk
            go_wp2_with fail
            refine ⟨⟨k + 1, a1, c1, by rw [htk.out], by simp, by omega, by rw [htk.out]; exact hs3⟩, by simp [intOf]; omega⟩
    · obtain rfl : k = on.length := by omega
      have d1 : decide ((on.length : Int) < on.length) = false := by simp
      rw [List.take_length] at hs ⊢
      go_wp2_with fail
      go_ret
      exact ⟨a1, c1, rfl, hs.sel 3 [0]⟩
end Go.Proofs.Yteljkfihmbddaaa

