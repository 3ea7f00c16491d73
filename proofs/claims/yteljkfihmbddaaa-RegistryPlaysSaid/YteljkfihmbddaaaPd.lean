/- Several texts in one: Rg8, Rg9, RgA, RgP, RgD, RgT, RgU. -/
import Derived.Test.YteljkfihmbddaaaRg7
import Derived.Test.YteljkfihmbddaaaInsL
import Derived.Lib.SmallJoins
import Derived.ArgAppend
/- Add of layer 17 (registry). Printed by gen_rg8.py. -/
namespace Go.Proofs.Yteljkfihmbddaaa
open Go.RowKit Go.Pw
set_option linter.unusedVariables false

theorem cmpW_neg (u d u' d' : Int) : (cmpW u d u' d' < 0) ↔ (u < u' ∨ u = u' ∧ d < d') := by
  simp only [cmpW, orL, cmpI]
  repeat' split
  all_goals simp_all
  all_goals omega
def newL (u d : Int) : Li := ⟨u, d, true, b0, .slice none 0 0, [], rfl⟩
/-- A line is put in its place. -/
def insL (l : List Li) (x : Li) : List Li := l.take (placeL l x.u x.d) ++ x :: l.drop (placeL l x.u x.d)
theorem place_lt {l : List Li} {u d : Int} {i : Nat} (h : i < placeL l u d) : ∃ hi : i < l.length, cmpW l[i].u l[i].d u d < 0 := by
  have hl := place_le l u d
  refine ⟨by omega, ?_⟩
  have := List.not_of_lt_findIdx (p := fun r : Li => decide (0 ≤ cmpW r.u r.d u d)) (xs := l) (i := i) h
  simp at this
  omega
theorem place_ge {l : List Li} (hr : Rise l) {u d : Int} {i : Nat} (h : placeL l u d ≤ i) (hi : i < l.length) : ¬ cmpW l[i].u l[i].d u d < 0 := by
  intro hlt
  have hp : placeL l u d < l.length := by omega
  have h0 := List.findIdx_getElem (w := hp)
  have h1 : 0 ≤ cmpW l[placeL l u d].u l[placeL l u d].d u d := of_decide_eq_true h0
  by_cases e : placeL l u d = i
  · subst e; omega
  · have := hr u d (placeL l u d) i (by omega) hi hlt
    omega
theorem insL_len (l : List Li) (x : Li) : (insL l x).length = l.length + 1 := by
  have := place_le l x.u x.d
  simp [insL]
  omega
theorem insL_at (l : List Li) (x : Li) (i : Nat) (hi : i < (insL l x).length) : (i < placeL l x.u x.d ∧ ∃ h : i < l.length, (insL l x)[i] = l[i]) ∨ (i = placeL l x.u x.d ∧ (insL l x)[i] = x) ∨ (placeL l x.u x.d < i ∧ ∃ h : i - 1 < l.length, (insL l x)[i] = l[i - 1]) := by
  have hp := place_le l x.u x.d
  have hlen := insL_len l x
  have htl : (l.take (placeL l x.u x.d)).length = placeL l x.u x.d := by rw [List.length_take]; omega
  by_cases h1 : i < placeL l x.u x.d
  · refine .inl ⟨h1, by omega, ?_⟩
    simp only [insL]
    rw [List.getElem_append_left (by omega), List.getElem_take]
  · by_cases h2 : i = placeL l x.u x.d
    · refine .inr (.inl ⟨h2, ?_⟩)
      simp only [insL]
      rw [List.getElem_append_right (by omega)]
      simp [htl, h2]
    · refine .inr (.inr ⟨by omega, by omega, ?_⟩)
      simp only [insL]
      rw [List.getElem_append_right (by omega)]
      obtain ⟨j, hj⟩ : ∃ j, i - (l.take (placeL l x.u x.d)).length = j + 1 := ⟨i - placeL l x.u x.d - 1, by omega⟩
      simp only [hj, List.getElem_cons_succ, List.getElem_drop]
      congr 1
      omega
theorem rise_ins {l : List Li} (hr : Rise l) (x : Li) : Rise (insL l x) := by
  intro p q i j hi hj hlt
  have hlen := insL_len l x
  have hi' : i < (insL l x).length := by omega
  rcases insL_at l x j hj with ⟨h1, hj1, e1⟩ | ⟨h1, e1⟩ | ⟨h1, hj1, e1⟩
  · rcases insL_at l x i hi' with ⟨h2, hi2, e2⟩ | ⟨h2, e2⟩ | ⟨h2, hi2, e2⟩
    · rw [e1] at hlt; rw [e2]
      exact hr p q i j hi hj1 hlt
    · omega
    · omega
  · rcases insL_at l x i hi' with ⟨h2, hi2, e2⟩ | ⟨h2, e2⟩ | ⟨h2, hi2, e2⟩
    · rw [e1] at hlt; rw [e2]
      obtain ⟨_, h3⟩ := place_lt h2
      rw [cmpW_neg] at *
      omega
    · omega
    · omega
  · rcases insL_at l x i hi' with ⟨h2, hi2, e2⟩ | ⟨h2, e2⟩ | ⟨h2, hi2, e2⟩
    · rw [e1] at hlt; rw [e2]
      exact hr p q i (j - 1) (by omega) hj1 hlt
    · rw [e1] at hlt; rw [e2]
      have h3 := place_ge hr (u := x.u) (d := x.d) (i := j - 1) (by omega) hj1
      rw [cmpW_neg] at *
      omega
    · rw [e1] at hlt; rw [e2]
      exact hr p q (i - 1) (j - 1) (by omega) hj1 hlt
theorem place_ins (l : List Li) (x : Li) : placeL (insL l x) x.u x.d = placeL l x.u x.d := by
  have hlen := insL_len l x
  have hp := place_le l x.u x.d
  have hk : placeL l x.u x.d < (insL l x).length := by omega
  show List.findIdx _ _ = _
  rw [List.findIdx_eq hk]
  refine ⟨?_, fun j hj => ?_⟩
  · rcases insL_at l x _ hk with ⟨h2, _⟩ | ⟨_, e2⟩ | ⟨h2, _⟩
    · omega
    · rw [e2]
      have : ¬ cmpW x.u x.d x.u x.d < 0 := by rw [cmpW_neg]; omega
      simp only [decide_eq_true_eq]
      omega
    · omega
  · rcases insL_at l x j (by omega) with ⟨h2, hi2, e2⟩ | ⟨h2, _⟩ | ⟨h2, _⟩
    · rw [e2]
      obtain ⟨_, h3⟩ := place_lt h2
      simp only [decide_eq_false_iff_not]
      omega
    · omega
    · omega
theorem ins_at (l : List Li) (x : Li) : ∃ hk : placeL l x.u x.d < (insL l x).length, (insL l x)[placeL l x.u x.d] = x := by
  have hlen := insL_len l x
  have hp := place_le l x.u x.d
  have hk : placeL l x.u x.d < (insL l x).length := by omega
  refine ⟨hk, ?_⟩
  rcases insL_at l x _ hk with ⟨h2, _⟩ | ⟨_, e2⟩ | ⟨h2, _⟩
  · omega
  · exact e2
  · omega
theorem cmpW_self (u d : Int) : cmpW u d u d = 0 := by simp [cmpW, orL, cmpI]
theorem found_ins (l : List Li) (x : Li) : foundL (insL l x) x.u x.d = true := by
  obtain ⟨hk, e⟩ := ins_at l x
  unfold foundL
  rw [place_ins, List.getElem?_eq_getElem hk, e]
  simp [cmpW_self]
theorem fl_insL (l : List Li) (x : Li) : (fl lc l).take (placeL l x.u x.d * 14) ++ lc x ++ (fl lc l).drop (placeL l x.u x.d * 14) = fl lc (insL l x) := by
  rw [fl_take lc_len, fl_drop lc_len, insL, fl_app, fl_cons, List.append_assoc]

theorem add_nil (u d : Int) (vb : Value) (w : World) :
    Calls Try.prog 12 #[.pointer none, wv u d, vb] w fun e w' => e = .returned (.int .i64 1) ∧ Only w w' [] := by
  have h1c : ([.int .i64 0, .int .i64 0] : List Value).toArray.all (·.oneCell') = true := by simp [Value.oneCell']
  simp only [wv]
  go_enter Try.func12, Try.ntmps12
  go_wp2_with fail
  refine (next_nil u _).mono ?_
  simp only [wv]
  rintro e w1 ⟨rfl, o1⟩
  have oA := (Only.alloc w (.cells #[.int .i64 u, .int .i64 d] 30) []).trans o1
  clear o1
  go_wp2_with (first
    | (refine wpList_alloc_new rfl 30 rfl (.agg #[.int .i64 0, .int .i64 0]) (fun _ => by kernel_rfl) ?_; intro X wX oX hXl hX)
    | (refine wpList_store_blk rfl 30 _ _ rfl X [.int .i64 0, .int .i64 0] rfl rfl hX rfl (by kernel_rfl) h1c ?_; intro wY oY hY; have oF := oA.trans (oX.new oY (fun i hi => by simp only [List.mem_singleton] at hi; omega))))
  go_ret
  exact ⟨rfl, oF⟩

/-- What Add leaves. -/
def Added (w0 : World) (rs : List Res) (B : Nat) (l : List Li) (u d : Int) (vb : Value) (bs : List Bu) (e : Ending) (w' : World) : Prop :=
  e = .returned (.int .i64 0) ∧ ∃ (v' : Value) (x' : Li), x'.u = u ∧ x'.d = d ∧ x'.on = true ∧ (x'.b, x'.os) = bs.foldl pubS (b0, []) ∧ x'.os.length ≤ 16 ∧ Sep w0 w' (regR B v' ((insL l (newL u d)).set (placeL l u d) x') (row 40 10 vb bs.length (fl bc bs) :: rs))

set_option maxRecDepth 100000 in
set_option maxHeartbeats 600000 in
theorem add_ok {w0 : World} {rs : List Res} (B : Nat) (l : List Li) (v : Value) (u d : Int) (vb : Value) (bs : List Bu) (w : World) (h : Sep w0 w (regR B v l (row 40 10 vb bs.length (fl bc bs) :: rs))) (hl : l.length ≤ 900000) (hbl : bs.length ≤ 1000000) (hr : Rise l)
    (hn : nextD l u = ((u, d), 0)) (hs : bs.any (fun x => !x.has) = true) (hany : bs.any (other u d) = false) (hnf : foundL l u d = false) :
    Calls Try.prog 12 #[.pointer (some ⟨B, 0, none⟩), wv u d, vb] w (Added w0 rs B l u d vb bs) := by
  obtain ⟨i0, hi, hz0, hz1, hz2⟩ := info_parts insl_info
  obtain ⟨vv, hvv⟩ : ∃ vv, vv = v := ⟨_, rfl⟩
  rw [← hvv] at h
  clear hvv
  have hvb : w.ownsRow 0 40 10 vb bs.length (fl bc bs) := (h.sel 4 [3]).head
  obtain ⟨ab, cb, rfl⟩ := own_slice hvb
  clear hvb
  have sB : Sep w0 _ (row 76 14 vv l.length (fl lc l) :: blk B [vv] 72 :: many (l.map ow) :: row 40 10 (.slice ab bs.length cb) bs.length (fl bc bs) :: blk w.heap.size [.int .i64 u, .int .i64 d] 30 :: rs) := (h.box [.int .i64 u, .int .i64 d] 30).sel 5 [1, 2, 3, 4, 0]
  clear h
  have Hnext := next_any B l _ u _ sB (by omega) hr
  rw [hn] at Hnext
  simp only [wv] at *
  have h1c : ([.int .i64 u, .int .i64 d] : List Value).toArray.all (·.oneCell') = true := by simp [Value.oneCell']
  go_enter Try.func12, Try.ntmps12
  go_wp2_with fail
  refine Hnext.mono ?_
  rintro e w1 ⟨rfl, o1⟩
  have s1 := sB.quiet o1
  clear sB o1 Hnext
  generalize w.heap.size = A4 at *
  have hA4 : w1.heap[A4]? = some (.cells #[.int .i64 u, .int .i64 d] 30 (0, 0)) := (s1.sel 5 [4]).head
  go_wp2_with (first
    | (refine wpList_alloc_new rfl 30 rfl (.agg #[.int .i64 0, .int .i64 0]) (fun _ => by kernel_rfl) ?_; intro X wX oX hXl hX)
    | (refine wpList_store_blk rfl 30 _ _ rfl X [.int .i64 u, .int .i64 d] rfl rfl hX rfl (by kernel_rfl) h1c ?_; intro wY oY hY; have oF := oX.new oY (fun i hi => by simp only [List.mem_singleton] at hi; omega); have s2 := s1.quiet oF; have hy0 := cell_two0 hY; have hy1 := cell_two1 hY; have hA5 := oF.at hA4 (by simp); have ha0 := cell_two0 hA5; have ha1 := cell_two1 hA5; clear s1 hA4 hX oX oY))
  have hrb : RdB wY (.slice ab bs.length cb) bs := own_src (s2.sel 4 [3]).head
  refine (contains_has (fun x => !x.has) _ bs wY hrb hbl (clos_has wY)).mono ?_
  rw [hs]
  rintro e w3 ⟨rfl, o3⟩
  go_wp2_with fail
  refine (contains_o1 A4 (other u d) _ bs w3 (hrb.off o3) hbl (clos_other1 A4 u d w3 (o3.at hA5 (by simp)))).mono ?_
  rw [hany]
  rintro e w4 ⟨rfl, o4⟩
  have s4 := s2.quiet (o3.trans o4)
  clear s2 o3 o4 hrb hY hy0 hy1 hA5 ha0 ha1 oF
  have hA4 : w4.heap[A4]? = some (.cells #[.int .i64 u, .int .i64 d] 30 (0, 0)) := (s4.sel 5 [4]).head
  have ha0 := cell_two0 hA4
  have ha1 := cell_two1 hA4
  go_wp2_with fail
  refine (find_any B l _ u d _ s4 (by omega) hr).mono ?_
  rw [hnf]
  rintro e w2 ⟨rfl, o2⟩
  have s5 := s4.quiet o2
  clear s4 o2 hA4 ha0 ha1
  go_upto_region 7 with fail
  have hB : w2.heap[B]? = some (.cells #[vv] 72 (0, 0)) := (s5.sel 2 [1]).head
  have h4 : w2.heap[A4]? = some (.cells #[.int .i64 u, .int .i64 d] 30 (0, 0)) := (s5.sel 5 [4]).head
  have hBg : B ∉ vv.ownBlock.toList := fun hk => s5.two_at (i := 0) (j := 1) rfl rfl (by decide) B hk (by simp [blk])
  have h4g : A4 ∉ vv.ownBlock.toList := fun hk => s5.two_at (i := 0) (j := 4) rfl rfl (by decide) A4 hk (by simp [blk])
  have hnew : ∀ Y, vv.ownBlock = some Y → w2.heap.size ≤ Y → False := fun Y he hY => by
    have := (row 76 14 vv l.length (fl lc l)).lt w2 s5.head Y (by simp [row, he])
    omega
  have sD := s5.quiet (Only.drew w2 [])
  have hkl := place_le l u d
  have hfi := fl_insL l (newL u d)
  obtain ⟨k, hk⟩ : ∃ k, k = placeL l u d := ⟨_, rfl⟩
  rw [show placeL l (newL u d).u (newL u d).d = placeL l u d from rfl] at hfi
  rw [← hk] at hkl hfi ⊢
  have Hhk := Lib.hid hk
  clear s5 hk
  refine wp_region_t (S := fun w' => Only w2.drew w' vv.ownBlock.toList) 12 (by kernel_rfl) (by kernel_rfl) (Only.refl _ _) (fun hZ hHeld => ?_)
  refine' wpAnyT_take (i := 0) (v := _) hZ (op_at' rfl) (by rfl) (by kernel_rfl) (by kernel_rfl) (by kernel_rfl) (by kernel_rfl) (fun _ _ _ h => h) (Or.inl ⟨by rfl, ?hy1⟩) (by assumption) ?rest1
  case hy1 =>
    intro w' hS
    go_simp
    try with_reducible rfl
  try simp only [Act.put, List.setIfInBounds_toArray, List.set_cons_zero, List.set_cons_succ]
  refine' wpAnyT_take (i := 1) (v := _) hZ (op_at' rfl) (by rfl) (by kernel_rfl) (by kernel_rfl) (by kernel_rfl) (by kernel_rfl) (fun _ _ _ h => h) (Or.inl ⟨by rfl, ?hy2⟩) (by assumption) ?rest2
  case hy2 =>
    intro w' hS
    go_simp
    try with_reducible rfl
  try simp only [Act.put, List.setIfInBounds_toArray, List.set_cons_zero, List.set_cons_succ]
  refine' wpAnyT_take (i := 2) (v := _) hZ (op_at' rfl) (by rfl) (by kernel_rfl) (by kernel_rfl) (by kernel_rfl) (by kernel_rfl) (fun _ _ _ h => h) (Or.inl ⟨by rfl, ?hy3⟩) (by assumption) ?rest3
  case hy3 =>
    intro w' hS
    go_simp
    try with_reducible rfl
  try simp only [Act.put, List.setIfInBounds_toArray, List.set_cons_zero, List.set_cons_succ]
  refine' wpAnyT_take (i := 3) (v := _) hZ (op_at' rfl) (by rfl) (by kernel_rfl) (by kernel_rfl) (by kernel_rfl) (by kernel_rfl) (fun _ _ _ h => h) (Or.inl ⟨by rfl, ?hy4⟩) (by assumption) ?rest4
  case hy4 =>
    intro w' hS
    go_simp
    try with_reducible rfl
  try simp only [Act.put, List.setIfInBounds_toArray, List.set_cons_zero, List.set_cons_succ]
  refine' wpAnyT_take (i := 4) (v := _) hZ (op_at' rfl) (by rfl) (by kernel_rfl) (by kernel_rfl) (by kernel_rfl) (by kernel_rfl) (fun _ _ _ h => h) (Or.inl ⟨by rfl, ?hy5⟩) (by assumption) ?rest5
  case hy5 =>
    intro w' hS
    have hc0 := cell_of_one (hS.at (show w2.drew.heap[B]? = _ from hB) hBg)
    go_simp
    try with_reducible rfl
  try simp only [Act.put, List.setIfInBounds_toArray, List.set_cons_zero, List.set_cons_succ]
  refine' wpAnyT_take (i := 5) (v := _) hZ (op_at' rfl) (by rfl) (by kernel_rfl) (by kernel_rfl) (by kernel_rfl) (by kernel_rfl) (fun _ _ _ h => h) (Or.inl ⟨by rfl, ?hy6⟩) (by assumption) ?rest6
  case hy6 =>
    intro w' hS
    go_simp
    try with_reducible rfl
  try simp only [Act.put, List.setIfInBounds_toArray, List.set_cons_zero, List.set_cons_succ]
  refine' wpAnyT_take (i := 6) (v := _) hZ (op_at' rfl) (by rfl) (by kernel_rfl) (by kernel_rfl) (by kernel_rfl) (by kernel_rfl) (fun _ _ _ h => h) (Or.inl ⟨by rfl, ?hy7⟩) (by assumption) ?rest7
  case hy7 =>
    intro w' hS
    have ht := hS.at (show w2.drew.heap[A4]? = _ from h4) h4g
    have ht0 := cell_two0 ht
    have ht1 := cell_two1 ht
    go_simp
    try with_reducible rfl
  try simp only [Act.put, List.setIfInBounds_toArray, List.set_cons_zero, List.set_cons_succ]
  refine' wpAnyT_take (i := 7) (v := _) hZ (op_at' rfl) (by rfl) (by kernel_rfl) (by kernel_rfl) (by kernel_rfl) (by kernel_rfl) (fun _ _ _ h => h) (Or.inl ⟨by rfl, ?hy8⟩) (by assumption) ?rest8
  case hy8 =>
    intro w' hS
    go_simp
    try with_reducible rfl
  try simp only [Act.put, List.setIfInBounds_toArray, List.set_cons_zero, List.set_cons_succ]
  refine wpAnyT_one (i := 8) (by kernel_rfl) (op_at' rfl) (fun K hK => ?_)
  refine step_buildSlice_one (by rfl) 70 _ (by rfl) 76 i0 _ (lc (newL u d)) (by rfl) Try.underlying70 hi hz0 (by rw [hz1, lc_len]) (by rw [lc_len]; rfl) (by rw [lc_len]; decide) (by rw [lc_len]; decide) (fun Y wS oS hYl hYS => ?_)
  go_wp2_with fail
  refine hK.out _ _ (oS.mono (by simp)) (fun hHeld => ?_)
  clear hK K
  try simp only [Act.put, List.setIfInBounds_toArray, List.set_cons_zero, List.set_cons_succ]
  refine wpAnyT_one (i := 9) (by kernel_rfl) (op_at' rfl) (fun K hK => ?_)
  go_simp
  refine (insl_any vv l.length k (fl lc l) (lc (newL u d)) Y _ (sD.quiet oS) (by omega) hkl (lc_len _) hYS (fun he => hnew Y he (by have := hYl; simpa using this)) (fl_one lc_one l) (lc_one _)).mono fun e w12 hq => ?_
  obtain ⟨v12, rfl, o12, s12⟩ := hq
  obtain ⟨a12, c12, rfl⟩ := own_slice (show w12.ownsRow 0 76 14 v12 (l.length + 1) _ from s12.head)
  go_wp2_with fail
  refine hK.out _ _ ((oS.mono (by simp)).trans o12) (fun hHeld => ?_)
  clear hK K
  try simp only [Act.put, List.setIfInBounds_toArray, List.set_cons_zero, List.set_cons_succ]
  refine' wpAnyT_take (i := 10) (v := _) hZ (op_at' rfl) (by rfl) (by kernel_rfl) (by kernel_rfl) (by kernel_rfl) (by kernel_rfl) (fun _ _ _ h => h) (Or.inl ⟨by rfl, ?hy9⟩) (by assumption) ?rest9
  case hy9 =>
    intro w' hS
    go_simp
    try with_reducible rfl
  try simp only [Act.put, List.setIfInBounds_toArray, List.set_cons_zero, List.set_cons_succ]
  refine' wpAnyT_take (i := 11) (v := _) hZ (op_at' rfl) (by rfl) (by kernel_rfl) (by kernel_rfl) (by kernel_rfl) (by kernel_rfl) (fun _ _ _ h => h) (Or.inl ⟨by rfl, ?hy10⟩) (by assumption) ?rest10
  case hy10 =>
    intro w' hS
    go_simp
    try with_reducible rfl
  try simp only [Act.put, List.setIfInBounds_toArray, List.set_cons_zero, List.set_cons_succ]
  refine wpAnyT_last (by kernel_rfl) (op_at' rfl) (by kernel_rfl) (fun K hK => ?_)
  refine step_store_blk (by rfl) 70 _ _ (by rfl) B 0 (.slice a12 (l.length + 1) c12) [.slice a12 (l.length + 1) c12] [vv] 72 (by rfl) (by rfl) (by rfl) (s12.sel 2 [1, 0]) (by simp) (by kernel_rfl) (by simp [Value.oneCell']) (fun w15 o15 s15 => ?_)
  go_wp2_with fail
  refine hK.out _ _ ?_
  clear hK K
  try simp only [Act.put, List.setIfInBounds_toArray, List.set_cons_zero, List.set_cons_succ]
  have q1 : Sep w0 w15 (row 76 14 (.slice a12 (l.length + 1) c12) (insL l (newL u d)).length (fl lc (insL l (newL u d))) :: blk B [.slice a12 (l.length + 1) c12] 72 :: many ((insL l (newL u d)).map ow) :: row 40 10 (.slice ab bs.length cb) bs.length (fl bc bs) :: blk A4 [.int .i64 u, .int .i64 d] 30 :: rs) := by
    have q0 : Sep w0 w15 (ow (newL u d) :: many (l.map ow) :: row 76 14 (.slice a12 (l.length + 1) c12) (l.length + 1) ((fl lc l).take (k * 14) ++ lc (newL u d) ++ (fl lc l).drop (k * 14)) :: blk B [.slice a12 (l.length + 1) c12] 72 :: row 40 10 (.slice ab bs.length cb) bs.length (fl bc bs) :: blk A4 [.int .i64 u, .int .i64 d] 30 :: rs) :=
      (s15.sel 5 [2, 1, 0, 3, 4]).rown _ _
    have q2 := q0.many_ins k
    rw [show (l.map ow).take k ++ ow (newL u d) :: (l.map ow).drop k = (insL l (newL u d)).map ow by
      rw [insL, show placeL l (newL u d).u (newL u d).d = k from Hhk.out.symm, List.map_append, List.map_cons, List.map_take, List.map_drop], hfi] at q2
    rw [insL_len]
    exact q2.sel 5 [1, 2, 0, 3, 4]
  have hA4 : w15.heap[A4]? = some (.cells #[.int .i64 u, .int .i64 d] 30 (0, 0)) := (q1.sel 5 [4]).head
  have ha0 := cell_two0 hA4
  have ha1 := cell_two1 hA4
  have hr2 := rise_ins hr (newL u d)
  have hf2 := found_ins l (newL u d)
  have hp2 := place_ins l (newL u d)
  obtain ⟨hk2, hx2⟩ := ins_at l (newL u d)
  rw [show placeL l (newL u d).u (newL u d).d = placeL l u d from rfl] at hp2 hk2
  have hl2 : (insL l (newL u d)).length ≤ 1000000 := by rw [insL_len]; omega
  clear s15 s12 sD hfi hZ hHeld hB h4 hBg h4g hnew hA4
  go_wp2_with fail
  refine (publish_ok B (insL l (newL u d)) _ u d _ bs k (newL u d) _ q1 hl2 hbl hr2 hf2 (hp2.trans Hhk.out.symm) (by rw [Hhk.out]; exact hk2) (by simp only [Hhk.out]; exact hx2) rfl (by simp [newL]) hany).mono ?_
  rintro e w5 ⟨rfl, x', e1, e2, e3, e4, e5, e6⟩
  have e7 := e6.sel 5 [0, 1, 2, 3]
  clear q1 e6 ha0 ha1
  go_wp2_with fail
  go_ret
  exact ⟨rfl, _, x', e1, e2, e3, e4, e5, by rw [← Hhk.out]; exact e7⟩
end Go.Proofs.Yteljkfihmbddaaa

/- New, the laws' bundles without a prekey for once, of layer 17 (registry). Printed by gen_rg9.py. -/
namespace Go.Pw
open Go.RowKit
theorem wpList_convert_const {P : Program} {W : World} {C : Array Value} {g n c : Nat} {ops : Array Oper} {rest : List Oper} {op : Oper} {a : Act} {Q : Exit → Act → World → Prop} (hgd : op.guard = none) (x : Operand) (t e : TypeId) (ho : op.op = .convert t t x)
    (hx : a.eval x = .slice (some ⟨g, 0, none⟩) n c) (hg : g = W.heap.size) (ht : P.underlying t = some (.slice e)) (he : P.underlying e = some (.int .u8))
    (h : wpList P ops Q rest (a.put op.dst (.slice (some ⟨g, 0, none⟩) n c)) (W.alloc (.cells C e (C.size, C.size + 1)))) : wpList P ops Q (op :: rest) a (W.alloc (.cells C e)) :=
  wpList_plain hgd fun _ hK => by
    unfold Oper.wp execOp
    have hr := Joins.run_convert_bytes_const_at (P := P) W t e C n c g hg ht he
    simp only [ho, hx, hr, Sem.run_bind, Result.andThen_ok]
    exact hK _ _ h
end Go.Pw
namespace Go.Proofs.Yteljkfihmbddaaa
open Go.RowKit Go.Pw
set_option linter.unusedVariables false

theorem new_any (w : World) : Calls Try.prog 8 #[] w fun e w' => e = .returned (.pointer (some ⟨w.heap.size, 0, none⟩)) ∧ w' = w.alloc (.cells #[.slice none 0 0] 72) := by
  go_enter Try.func8, Try.ntmps8
  go_wp2
  go_ret
  exact ⟨rfl, rfl⟩

/-- A bundle of the laws. -/
def Bund (u d n : Int) (has : Bool) (w : World) (e : Ending) (w' : World) : Prop := ∃ b : Bu, e = .returned (.agg (bc b).toArray) ∧ Only w w' [] ∧ b.u = u ∧ b.d = d ∧ b.sg = n ∧ b.has = has ∧ b.on = (if has = true then n else 0)

set_option maxRecDepth 100000 in
set_option maxHeartbeats 800000 in
theorem bundle_no (u d n : Int) (h0 : 0 ≤ n) (h1 : n < 256) (w : World) : Calls Try.prog 13 #[wv u d, .int .u8 n, .bool false] w (Bund u d n false w) := by
  simp only [wv]
  have e1 : IntKind.u32.wrap n = n := by simp [IntKind.wrap, IntKind.bits, IntKind.signed]; omega
  have h1c : ∀ s : Nat, ([.int .i64 u, .int .i64 d, .slice (some ⟨s, 0, none⟩) 2 2, .slice (some ⟨s + 1, 0, none⟩) 1 1, .int .u32 n, .slice (some ⟨s + 1 + 1, 0, none⟩) 1 1, .slice (some ⟨s + 1 + 1 + 1, 0, none⟩) 3 3, .bool false, .int .u32 0, .slice none 0 0] : List Value).toArray.all (·.oneCell') = true := by simp [Value.oneCell']
  go_enter Try.func13, Try.ntmps13
  go_wp2_with (first
    | (refine wpList_box_new rfl 30 _ rfl (.agg #[.int .i64 u, .int .i64 d]) rfl ?_; intro Z wZ oZ hZl hZ)
    | (refine wpList_convert_const rfl _ 22 5 rfl rfl (by simp) Try.underlying22 Try.underlying5 ?_)
    | (have hQ := hX; refine wpList_alloc_new rfl 40 rfl (.agg (bc b0).toArray) (fun _ => by kernel_rfl) ?_; intro Y wY oY hYl hY; clear hQ; have hc := h1c wX.heap.size; have oXY : Only wX wY [] := Only.trans (((((Only.alloc _ _ _).trans (Only.alloc _ _ _)).trans (Only.alloc _ _ _)).trans (Only.alloc _ _ _))) oY; have hX2 := oXY.at hX (by simp); have hYX : wX.heap.size ≤ Y := by simp at hYl; omega)
    | (refine wpList_alloc_new rfl 40 rfl (.agg (bc b0).toArray) (fun _ => by kernel_rfl) ?_; intro X wX oX hXl hX; have hZX := oX.at hZ (by simp); have hz0 := cell_two0 hZX; have hz1 := cell_two1 hZX)
    | (refine wpList_store_blk rfl 40 _ _ rfl Y [.int .i64 u, .int .i64 d, .slice (some ⟨wX.heap.size, 0, none⟩) 2 2, .slice (some ⟨wX.heap.size + 1, 0, none⟩) 1 1, .int .u32 n, .slice (some ⟨wX.heap.size + 1 + 1, 0, none⟩) 1 1, .slice (some ⟨wX.heap.size + 1 + 1 + 1, 0, none⟩) 3 3, .bool false, .int .u32 0, .slice none 0 0] rfl rfl hY rfl (by kernel_rfl) hc ?_; intro wU oU hU; have hX3 := oU.at hX2 (by simp; have := (Array.getElem?_eq_some_iff.1 hX).1; omega); have oF := (oZ.trans oX).trans (oXY.new oU (fun i hi => by simp only [List.mem_singleton] at hi; omega)))
    | (refine wpList_load_blk rfl 40 _ rfl Y rfl [.int .i64 u, .int .i64 d, .slice (some ⟨wX.heap.size, 0, none⟩) 2 2, .slice (some ⟨wX.heap.size + 1, 0, none⟩) 1 1, .int .u32 n, .slice (some ⟨wX.heap.size + 1 + 1, 0, none⟩) 1 1, .slice (some ⟨wX.heap.size + 1 + 1 + 1, 0, none⟩) 3 3, .bool false, .int .u32 0, .slice none 0 0] _ hU Try.underlying40 (by rfl) (by kernel_rfl) ?_)
    | (refine wpList_store_blk rfl 40 _ _ rfl X [.int .i64 u, .int .i64 d, .slice (some ⟨wX.heap.size, 0, none⟩) 2 2, .slice (some ⟨wX.heap.size + 1, 0, none⟩) 1 1, .int .u32 n, .slice (some ⟨wX.heap.size + 1 + 1, 0, none⟩) 1 1, .slice (some ⟨wX.heap.size + 1 + 1 + 1, 0, none⟩) 3 3, .bool false, .int .u32 0, .slice none 0 0] rfl rfl hX3 rfl (by kernel_rfl) hc ?_; intro wV oV hV; have oG := oF.new oV (fun i hi => by simp only [List.mem_singleton] at hi; have := oZ.size; omega)))
  have d0 : wV.cell? ⟨X, 0, none⟩ = some (.int .i64 u) := cell_in hV 0
  have d1 : wV.cell? ⟨X, 1, none⟩ = some (.int .i64 d) := cell_in hV 1
  have d2 : wV.cell? ⟨X, 2, none⟩ = some (.slice (some ⟨wX.heap.size, 0, none⟩) 2 2) := cell_in hV 2
  have d3 : wV.cell? ⟨X, 3, none⟩ = some (.slice (some ⟨wX.heap.size + 1, 0, none⟩) 1 1) := cell_in hV 3
  have d4 : wV.cell? ⟨X, 4, none⟩ = some (.int .u32 n) := cell_in hV 4
  have d5 : wV.cell? ⟨X, 5, none⟩ = some (.slice (some ⟨wX.heap.size + 1 + 1, 0, none⟩) 1 1) := cell_in hV 5
  have d6 : wV.cell? ⟨X, 6, none⟩ = some (.slice (some ⟨wX.heap.size + 1 + 1 + 1, 0, none⟩) 3 3) := cell_in hV 6
  have d7 : wV.cell? ⟨X, 7, none⟩ = some (.bool false) := cell_in hV 7
  have d8 : wV.cell? ⟨X, 8, none⟩ = some (.int .u32 0) := cell_in hV 8
  have d9 : wV.cell? ⟨X, 9, none⟩ = some (.slice none 0 0) := cell_in hV 9
  clear hV hU hX3 hX2 hX hZ hZX hY oXY oF
  refine bodyPost_ret (v := .agg #[.int .i64 u, .int .i64 d, .slice (some ⟨wX.heap.size, 0, none⟩) 2 2, .slice (some ⟨wX.heap.size + 1, 0, none⟩) 1 1, .int .u32 n, .slice (some ⟨wX.heap.size + 1 + 1, 0, none⟩) 1 1, .slice (some ⟨wX.heap.size + 1 + 1 + 1, 0, none⟩) 3 3, .bool false, .int .u32 0, .slice none 0 0]) (by simp [results, Try.results13, go_sem, d0, d1, d2, d3, d4, d5, d6, d7, d8, d9]) rfl ?_
  exact ⟨⟨u, d, .slice (some ⟨wX.heap.size, 0, none⟩) 2 2, .slice (some ⟨wX.heap.size + 1, 0, none⟩) 1 1, n, .slice (some ⟨wX.heap.size + 1 + 1, 0, none⟩) 1 1, .slice (some ⟨wX.heap.size + 1 + 1 + 1, 0, none⟩) 3 3, false, 0, .slice none 0 0, by simp [Value.oneCell']⟩, rfl, oG, rfl, rfl, rfl, rfl, rfl⟩
end Go.Proofs.Yteljkfihmbddaaa

/- The waking of layer 17's laws (registry). Printed by gen_rga.py. -/
set_option linter.unusedSimpArgs false
set_option linter.unusedVariables false
namespace Go.Proofs.Yteljkfihmbddaaa
open Go.RowKit Go.Pw
set_option linter.unusedVariables false

theorem rise_nil : Rise [] := fun u d i j hi hj => by simp at hj
theorem rise_one (r : Li) : Rise [r] := fun u d i j hi hj => by simp at hj; omega
theorem rise_two (r s : Li) (h : cmpW r.u r.d s.u s.d < 0) : Rise [r, s] := fun u d i j hi hj hlt => by
  simp at hj
  obtain rfl : j = 1 := by omega
  obtain rfl : i = 0 := by omega
  simp only [List.getElem_cons_zero, List.getElem_cons_succ] at *
  rw [cmpW_neg] at *
  omega
theorem regs_nil {w0 w : World} {rs : List Res} {B : Nat} (h : Sep w0 w (blk B [.slice none 0 0] 72 :: rs)) : Sep w0 w (regR B (.slice none 0 0) [] rs) :=
  (h.many_nil.rown 76 14).sel 3 [0, 2, 1]

set_option maxRecDepth 100000 in
set_option maxHeartbeats 1600000 in
theorem awake_any (w : World) : Calls Try.prog 7 #[] w fun e w' => e = .returned (.bool true) ∧ Only w w' [] := by
  obtain ⟨i0, hi, hz0, hz1, hz2⟩ := info_parts bun_info
  go_enter Try.func7, Try.ntmps7
  go_wp2_with fail
  refine (new_any w).mono ?_
  rintro e w1 ⟨rfl, rfl⟩
  have s1 := regs_nil ((Sep.nil w).box [.slice none 0 0] 72)
  obtain ⟨B, hB⟩ : ∃ B, B = w.heap.size := ⟨_, rfl⟩
  rw [← hB] at s1 ⊢
  clear hB
  generalize w.alloc (.cells [Value.slice none 0 0].toArray 72) = w1 at *
  go_wp2_with (first
    | (have hQ := hY1; refine wpList_alloc_new rfl 30 rfl (.agg #[.int .i64 0, .int .i64 0]) (fun _ => by kernel_rfl) ?_; intro X2 wX2 oX2 hX2l hX2; clear hQ)
    | (refine wpList_alloc_new rfl 30 rfl (.agg #[.int .i64 0, .int .i64 0]) (fun _ => by kernel_rfl) ?_; intro X1 wX1 oX1 hX1l hX1)
    | (refine wpList_store_blk rfl 30 _ _ rfl X1 [.int .i64 0, .int .i64 1] rfl rfl hX1 rfl (by kernel_rfl) (by simp [Value.oneCell']) ?_; intro wY1 oY1 hY1; have s2 := s1.add (b := blk X1 [.int .i64 0, .int .i64 1] 30) (oX1.new oY1 (fun i hi => by simp only [List.mem_singleton] at hi; omega)) hY1 (fun k hk => by simp [blk] at hk; omega); clear s1 hX1 oX1 oY1)
    | (refine wpList_store_blk rfl 30 _ _ rfl X2 [.int .i64 0, .int .i64 2] rfl rfl hX2 rfl (by kernel_rfl) (by simp [Value.oneCell']) ?_; intro wY2 oY2 hY2; have s3 := s2.add (b := blk X2 [.int .i64 0, .int .i64 2] 30) (oX2.new oY2 (fun i hi => by simp only [List.mem_singleton] at hi; omega)) hY2 (fun k hk => by simp [blk] at hk; omega); clear s2 hX2 oX2 oY2))
  have sA : Sep w wY2 (regR B (.slice none 0 0) [] (blk X1 [.int .i64 0, .int .i64 1] 30 :: blk X2 [.int .i64 0, .int .i64 2] 30 :: [])) := s3.sel 5 [2, 3, 4, 1, 0]
  clear s3 hY1 hY2
  have hX1 : wY2.drew.heap[X1]? = some (.cells #[.int .i64 0, .int .i64 1] 30 (0, 0)) := (sA.sel 4 [3]).head
  have hX2 : wY2.drew.heap[X2]? = some (.cells #[.int .i64 0, .int .i64 2] 30 (0, 0)) := (sA.sel 5 [4]).head
  have sD := sA.quiet (Only.drew wY2 [])
  clear sA
  refine wp_region_held_drew (S := fun w' => w'.heap[X1]? = some (.cells #[.int .i64 0, .int .i64 1] 30 (0, 0)) ∧ w'.heap[X2]? = some (.cells #[.int .i64 0, .int .i64 2] 30 (0, 0))) (by kernel_rfl) (⟨hX1, hX2⟩) (fun hHeld => ?_)
  refine' wpAnyH_take (i := 0) (v := _) (op_at rfl) (by kernel_rfl) (by kernel_rfl) (by kernel_rfl) (fun _ _ _ h => h) (Or.inl ⟨by rfl, ?hy1⟩) (by assumption) ?rest1
  case hy1 =>
    intro w' hS
    go_simp
    try with_reducible rfl
  try simp only [Act.put, List.setIfInBounds_toArray, List.set_cons_zero, List.set_cons_succ]
  refine' wpAnyH_take (i := 1) (v := _) (op_at rfl) (by kernel_rfl) (by kernel_rfl) (by kernel_rfl) (fun _ _ _ h => h) (Or.inl ⟨by rfl, ?hy2⟩) (by assumption) ?rest2
  case hy2 =>
    intro w' hS
    have q0 := cell_two0 hS.1
    have q1 := cell_two1 hS.1
    go_simp
    try with_reducible rfl
  try simp only [Act.put, List.setIfInBounds_toArray, List.set_cons_zero, List.set_cons_succ]
  refine' wpAnyH_take (i := 2) (v := _) (op_at rfl) (by kernel_rfl) (by kernel_rfl) (by kernel_rfl) (fun _ _ _ h => h) (Or.inl ⟨by rfl, ?hy3⟩) (by assumption) ?rest3
  case hy3 =>
    intro w' hS
    have q0 := cell_two0 hS.1
    have q1 := cell_two1 hS.1
    go_simp
    try with_reducible rfl
  try simp only [Act.put, List.setIfInBounds_toArray, List.set_cons_zero, List.set_cons_succ]
  refine wpAnyH_ready (rs := [3]) (by kernel_rfl) (by simp) (AllReadyH.cons (op_at rfl) (fun K hK => ?_) AllReadyH.nil)
  go_simp
  refine (bundle_no 0 1 1 (by decide) (by decide) _).mono fun e w3 hq => ?_
  obtain ⟨b1, rfl, o3, f1, f2, f3, f4, f5⟩ := hq
  go_wp2_with fail
  refine hK.out _ _ ⟨o3.at hHeld.1 (by simp), o3.at hHeld.2 (by simp)⟩ (fun hHeld => ?_)
  clear hK K
  try simp only [Act.put, List.setIfInBounds_toArray, List.set_cons_zero, List.set_cons_succ]
  have s3 := sD.quiet o3
  clear o3 sD
  refine wpAnyH_ready (rs := [4]) (by kernel_rfl) (by simp) (AllReadyH.cons (op_at rfl) (fun K hK => ?_) AllReadyH.nil)
  refine step_buildSlice_one (by rfl) 42 _ (by rfl) 40 i0 _ (bc b1) (by rfl) Try.underlying42 hi hz0 (by rw [hz1, bc_len]) (by rw [bc_len]; rfl) (by rw [bc_len]; decide) (by rw [bc_len]; decide) (fun Y4 w4 o4 hY4l hY4 => ?_)
  go_wp2_with fail
  refine hK.out _ _ ⟨o4.at hHeld.1 (by simp), o4.at hHeld.2 (by simp)⟩ (fun hHeld => ?_)
  clear hK K
  try simp only [Act.put, List.setIfInBounds_toArray, List.set_cons_zero, List.set_cons_succ]
  have s4 : Sep w w4 (regR B (.slice none 0 0) [] (row 40 10 (.slice (some ⟨Y4, 0, none⟩) 1 1) [b1].length (fl bc [b1]) :: blk X1 [.int .i64 0, .int .i64 1] 30 :: blk X2 [.int .i64 0, .int .i64 2] 30 :: [])) := (s3.add (b := row 40 10 (.slice (some ⟨Y4, 0, none⟩) 1 1) [b1].length (fl bc [b1])) o4 (blk_row (cs := fl bc [b1]) (by simpa [fl] using hY4) (by simp [fl, bc_len]) (by simp [maxLen])) (fun k hk => by simp [row, Value.ownBlock] at hk; omega)).sel 6 [1, 2, 3, 0, 4, 5]
  clear s3 o4 hY4
  refine wpAnyH_ready (rs := [5]) (by kernel_rfl) (by simp) (AllReadyH.cons (op_at rfl) (fun K hK => ?_) AllReadyH.nil)
  go_simp
  refine (add_ok B [] _ 0 1 _ [b1] _ s4 (by simp) (by simp) rise_nil rfl (by simp [f4]) (by simp [other, f1, f2]) rfl).mono fun e w5 hq => ?_
  obtain ⟨rfl, v5, x1, g1, g2, g3, g4, g5, s5⟩ := hq
  obtain ⟨xu, xd, xo, xb, xv, xs, xk⟩ := x1
  simp only at g1 g2 g3 g5
  obtain rfl := g1
  obtain rfl := g2
  obtain rfl := g3
  go_wp2_with fail
  refine hK.out _ _ ⟨(s5.sel 5 [4]).head, (s5.sel 6 [5]).head⟩ (fun hHeld => ?_)
  clear hK K
  try simp only [Act.put, List.setIfInBounds_toArray, List.set_cons_zero, List.set_cons_succ]
  have s6 : Sep w w5 (regR B v5 [⟨0, 1, true, xb, xv, xs, xk⟩] (blk X1 [.int .i64 0, .int .i64 1] 30 :: blk X2 [.int .i64 0, .int .i64 2] 30 :: [])) := s5.sel 6 [0, 1, 2, 4, 5]
  clear s4 s5 g4
  refine' wpAnyH_take (i := 6) (v := _) (op_at rfl) (by kernel_rfl) (by kernel_rfl) (by kernel_rfl) (fun _ _ _ h => h) (Or.inl ⟨by rfl, ?hy4⟩) (by assumption) ?rest4
  case hy4 =>
    intro w' hS
    go_simp
    try with_reducible rfl
  try simp only [Act.put, List.setIfInBounds_toArray, List.set_cons_zero, List.set_cons_succ]
  refine' wpAnyH_take (i := 7) (v := _) (op_at rfl) (by kernel_rfl) (by kernel_rfl) (by kernel_rfl) (fun _ _ _ h => h) (Or.inl ⟨by rfl, ?hy5⟩) (by assumption) ?rest5
  case hy5 =>
    intro w' hS
    go_simp
    try with_reducible rfl
  try simp only [Act.put, List.setIfInBounds_toArray, List.set_cons_zero, List.set_cons_succ]
  refine' wpAnyH_take (i := 8) (v := _) (op_at rfl) (by kernel_rfl) (by kernel_rfl) (by kernel_rfl) (fun _ _ _ h => h) (Or.inl ⟨by rfl, ?hy6⟩) (by assumption) ?rest6
  case hy6 =>
    intro w' hS
    go_simp
    try with_reducible rfl
  try simp only [Act.put, List.setIfInBounds_toArray, List.set_cons_zero, List.set_cons_succ]
  refine' wpAnyH_take (i := 9) (v := _) (op_at rfl) (by kernel_rfl) (by kernel_rfl) (by kernel_rfl) (fun _ _ _ h => h) (Or.inl ⟨by rfl, ?hy7⟩) (by assumption) ?rest7
  case hy7 =>
    intro w' hS
    have q0 := cell_two0 hS.2
    have q1 := cell_two1 hS.2
    go_simp
    try with_reducible rfl
  try simp only [Act.put, List.setIfInBounds_toArray, List.set_cons_zero, List.set_cons_succ]
  refine' wpAnyH_take (i := 10) (v := _) (op_at rfl) (by kernel_rfl) (by kernel_rfl) (by kernel_rfl) (fun _ _ _ h => h) (Or.inl ⟨by rfl, ?hy8⟩) (by assumption) ?rest8
  case hy8 =>
    intro w' hS
    have q0 := cell_two0 hS.2
    have q1 := cell_two1 hS.2
    go_simp
    try with_reducible rfl
  try simp only [Act.put, List.setIfInBounds_toArray, List.set_cons_zero, List.set_cons_succ]
  refine wpAnyH_ready (rs := [11]) (by kernel_rfl) (by simp) (AllReadyH.cons (op_at rfl) (fun K hK => ?_) AllReadyH.nil)
  go_simp
  refine (bundle_no 0 2 1 (by decide) (by decide) _).mono fun e w3 hq => ?_
  obtain ⟨b2, rfl, o3, k1, k2, k3, k4, k5⟩ := hq
  go_wp2_with fail
  refine hK.out _ _ ⟨o3.at hHeld.1 (by simp), o3.at hHeld.2 (by simp)⟩ (fun hHeld => ?_)
  clear hK K
  try simp only [Act.put, List.setIfInBounds_toArray, List.set_cons_zero, List.set_cons_succ]
  have s7 := s6.quiet o3
  clear o3 s6
  refine wpAnyH_ready (rs := [12]) (by kernel_rfl) (by simp) (AllReadyH.cons (op_at rfl) (fun K hK => ?_) AllReadyH.nil)
  refine step_buildSlice_got (by rfl) 42 _ (by rfl) 40 i0 _ (bc b2) (by rfl) Try.underlying42 hi hz0 (by rw [hz1, bc_len]) (by rw [bc_len]; rfl) (by rw [bc_len]; decide) (by rw [bc_len]; decide) (fun Y8 w8 o8 hY8l hY8 => ?_)
  go_wp2_with fail
  refine hK.out _ _ ⟨o8.at hHeld.1 (by simp), o8.at hHeld.2 (by simp)⟩ (fun hHeld => ?_)
  clear hK K
  try simp only [Act.put, List.setIfInBounds_toArray, List.set_cons_zero, List.set_cons_succ]
  have s8 : Sep w w8 (regR B v5 [⟨0, 1, true, xb, xv, xs, xk⟩] (row 40 10 (.slice (some ⟨Y8, 0, none⟩) 1 1) [b2].length (fl bc [b2]) :: blk X1 [.int .i64 0, .int .i64 1] 30 :: blk X2 [.int .i64 0, .int .i64 2] 30 :: [])) := (s7.add (b := row 40 10 (.slice (some ⟨Y8, 0, none⟩) 1 1) [b2].length (fl bc [b2])) o8 (blk_row (cs := fl bc [b2]) (by simpa [fl] using hY8) (by simp [fl, bc_len]) (by simp [maxLen])) (fun k hk => by simp [row, Value.ownBlock] at hk; omega)).sel 6 [1, 2, 3, 0, 4, 5]
  clear s7 o8 hY8
  refine wpAnyH_ready (rs := [13]) (by kernel_rfl) (by simp) (AllReadyH.cons (op_at rfl) (fun K hK => ?_) AllReadyH.nil)
  go_simp
  refine (add_ok B _ _ 0 2 _ [b2] _ s8 (by simp) (by simp) (rise_one _) rfl (by simp [k4]) (by simp [other, k1, k2]) rfl).mono fun e w9 hq => ?_
  obtain ⟨rfl, v9, x2, g1, g2, g3, g4, g6, s9⟩ := hq
  obtain ⟨yu, yd, yo, yb, yv, ys, yk⟩ := x2
  simp only at g1 g2 g3 g6
  obtain rfl := g1
  obtain rfl := g2
  obtain rfl := g3
  go_wp2_with fail
  refine hK.out _ _ ⟨(s9.sel 5 [4]).head, (s9.sel 6 [5]).head⟩ (fun hHeld => ?_)
  clear hK K
  try simp only [Act.put, List.setIfInBounds_toArray, List.set_cons_zero, List.set_cons_succ]
  have s10 : Sep w w9 (regR B v9 [⟨0, 1, true, xb, xv, xs, xk⟩, ⟨0, 2, true, yb, yv, ys, yk⟩] (blk X1 [.int .i64 0, .int .i64 1] 30 :: blk X2 [.int .i64 0, .int .i64 2] 30 :: [])) := s9.sel 6 [0, 1, 2, 4, 5]
  clear s8 s9 g4
  refine' wpAnyH_take (i := 14) (v := _) (op_at rfl) (by kernel_rfl) (by kernel_rfl) (by kernel_rfl) (fun _ _ _ h => h) (Or.inl ⟨by rfl, ?hy9⟩) (by assumption) ?rest9
  case hy9 =>
    intro w' hS
    go_simp
    try with_reducible rfl
  try simp only [Act.put, List.setIfInBounds_toArray, List.set_cons_zero, List.set_cons_succ]
  refine' wpAnyH_take (i := 15) (v := _) (op_at rfl) (by kernel_rfl) (by kernel_rfl) (by kernel_rfl) (fun _ _ _ h => h) (Or.inl ⟨by rfl, ?hy10⟩) (by assumption) ?rest10
  case hy10 =>
    intro w' hS
    go_simp
    try with_reducible rfl
  try simp only [Act.put, List.setIfInBounds_toArray, List.set_cons_zero, List.set_cons_succ]
  refine' wpAnyH_take (i := 16) (v := _) (op_at rfl) (by kernel_rfl) (by kernel_rfl) (by kernel_rfl) (fun _ _ _ h => h) (Or.inl ⟨by rfl, ?hy11⟩) (by assumption) ?rest11
  case hy11 =>
    intro w' hS
    go_simp
    try with_reducible rfl
  try simp only [Act.put, List.setIfInBounds_toArray, List.set_cons_zero, List.set_cons_succ]
  refine' wpAnyH_take (i := 17) (v := _) (op_at rfl) (by kernel_rfl) (by kernel_rfl) (by kernel_rfl) (fun _ _ _ h => h) (Or.inl ⟨by rfl, ?hy12⟩) (by assumption) ?rest12
  case hy12 =>
    intro w' hS
    go_simp
    try with_reducible rfl
  try simp only [Act.put, List.setIfInBounds_toArray, List.set_cons_zero, List.set_cons_succ]
  refine' wpAnyH_take (i := 18) (v := _) (op_at rfl) (by kernel_rfl) (by kernel_rfl) (by kernel_rfl) (fun _ _ _ h => h) (Or.inl ⟨by rfl, ?hy13⟩) (by assumption) ?rest13
  case hy13 =>
    intro w' hS
    have q0 := cell_two0 hS.1
    have q1 := cell_two1 hS.1
    go_simp
    try with_reducible rfl
  try simp only [Act.put, List.setIfInBounds_toArray, List.set_cons_zero, List.set_cons_succ]
  refine wpAnyH_ready (rs := [19]) (by kernel_rfl) (by simp) (AllReadyH.cons (op_at rfl) (fun K hK => ?_) AllReadyH.nil)
  go_simp
  refine (remove_ok B _ _ 0 1 _ s10 (by simp) (rise_two _ _ (by simp [cmpW, orL, cmpI])) rfl).mono fun e w11 hq => ?_
  obtain ⟨rfl, s11⟩ := hq
  go_wp2_with fail
  refine hK.out _ _ ⟨(s11.sel 4 [3]).head, (s11.sel 5 [4]).head⟩ (fun hHeld => ?_)
  clear hK K
  try simp only [Act.put, List.setIfInBounds_toArray, List.set_cons_zero, List.set_cons_succ]
  have s12 : Sep w w11 (regR B v9 [⟨0, 1, false, xb, .slice none 0 0, [], rfl⟩, ⟨0, 2, true, yb, yv, ys, yk⟩] (blk X1 [.int .i64 0, .int .i64 1] 30 :: blk X2 [.int .i64 0, .int .i64 2] 30 :: [])) := s11
  clear s10 s11
  refine' wpAnyH_take (i := 20) (v := _) (op_at rfl) (by kernel_rfl) (by kernel_rfl) (by kernel_rfl) (fun _ _ _ h => h) (Or.inl ⟨by rfl, ?hy14⟩) (by assumption) ?rest14
  case hy14 =>
    intro w' hS
    go_simp
    try with_reducible rfl
  try simp only [Act.put, List.setIfInBounds_toArray, List.set_cons_zero, List.set_cons_succ]
  refine' wpAnyH_take (i := 21) (v := _) (op_at rfl) (by kernel_rfl) (by kernel_rfl) (by kernel_rfl) (fun _ _ _ h => h) (Or.inl ⟨by rfl, ?hy15⟩) (by assumption) ?rest15
  case hy15 =>
    intro w' hS
    go_simp
    try with_reducible rfl
  try simp only [Act.put, List.setIfInBounds_toArray, List.set_cons_zero, List.set_cons_succ]
  refine wpAnyH_done (by kernel_rfl) ?_ _
  clear hX1 hX2
  obtain ⟨hX1, hX2⟩ := hHeld
  go_wp2_with fail
  refine (next_any B _ _ 0 _ s12 (by simp) (rise_two _ _ (by simp [cmpW, orL, cmpI]))).mono ?_
  rw [show nextD [(⟨0, 1, false, xb, .slice none 0 0, [], rfl⟩ : Li), ⟨0, 2, true, yb, yv, ys, yk⟩] 0 = ((0, 3), 0) from rfl]
  simp only [wv]
  rintro e w13 ⟨rfl, o13⟩
  have s13 := s12.quiet o13
  clear s12 o13 hX1 hX2
  have h1c : ([.int .i64 0, .int .i64 3] : List Value).toArray.all (·.oneCell') = true := by simp [Value.oneCell']
  go_wp2_with (first
    | (refine wpList_alloc_new rfl 30 rfl (.agg #[.int .i64 0, .int .i64 0]) (fun _ => by kernel_rfl) ?_; intro Z wZ oZ hZl hZ)
    | (refine wpList_store_blk rfl 30 _ _ rfl Z [.int .i64 0, .int .i64 3] rfl rfl hZ rfl (by kernel_rfl) h1c ?_; intro wU oU hU; have s14 := s13.quiet (oZ.new oU (fun i hi => by simp only [List.mem_singleton] at hi; omega)); have hu1 := cell_two1 hU; have hx2 := (show wU.heap[X2]? = _ from (s14.sel 5 [4]).head); have hb0 := cell_two0 hx2; have hb1 := cell_two1 hx2; clear s13 hZ oZ oU hU hx2))
  refine (is_any B _ _ 0 2 _ s14 (by simp) (rise_two _ _ (by simp [cmpW, orL, cmpI]))).mono ?_
  rw [show isL [(⟨0, 1, false, xb, .slice none 0 0, [], rfl⟩ : Li), ⟨0, 2, true, yb, yv, ys, yk⟩] 0 2 = true from rfl]
  rintro e w15 ⟨rfl, o15⟩
  have s15 := s14.quiet o15
  clear s14 o15 hu1 hb0 hb1
  have hx1 : w15.heap[X1]? = some (.cells #[.int .i64 0, .int .i64 1] 30 (0, 0)) := (s15.sel 4 [3]).head
  have ha0 := cell_two0 hx1
  have ha1 := cell_two1 hx1
  go_wp2_with fail
  refine (is_any B _ _ 0 1 _ s15 (by simp) (rise_two _ _ (by simp [cmpW, orL, cmpI]))).mono ?_
  rw [show isL [(⟨0, 1, false, xb, .slice none 0 0, [], rfl⟩ : Li), ⟨0, 2, true, yb, yv, ys, yk⟩] 0 1 = false from rfl]
  rintro e w16 ⟨rfl, o16⟩
  have oF := s15.only.trans o16
  clear s15 o16 ha0 ha1 hx1
  go_wp2_with fail
  go_ret
  exact ⟨rfl, oF⟩
end Go.Proofs.Yteljkfihmbddaaa

/- Plain laws of layer 17's lines (registry): strictly rising lines, who is found, who is listed, what an added and a removed device turn. No walk. -/
namespace Go.Proofs.Yteljkfihmbddaaa
open Go.RowKit Go.Pw
set_option linter.unusedVariables false

theorem cmpW_zero (u d u' d' : Int) : (cmpW u d u' d' = 0) ↔ (u = u' ∧ d = d') := by
  simp only [cmpW, orL, cmpI]
  repeat' split
  all_goals simp_all
  all_goals omega

def Strict (l : List Li) : Prop := ∀ (i j : Nat) (hi : i < j) (hj : j < l.length), cmpW (l[i]'(by omega)).u (l[i]'(by omega)).d l[j].u l[j].d < 0
theorem Strict.rise {l : List Li} (h : Strict l) : Rise l := fun u d i j hi hj hlt => by
  have := h i j hi hj
  rw [cmpW_neg] at *
  omega
theorem strict_nil : Strict [] := fun i j hi hj => by simp at hj
theorem place_self {l : List Li} (h : Strict l) {i : Nat} (hi : i < l.length) : placeL l l[i].u l[i].d = i := by
  show List.findIdx _ _ = _
  rw [List.findIdx_eq hi]
  refine ⟨by simp [cmpW_self], fun j hj => ?_⟩
  have := h j i hj hi
  simp only [decide_eq_false_iff_not]
  omega
theorem found_self {l : List Li} (h : Strict l) {i : Nat} (hi : i < l.length) : foundL l l[i].u l[i].d = true := by
  unfold foundL
  rw [place_self h hi, List.getElem?_eq_getElem hi]
  simp [cmpW_self]
theorem isL_self {l : List Li} (h : Strict l) {i : Nat} (hi : i < l.length) : isL l l[i].u l[i].d = l[i].on := by
  unfold isL
  rw [found_self h hi, place_self h hi, List.getElem?_eq_getElem hi]
  rfl
theorem found_key {l : List Li} {u d : Int} (h : foundL l u d = true) : ∃ x ∈ l, x.u = u ∧ x.d = d := by
  obtain ⟨hk, h0⟩ := found_at h
  exact ⟨_, List.getElem_mem hk, (cmpW_zero _ _ _ _).1 h0⟩
theorem not_found {l : List Li} {u d : Int} (h : ∀ x ∈ l, ¬ (x.u = u ∧ x.d = d)) : foundL l u d = false := by
  cases hf : foundL l u d with
  | false => rfl
  | true =>
    obtain ⟨x, hx, hk⟩ := found_key hf
    exact absurd hk (h x hx)

def key (x : Li) : Int × Int := (x.u, x.d)
theorem listL_eq {l : List Li} (h : Strict l) (user : Int) : listL l user = (l.filter fun x => x.u == user && x.on).map key := by
  show ((l.map key).filter _) = _
  rw [List.filter_map]
  congr 1
  apply List.filter_congr
  intro x hx
  obtain ⟨i, hi, rfl⟩ := List.mem_iff_getElem.1 hx
  show (l[i].u == user && isL l l[i].u l[i].d) = _
  rw [isL_self h hi]
theorem cntL_eq (l : List Li) (user : Int) : cntL l user = (l.filter fun x => x.u == user).length := by
  show ((l.map key).filter _).length = _
  rw [List.filter_map, List.length_map]
  rfl

theorem strict_set {l : List Li} (h : Strict l) {k : Nat} (hk : k < l.length) {x : Li} (hu : x.u = l[k].u) (hd : x.d = l[k].d) : Strict (l.set k x) := fun i j hi hj => by
  rw [List.length_set] at hj
  have h0 := h i j hi hj
  rw [List.getElem_set, List.getElem_set]
  split
  · rename_i e
    subst e
    rw [if_neg (by omega), hu, hd]
    exact h0
  · split
    · rename_i e
      subst e
      rw [hu, hd]
      exact h0
    · exact h0
theorem strict_ins {l : List Li} (h : Strict l) {x : Li} (hn : ∀ y ∈ l, ¬ (y.u = x.u ∧ y.d = x.d)) : Strict (insL l x) := fun i j hi hj => by
  have hr := h.rise
  have hi' : i < (insL l x).length := by omega
  rcases insL_at l x j hj with ⟨h1, hj1, e1⟩ | ⟨h1, e1⟩ | ⟨h1, hj1, e1⟩
  · rcases insL_at l x i hi' with ⟨h2, hi2, e2⟩ | ⟨h2, e2⟩ | ⟨h2, hi2, e2⟩
    · rw [e1, e2]; exact h i j hi hj1
    · omega
    · omega
  · rcases insL_at l x i hi' with ⟨h2, hi2, e2⟩ | ⟨h2, e2⟩ | ⟨h2, hi2, e2⟩
    · rw [e1, e2]
      obtain ⟨_, h3⟩ := place_lt h2
      exact h3
    · omega
    · omega
  · rcases insL_at l x i hi' with ⟨h2, hi2, e2⟩ | ⟨h2, e2⟩ | ⟨h2, hi2, e2⟩
    · rw [e1, e2]; exact h i (j - 1) (by omega) hj1
    · rw [e1, e2]
      have h3 := place_ge hr (u := x.u) (d := x.d) (i := j - 1) (by omega) hj1
      have h4 := hn l[j - 1] (List.getElem_mem hj1)
      rw [cmpW_neg] at *
      omega
    · rw [e1, e2]; exact h (i - 1) (j - 1) (by omega) hj1
theorem insL_set (l : List Li) (x x' : Li) : (insL l x).set (placeL l x.u x.d) x' = l.take (placeL l x.u x.d) ++ x' :: l.drop (placeL l x.u x.d) := by
  have hp := place_le l x.u x.d
  have htl : (l.take (placeL l x.u x.d)).length = placeL l x.u x.d := by rw [List.length_take]; omega
  unfold insL
  rw [List.set_append_right _ _ (by omega), htl, Nat.sub_self, List.set_cons_zero]
theorem filter_put (p : Li → Bool) (l : List Li) (k : Nat) (x : Li) : ((l.take k ++ x :: l.drop k).filter p).length = (l.filter p).length + (if p x = true then 1 else 0) := by
  conv => rhs; rw [← List.take_append_drop k l]
  rw [List.filter_append, List.filter_append, List.length_append, List.length_append, List.filter_cons]
  split <;> simp <;> omega
theorem filter_set (p : Li → Bool) {l : List Li} {k : Nat} (hk : k < l.length) (x : Li) : ((l.set k x).filter p).length + (if p l[k] = true then 1 else 0) = (l.filter p).length + (if p x = true then 1 else 0) := by
  have e : l = l.take k ++ l[k] :: l.drop (k + 1) := by
    conv => lhs; rw [← List.take_append_drop k l, List.drop_eq_getElem_cons hk]
  have e2 : l.set k x = l.take k ++ x :: l.drop (k + 1) := by rw [List.set_eq_take_append_cons_drop, if_pos hk]
  rw [e2]
  conv => rhs; rw [e]
  simp only [List.filter_append, List.length_append, List.filter_cons]
  split <;> split <;> simp <;> omega
theorem mem_put {l : List Li} {k : Nat} {x y : Li} : y ∈ l.take k ++ x :: l.drop k ↔ y = x ∨ y ∈ l := by
  conv => rhs; rw [← List.take_append_drop k l]
  simp only [List.mem_append, List.mem_cons]
  constructor
  · rintro (h | h | h)
    · exact .inr (.inl h)
    · exact .inl h
    · exact .inr (.inr h)
  · rintro (h | h | h)
    · exact .inr (.inl h)
    · exact .inl h
    · exact .inr (.inr h)
end Go.Proofs.Yteljkfihmbddaaa

/- slices.Delete of the first bundle (layer 17, registry). -/
namespace Go.Pw
open Go.RowKit
set_option linter.unusedVariables false
theorem step_append_run2 {P : Program} {ops : Array Oper} {o : Oper} {a : Act} {w : World} {K : Act → World → Prop} {Q : Exit → Act → World → Prop} {E : Prop}
    (hg : o.guard = none) (s x : Operand) (t t' : TypeId) (hop : o.op = Op.call { callee := Callee.builtin Builtin.append, args := #[s, x], argTypes := #[t, t'] })
    (v u : Value) (hs : a.eval s = v) (hx : a.eval x = u) {v' : Value} {w' : World} (hr : (Builtin.append_ #[t, t'] o.type #[v, u]).run P w = .ok v' w') (hK : K (a.put o.dst v') w') :
    if Region.wanted o (yielded ops a.tmps) = true then Oper.wp P o a w K Q else E := by
  have hw : Region.wanted o (yielded ops a.tmps) = true := by simp [Region.wanted, hg]
  rw [if_pos hw]
  unfold Oper.wp
  simp [execOp, hop, resolve, invoke, builtin, hs, hx, hr, Result.andThen]
  exact hK
theorem setL_head (xs vs : List Value) (h : vs.length ≤ xs.length) : setL xs 0 vs = vs ++ xs.drop vs.length := by
  have := setL_app (xs.take vs.length) [] vs (xs.drop vs.length) (by rw [List.length_take]; omega)
  simpa [List.take_append_drop] using this
end Go.Pw
namespace Go.Proofs.Yteljkfihmbddaaa
open Go.RowKit Go.Pw
set_option linter.unusedVariables false

set_option maxRecDepth 100000 in
set_option maxHeartbeats 1600000 in
theorem delete_front {w0 : World} {rs : List Res} (g n c : Nat) (xs : List Value) (w : World) (h : Sep w0 w (row 40 10 (.slice (some ⟨g, 0, none⟩) n c) n xs :: rs)) (hn : 0 < n) (hn2 : n ≤ 1000) (h1c : ∀ u ∈ xs, u.oneCell' = true) :
    Calls Try.prog 33 #[.slice (some ⟨g, 0, none⟩) n c, .int .i64 0, .int .i64 1] w fun e w' => e = .returned (.slice (some ⟨g, 0, none⟩) (n - 1) c) ∧ Sep w0 w' (row 40 10 (.slice (some ⟨g, 0, none⟩) (n - 1) c) (n - 1) (xs.drop 10) :: rs) := by
  obtain ⟨i0, hi, hz0, hzs, hzb⟩ := info_parts bun_info
  have hown : w.ownsRow 0 40 10 (.slice (some ⟨g, 0, none⟩) n c) n xs := h.head
  obtain ⟨hnc, hcm⟩ := row_cap hown
  have hxl : xs.length = n * 10 := hown.1
  have hdl : (xs.drop 10).length = (n - 1) * 10 := by rw [List.length_drop, hxl]; omega
  have hownd : w.drew.ownsRow 0 40 10 (.slice (some ⟨g, 0, none⟩) n c) n xs := hown
  have happ : ∀ (p : Nat) (cc : Nat) ty, (0 < (n - 1) * 10 → p = 10) → (Builtin.append_ #[42, 42] ty #[.slice (some ⟨g, 0, none⟩) 0 c, .slice (some ⟨g, p, none⟩) (n - 1) cc]).run Try.prog w.drew = .ok (.slice (some ⟨g, 0, none⟩) (n - 1) c) (w.drew.setCells g 0 (xs.drop 10)) := fun p cc ty hp => by
    have := run_append_room_cells (P := Try.prog) (w := w.drew) 42 ty 40 i0 Try.underlying42 hi g 0 0 c ⟨g, p, none⟩ (n - 1) cc (xs.drop 10) (by rw [hzs]; exact hdl)
      (fun j u hj => by
        have hlt := (List.getElem?_eq_some_iff.1 hj).1
        rw [hdl] at hlt
        rw [List.getElem?_drop] at hj
        rw [Addr.add_lit, hp (by omega), hownd.cellAt _ (by omega)]; exact hj)
      (fun u hu => h1c u (List.mem_of_mem_drop hu)) (by omega)
      (fun j hj => by rw [hdl] at hj; simpa using (row_there hownd 0 (n * 10) (by omega) j (by omega)).1)
      (fun j hj => hownd.frozenAt _)
    simpa using this
  have hr1 := row_setCells (w := w) (xs.drop 10) 0 _ _ hownd
  obtain ⟨W1, hW1⟩ : ∃ W1, W1 = w.drew.setCells g 0 (xs.drop 10) := ⟨_, rfl⟩
  have o1 : Only w.drew W1 [g] := by rw [hW1]; exact only_setCells _ _ _
  rw [← hW1] at hr1 happ
  clear hW1
  obtain ⟨vs, hvs, hcl⟩ := run_clear_recs (P := Try.prog) W1 42 40 0 (.agg (bc b0).toArray) 10 Try.underlying42 (fun _ => by kernel_rfl) rfl (bc_one b0) g ((n - 1) * 10) 1 (c - (n - 1)) (by decide) (by decide) (row_there hr1 ((n - 1) * 10) (1 * 10) (by omega))
  have hr2 := row_setCells (w := w) vs ((n - 1) * 10) _ _ hr1
  have hr3 := row_head hr2 (show n - 1 ≤ n by omega)
  rw [setL_take _ _ _ _ (Nat.le_refl _), setL_head _ _ (by rw [hdl, hxl]; omega), List.take_append_of_le_length (by omega), List.take_of_length_le (by omega)] at hr3
  have sF : Sep w0 (W1.setCells g ((n - 1) * 10) vs) (row 40 10 (.slice (some ⟨g, 0, none⟩) (n - 1) c) (n - 1) (xs.drop 10) :: rs) :=
    h.step (L := [g]) (((Only.drew w [g]).trans o1).trans (only_setCells _ _ _)) (fun k hk => .inl (by simpa [row, Value.ownBlock] using hk)) hr3 (fun k hk => .inl (by simpa [row, Value.ownBlock] using hk))
  have hpc : ¬ (c = n - 1) := by omega
  have h0c : ¬ (c = 0) := by omega
  have hnI : (1 : Int) ≤ (n : Int) := by omega
  have hm1 : ((n - 1 : Nat) : Int) ≤ n := by omega
  have hsub : n - (n - 1) = 1 := by omega
  clear h hown hownd hr1 hr2 hr3 o1 hvs
  by_cases hc1 : c = 1
  · obtain rfl : c = 1 := hc1
    obtain rfl : n = 1 := by omega
    have ha := happ 0 0 42 (by omega)
    clear happ
    go_enter Try.func33, Try.ntmps33
    go_wp2_with fail
    go_region_law (refine step_append_run2 rfl _ _ 42 42 rfl _ _ (by simp [Act.eval, Act.put]) (by simp [Act.eval, Act.put]) ha ?_)
    go_wp2_with fail
    go_ret
    exact ⟨rfl, sF⟩
  · have ha := happ 10 (c - 1) 42 (fun _ => rfl)
    clear happ
    go_enter Try.func33, Try.ntmps33
    go_wp2_with fail
    go_region_law (refine step_append_run2 rfl _ _ 42 42 rfl _ _ (by simp [Act.eval, Act.put]) (by simp [Act.eval, Act.put]) ha ?_)
    go_wp2_with fail
    go_ret
    exact ⟨rfl, sF⟩
end Go.Proofs.Yteljkfihmbddaaa

/- Bundles with a prekey for once, Take, Left of layer 17 (registry). Printed by gen_rgt.py. -/
namespace Go.Pw
open Go.RowKit
set_option linter.unusedVariables false
theorem wpList_store_cell {P : Program} {ops : Array Oper} {rest : List Oper} {op : Oper} {a : Act} {w : World} {Q : Exit → Act → World → Prop} (hgd : op.guard = none) (ty : TypeId) (x y : Operand) (ho : op.op = .store ty x y)
    (b i : Nat) (v : Value) (hx : a.eval x = .pointer (some ⟨b, i, none⟩)) (hy : a.eval y = v) (hv : v.cells = #[v]) {old : List Value} {T : TypeId} (hc : w.heap[b]? = some (.cells old.toArray T (0, 0))) (hlt : i < old.length)
    (hs : (P.info? ty).map (·.size) = some 1) (h1 : v.oneCell' = true)
    (h : ∀ w', Only w w' [b] → w'.heap[b]? = some (.cells (old.set i v).toArray T (0, 0)) → wpList P ops Q rest (a.put op.dst undef) w') : wpList P ops Q (op :: rest) a w :=
  wpList_plain hgd fun K hK => by
    have hst := run_storeCells_cells (P := P) b i [v] 0 w (fun j hj => by simp at hj; subst hj; rw [Pw.cell_in hc]; simp [hlt]) (fun j hj => free_in hc _) (by simpa using h1)
    have hsv : (storeVar ty ⟨b, i, none⟩ v).run P w = .ok () (w.setCells b i [v]) := by
      cases hq : P.info? ty with
      | none => simp [hq] at hs
      | some inf =>
        have hz : inf.size = 1 := by simpa [hq] using hs
        simp only [Nat.add_zero] at hst
        simp [storeVar, sizeOf, typeInfo, hq, hv, hz, hst]
    unfold Oper.wp execOp
    simp only [ho, hx, hy, Instr.storeAt, Instr.sureAddr, Sem.run_bind, Sem.run_pure, Result.andThen_ok, hsv]
    refine hK _ _ (h _ (only_setCells _ _ _) ?_)
    rw [setCells_block _ _ _ _ hc]
    rfl
end Go.Pw
namespace Go.Proofs.Yteljkfihmbddaaa
open Go.RowKit Go.Pw
set_option linter.unusedVariables false

set_option maxRecDepth 100000 in
set_option maxHeartbeats 1200000 in
theorem bundle_yes (u d n : Int) (h0 : 0 ≤ n) (h1 : n < 256) (w : World) : Calls Try.prog 13 #[wv u d, .int .u8 n, .bool true] w (Bund u d n true w) := by
  simp only [wv]
  have e1 : IntKind.u32.wrap n = n := by simp [IntKind.wrap, IntKind.bits, IntKind.signed]; omega
  have h1c : ∀ s : Nat, ([.int .i64 u, .int .i64 d, .slice (some ⟨s, 0, none⟩) 2 2, .slice (some ⟨s + 1, 0, none⟩) 1 1, .int .u32 n, .slice (some ⟨s + 1 + 1, 0, none⟩) 1 1, .slice (some ⟨s + 1 + 1 + 1, 0, none⟩) 3 3, .bool true, .int .u32 0, .slice none 0 0] : List Value).toArray.all (·.oneCell') = true := by simp [Value.oneCell']
  have h2c : ∀ s t : Nat, ([.int .i64 u, .int .i64 d, .slice (some ⟨s, 0, none⟩) 2 2, .slice (some ⟨s + 1, 0, none⟩) 1 1, .int .u32 n, .slice (some ⟨s + 1 + 1, 0, none⟩) 1 1, .slice (some ⟨s + 1 + 1 + 1, 0, none⟩) 3 3, .bool true, .int .u32 n, .slice (some ⟨t, 0, none⟩) 2 2] : List Value).toArray.all (·.oneCell') = true := by simp [Value.oneCell']
  go_enter Try.func13, Try.ntmps13
  go_wp2_with (first
    | (refine wpList_box_new rfl 30 _ rfl (.agg #[.int .i64 u, .int .i64 d]) rfl ?_; intro Z wZ oZ hZl hZ)
    | (refine wpList_convert_const rfl _ 22 5 rfl rfl (by simp) Try.underlying22 Try.underlying5 ?_)
    | (have hQ := hX; refine wpList_alloc_new rfl 40 rfl (.agg (bc b0).toArray) (fun _ => by kernel_rfl) ?_; intro Y wY oY hYl hY; clear hQ; have hc := h1c wX.heap.size; have oXY : Only wX wY [] := Only.trans (((((Only.alloc _ _ _).trans (Only.alloc _ _ _)).trans (Only.alloc _ _ _)).trans (Only.alloc _ _ _))) oY; have hX2 := oXY.at hX (by simp); have hYX : wX.heap.size ≤ Y := by simp at hYl; omega)
    | (refine wpList_alloc_new rfl 40 rfl (.agg (bc b0).toArray) (fun _ => by kernel_rfl) ?_; intro X wX oX hXl hX; have hZX := oX.at hZ (by simp); have hz0 := cell_two0 hZX; have hz1 := cell_two1 hZX)
    | (refine wpList_store_blk rfl 40 _ _ rfl Y [.int .i64 u, .int .i64 d, .slice (some ⟨wX.heap.size, 0, none⟩) 2 2, .slice (some ⟨wX.heap.size + 1, 0, none⟩) 1 1, .int .u32 n, .slice (some ⟨wX.heap.size + 1 + 1, 0, none⟩) 1 1, .slice (some ⟨wX.heap.size + 1 + 1 + 1, 0, none⟩) 3 3, .bool true, .int .u32 0, .slice none 0 0] rfl rfl hY rfl (by kernel_rfl) hc ?_; intro wU oU hU; have hX3 := oU.at hX2 (by simp; have := (Array.getElem?_eq_some_iff.1 hX).1; omega); have oF := (oZ.trans oX).trans (oXY.new oU (fun i hi => by simp only [List.mem_singleton] at hi; omega)); clear hY hc hX2)
    | (refine wpList_store_cell rfl 38 _ _ rfl Y 8 (.int .u32 n) rfl rfl rfl hU (by simp) (by kernel_rfl) rfl ?_; intro w8 o8 h8; have hX4 := o8.at hX3 (by simp; have := (Array.getElem?_eq_some_iff.1 hX).1; omega); have oF8 := oF.new o8 (fun i hi => by simp only [List.mem_singleton] at hi; have := oZ.size; have := oX.size; omega); clear hU hX3 oF)
    | (refine wpList_store_cell rfl 22 _ _ rfl Y 9 (.slice (some ⟨w8.heap.size, 0, none⟩) 2 2) rfl rfl rfl ((Only.alloc _ _ []).at h8 (by simp)) (by simp) (by kernel_rfl) rfl ?_; intro w9 o9 h9; have hX5 := o9.at ((Only.alloc _ _ []).at hX4 (by simp)) (by simp; have := (Array.getElem?_eq_some_iff.1 hX).1; omega); have oF9 := (oF8.trans (Only.alloc _ _ [])).new o9 (fun i hi => by simp only [List.mem_singleton] at hi; have := oZ.size; have := oX.size; omega); have h9' : w9.heap[Y]? = some (.cells ([.int .i64 u, .int .i64 d, .slice (some ⟨wX.heap.size, 0, none⟩) 2 2, .slice (some ⟨wX.heap.size + 1, 0, none⟩) 1 1, .int .u32 n, .slice (some ⟨wX.heap.size + 1 + 1, 0, none⟩) 1 1, .slice (some ⟨wX.heap.size + 1 + 1 + 1, 0, none⟩) 3 3, .bool true, .int .u32 n, .slice (some ⟨w8.heap.size, 0, none⟩) 2 2] : List Value).toArray 40 (0, 0)) := h9; have hc2 := h2c wX.heap.size w8.heap.size; clear h8 hX4 oF8 h9)
    | (refine wpList_load_blk rfl 40 _ rfl Y rfl [.int .i64 u, .int .i64 d, .slice (some ⟨wX.heap.size, 0, none⟩) 2 2, .slice (some ⟨wX.heap.size + 1, 0, none⟩) 1 1, .int .u32 n, .slice (some ⟨wX.heap.size + 1 + 1, 0, none⟩) 1 1, .slice (some ⟨wX.heap.size + 1 + 1 + 1, 0, none⟩) 3 3, .bool true, .int .u32 n, .slice (some ⟨w8.heap.size, 0, none⟩) 2 2] _ h9' Try.underlying40 (by rfl) (by kernel_rfl) ?_)
    | (refine wpList_store_blk rfl 40 _ _ rfl X [.int .i64 u, .int .i64 d, .slice (some ⟨wX.heap.size, 0, none⟩) 2 2, .slice (some ⟨wX.heap.size + 1, 0, none⟩) 1 1, .int .u32 n, .slice (some ⟨wX.heap.size + 1 + 1, 0, none⟩) 1 1, .slice (some ⟨wX.heap.size + 1 + 1 + 1, 0, none⟩) 3 3, .bool true, .int .u32 n, .slice (some ⟨w8.heap.size, 0, none⟩) 2 2] rfl rfl hX5 rfl (by kernel_rfl) hc2 ?_; intro wV oV hV; have oG := oF9.new oV (fun i hi => by simp only [List.mem_singleton] at hi; have := oZ.size; omega)))
  have d0 : wV.cell? ⟨X, 0, none⟩ = some (.int .i64 u) := cell_in hV 0
  have d1 : wV.cell? ⟨X, 1, none⟩ = some (.int .i64 d) := cell_in hV 1
  have d2 : wV.cell? ⟨X, 2, none⟩ = some (.slice (some ⟨wX.heap.size, 0, none⟩) 2 2) := cell_in hV 2
  have d3 : wV.cell? ⟨X, 3, none⟩ = some (.slice (some ⟨wX.heap.size + 1, 0, none⟩) 1 1) := cell_in hV 3
  have d4 : wV.cell? ⟨X, 4, none⟩ = some (.int .u32 n) := cell_in hV 4
  have d5 : wV.cell? ⟨X, 5, none⟩ = some (.slice (some ⟨wX.heap.size + 1 + 1, 0, none⟩) 1 1) := cell_in hV 5
  have d6 : wV.cell? ⟨X, 6, none⟩ = some (.slice (some ⟨wX.heap.size + 1 + 1 + 1, 0, none⟩) 3 3) := cell_in hV 6
  have d7 : wV.cell? ⟨X, 7, none⟩ = some (.bool true) := cell_in hV 7
  have d8 : wV.cell? ⟨X, 8, none⟩ = some (.int .u32 n) := cell_in hV 8
  have d9 : wV.cell? ⟨X, 9, none⟩ = some (.slice (some ⟨w8.heap.size, 0, none⟩) 2 2) := cell_in hV 9
  clear hV hX5 hX hZ hZX oXY oF9 h9'
  refine bodyPost_ret (v := .agg #[.int .i64 u, .int .i64 d, .slice (some ⟨wX.heap.size, 0, none⟩) 2 2, .slice (some ⟨wX.heap.size + 1, 0, none⟩) 1 1, .int .u32 n, .slice (some ⟨wX.heap.size + 1 + 1, 0, none⟩) 1 1, .slice (some ⟨wX.heap.size + 1 + 1 + 1, 0, none⟩) 3 3, .bool true, .int .u32 n, .slice (some ⟨w8.heap.size, 0, none⟩) 2 2]) (by simp [results, Try.results13, go_sem, d0, d1, d2, d3, d4, d5, d6, d7, d8, d9]) rfl ?_
  exact ⟨⟨u, d, .slice (some ⟨wX.heap.size, 0, none⟩) 2 2, .slice (some ⟨wX.heap.size + 1, 0, none⟩) 1 1, n, .slice (some ⟨wX.heap.size + 1 + 1, 0, none⟩) 1 1, .slice (some ⟨wX.heap.size + 1 + 1 + 1, 0, none⟩) 3 3, true, n, .slice (some ⟨w8.heap.size, 0, none⟩) 2 2, by simp [Value.oneCell']⟩, rfl, oG, rfl, rfl, rfl, rfl, rfl⟩
end Go.Proofs.Yteljkfihmbddaaa

/- Take, Left of layer 17 (registry). Printed by gen_rgu.py. -/
namespace Go.Proofs.Yteljkfihmbddaaa
open Go.RowKit Go.Pw
set_option linter.unusedVariables false

set_option maxRecDepth 100000 in
set_option maxHeartbeats 1200000 in
theorem take_last {w0 : World} {rs : List Res} (B : Nat) (l : List Li) (v : Value) (u d : Int) (k : Nat) (x : Li) (w : World) (h : Sep w0 w (regR B v l rs)) (hl : l.length ≤ 1000000) (hr : Rise l)
    (hf : foundL l u d = true) (hp : placeL l u d = k) (hk : k < l.length) (hx : l[k] = x) (hon : x.on = true) (hos : x.os = []) :
    Calls Try.prog 14 #[.pointer (some ⟨B, 0, none⟩), wv u d] w fun e w' => e = .returned (.tuple #[.agg (bc x.b).toArray, .int .i64 0]) ∧ Only w w' [] := by
  obtain ⟨ao, c, rfl⟩ := own_slice (show w.ownsRow 0 _ 14 v l.length (fl lc l) from h.head)
  obtain ⟨g, rfl, _⟩ := own_some (show w.ownsRow 0 _ 14 (.slice ao l.length c) l.length (fl lc l) from h.head) (by omega)
  have Hfind := fun (w' : World) (o : Only w w' []) => find_any B l _ u d w' (h.quiet o) hl hr
  rw [hf, hp] at Hfind
  simp only [wv] at *
  clear hf hp hr
  have hlrow : ∀ w' : World, w'.ownsRow 0 76 14 (.slice (some ⟨g, 0, none⟩) l.length c) l.length (fl lc l) → w'.cell? ⟨g, k * 14 + 2, none⟩ = some (.bool true) ∧ w'.cell? ⟨g, k * 14 + 13, none⟩ = some x.v ∧ w'.rangeAt g (k * 14 + 3) (bc x.b) := fun w' h' => by
    refine ⟨?_, rec_cell lc_len h' hk 13 (by rw [hx]; rfl), fun j v hj => ?_⟩
    · have := rec_cell lc_len h' hk 2 (v := .bool l[k].on) rfl
      rw [hx, hon] at this
      exact this
    · rw [Nat.add_assoc]
      refine rec_cell lc_len h' hk (3 + j) ?_
      rw [hx, lc, Nat.add_comm]
      simp only [List.getElem?_cons_succ]
      rw [List.getElem?_append_left (List.getElem?_eq_some_iff.1 hj).1]
      exact hj
  have hkI : (k : Int) < l.length := by omega
  have hpk : (l.map ow)[k]? = some (ow x) := by rw [List.getElem?_map, List.getElem?_eq_getElem hk, hx]; rfl
  have howk : (ow x).ok w := many_ok (h.sel 3 [2]).head (List.mem_of_getElem? hpk)
  obtain ⟨av, cv, hv⟩ := own_slice (show w.ownsRow 0 40 10 x.v x.os.length (fl bc x.os) from howk)
  rw [hos] at hv
  rw [hv] at hlrow
  have hlb := bc_len x.b
  have h1b := bc_arr x.b
  clear howk hos hpk
  go_enter Try.func14, Try.ntmps14
  go_wp2_with (first
    | (refine wpList_box_new rfl 30 _ rfl (.agg #[.int .i64 u, .int .i64 d]) rfl ?_; intro Z wZ oZ hZl hZ)
    | (refine wpList_alloc_new rfl 40 rfl (.agg (bc b0).toArray) (fun _ => by kernel_rfl) ?_; intro X wX oX hXl hX; have hZX := oX.at hZ (by simp); have hz0 := cell_two0 hZX; have hz1 := cell_two1 hZX))
  refine (Hfind _ (oZ.trans oX)).mono ?_
  rintro e w1 ⟨rfl, o1⟩
  have hX1 := o1.at hX (by simp)
  have oA := (oZ.trans oX).trans o1
  have hXw : w.heap.size ≤ X := Nat.le_trans oZ.size hXl
  have s1 := h.quiet oA
  obtain ⟨c2, c13, hrg⟩ := hlrow w1 s1.head
  have hBc := cell_of_one s1.tail.head
  clear hz0 hz1 hX hZX oX oZ Hfind
  go_wp2_with (first
    | (refine wpList_load_mid rfl 40 _ rfl g (k * 14 + 3) rfl (bc x.b) _ hrg Try.underlying40 (by rfl) (by rw [hlb]; kernel_rfl) ?_)
    | (refine wpList_store_blk rfl 40 _ _ rfl X (bc x.b) rfl rfl hX1 rfl (by rw [hlb]; kernel_rfl) h1b ?_; intro wV oV hV; have oF := oA.new oV (fun i hi => by simp only [List.mem_singleton] at hi; omega)))
  have d0 : wV.cell? ⟨X, 0, none⟩ = some (.int .i64 x.b.u) := cell_in hV 0
  have d1 : wV.cell? ⟨X, 1, none⟩ = some (.int .i64 x.b.d) := cell_in hV 1
  have d2 : wV.cell? ⟨X, 2, none⟩ = some (x.b.s1) := cell_in hV 2
  have d3 : wV.cell? ⟨X, 3, none⟩ = some (x.b.s2) := cell_in hV 3
  have d4 : wV.cell? ⟨X, 4, none⟩ = some (.int .u32 x.b.sg) := cell_in hV 4
  have d5 : wV.cell? ⟨X, 5, none⟩ = some (x.b.s3) := cell_in hV 5
  have d6 : wV.cell? ⟨X, 6, none⟩ = some (x.b.s4) := cell_in hV 6
  have d7 : wV.cell? ⟨X, 7, none⟩ = some (.bool x.b.has) := cell_in hV 7
  have d8 : wV.cell? ⟨X, 8, none⟩ = some (.int .u32 x.b.on) := cell_in hV 8
  have d9 : wV.cell? ⟨X, 9, none⟩ = some (x.b.s5) := cell_in hV 9
  clear hV hX1 hrg
  refine bodyPost_ret (v := .tuple #[.agg (bc x.b).toArray, .int .i64 0]) (by simp [results, Try.results14, go_sem, d0, d1, d2, d3, d4, d5, d6, d7, d8, d9]; try rfl) rfl ?_
  exact ⟨rfl, oF⟩

/-- What Take leaves: the oldest prekey for once is there no more. -/
def Took (w0 : World) (rs : List Res) (B : Nat) (v : Value) (l : List Li) (k : Nat) (x : Li) (b : Bu) (os : List Bu) (e : Ending) (w' : World) : Prop :=
  e = .returned (.tuple #[.agg (bc b).toArray, .int .i64 0]) ∧ ∃ x' : Li, x'.u = x.u ∧ x'.d = x.d ∧ x'.on = true ∧ x'.b = x.b ∧ x'.os = os ∧ Sep w0 w' (regR B v (l.set k x') rs)

set_option maxRecDepth 100000 in
set_option maxHeartbeats 1200000 in
theorem take_once {w0 : World} {rs : List Res} (B : Nat) (l : List Li) (v : Value) (u d : Int) (k : Nat) (x : Li) (w : World) (h : Sep w0 w (regR B v l rs)) (hl : l.length ≤ 1000000) (hr : Rise l)
    (hf : foundL l u d = true) (hp : placeL l u d = k) (hk : k < l.length) (hx : l[k] = x) (hon : x.on = true) (b : Bu) (os : List Bu) (hos : x.os = b :: os) (hol : os.length ≤ 900) (hw0 : w0.heap.size ≤ w.heap.size) :
    Calls Try.prog 14 #[.pointer (some ⟨B, 0, none⟩), wv u d] w (Took w0 rs B v l k x b os) := by
  obtain ⟨ao, c, rfl⟩ := own_slice (show w.ownsRow 0 _ 14 v l.length (fl lc l) from h.head)
  obtain ⟨g, rfl, _⟩ := own_some (show w.ownsRow 0 _ 14 (.slice ao l.length c) l.length (fl lc l) from h.head) (by omega)
  have Hfind := fun (w' : World) (o : Only w w' []) => find_any B l _ u d w' (h.quiet o) hl hr
  rw [hf, hp] at Hfind
  simp only [wv] at *
  clear hf hp hr
  have hlrow : ∀ w' : World, w'.ownsRow 0 76 14 (.slice (some ⟨g, 0, none⟩) l.length c) l.length (fl lc l) → w'.cell? ⟨g, k * 14 + 2, none⟩ = some (.bool true) ∧ w'.cell? ⟨g, k * 14 + 13, none⟩ = some x.v ∧ w'.rangeAt g (k * 14 + 3) (bc x.b) := fun w' h' => by
    refine ⟨?_, rec_cell lc_len h' hk 13 (by rw [hx]; rfl), fun j v hj => ?_⟩
    · have := rec_cell lc_len h' hk 2 (v := .bool l[k].on) rfl
      rw [hx, hon] at this
      exact this
    · rw [Nat.add_assoc]
      refine rec_cell lc_len h' hk (3 + j) ?_
      rw [hx, lc, Nat.add_comm]
      simp only [List.getElem?_cons_succ]
      rw [List.getElem?_append_left (List.getElem?_eq_some_iff.1 hj).1]
      exact hj
  have hkI : (k : Int) < l.length := by omega
  have hpk : (l.map ow)[k]? = some (ow x) := by rw [List.getElem?_map, List.getElem?_eq_getElem hk, hx]; rfl
  have howk : (ow x).ok w := many_ok (h.sel 3 [2]).head (List.mem_of_getElem? hpk)
  obtain ⟨av, cv, hv⟩ := own_slice (show w.ownsRow 0 40 10 x.v x.os.length (fl bc x.os) from howk)
  obtain ⟨gv, rfl, _⟩ := own_some (show w.ownsRow 0 40 10 (.slice av x.os.length cv) x.os.length (fl bc x.os) from by rw [← hv]; exact howk) (by rw [hos]; simp)
  have hol1 : x.os.length = os.length + 1 := by rw [hos]; rfl
  rw [hv, hol1] at hlrow
  have hlb := bc_len b
  have h1b := bc_arr b
  have hd10 : (fl bc x.os).drop 10 = fl bc os := by rw [hos, fl_cons, List.drop_append_of_le_length (by rw [bc_len]; exact Nat.le_refl _), List.drop_of_length_le (by rw [bc_len]; exact Nat.le_refl _), List.nil_append]
  have hone : ∀ u ∈ fl bc x.os, u.oneCell' = true := fl_one bc_one _
  have hvn : (Value.slice (some ⟨gv, 0, none⟩) os.length cv).oneCell' = true := rfl
  obtain ⟨x', hx'⟩ : ∃ x' : Li, x' = { x with v := .slice (some ⟨gv, 0, none⟩) os.length cv, os := os, ok := rfl } := ⟨_, rfl⟩
  have hset : setL (fl lc l) (k * 14 + 13) [.slice (some ⟨gv, 0, none⟩) os.length cv] = fl lc (l.set k x') := fl_cells lc_len hk 13 [.slice (some ⟨gv, 0, none⟩) os.length cv] (by simp) x' (by rw [hx', hx]; rfl)
  have hmany : (l.map ow).set k (ow x') = (l.set k x').map ow := by rw [List.map_set]
  have hox : ow x' = row 40 10 (.slice (some ⟨gv, 0, none⟩) os.length cv) os.length (fl bc os) := by rw [hx']; rfl
  have hx5 : x'.u = x.u ∧ x'.d = x.d ∧ x'.on = true ∧ x'.b = x.b ∧ x'.os = os := by rw [hx']; exact ⟨rfl, rfl, hon, rfl, rfl⟩
  have Hx5 := Lib.hid hx5
  have Hset := Lib.hid hset
  have Hmany := Lib.hid hmany
  have Hox := Lib.hid hox
  have hfll : (fl lc l).length = l.length * 14 := fl_len lc_len l
  clear hx' hset hmany hox hx5 howk
  have hpick : ∀ rs' w', Sep w0 w' (regR B (.slice (some ⟨g, 0, none⟩) l.length c) l rs') → Sep w0 w' (row 40 10 (.slice (some ⟨gv, 0, none⟩) (os.length + 1) cv) (os.length + 1) (fl bc x.os) :: many ((l.map ow).eraseIdx k) :: row 76 14 (.slice (some ⟨g, 0, none⟩) l.length c) l.length (fl lc l) :: blk B [.slice (some ⟨g, 0, none⟩) l.length c] 72 :: rs') := fun rs' w' h' => by
    have := (h'.sel 3 [2, 0, 1]).pick k hpk
    rw [← hol1, ← hv]
    exact this
  have hrow0 : ∀ rs' w', Sep w0 w' (regR B (.slice (some ⟨g, 0, none⟩) l.length c) l rs') → w'.rangeAt gv 0 (bc b) := fun rs' w' h' => by
    have hq := (hpick rs' w' h').head
    rw [← hol1] at hq
    have := rec_range bc_len (show w'.ownsRow 0 40 10 (.slice (some ⟨gv, 0, none⟩) x.os.length cv) x.os.length (fl bc x.os) from hq) (m := 0) (by omega)
    simp only [Nat.zero_mul] at this
    have e : x.os[0]'(by omega) = b := by simp [hos]
    rw [e] at this
    exact this
  go_enter Try.func14, Try.ntmps14
  go_wp2_with (first
    | (refine wpList_box_new rfl 30 _ rfl (.agg #[.int .i64 u, .int .i64 d]) rfl ?_; intro Z wZ oZ hZl hZ)
    | (refine wpList_alloc_new rfl 40 rfl (.agg (bc b0).toArray) (fun _ => by kernel_rfl) ?_; intro X wX oX hXl hX; have hZX := oX.at hZ (by simp); have hz0 := cell_two0 hZX; have hz1 := cell_two1 hZX))
  have sX := (h.quiet oZ).add (b := blk X (bc b0) 40) oX hX (fun k hk => by simp [blk] at hk; omega)
  refine (Hfind _ (oZ.trans oX)).mono ?_
  rintro e w1 ⟨rfl, o1⟩
  have s1 : Sep w0 w1 (regR B (.slice (some ⟨g, 0, none⟩) l.length c) l (blk X (bc b0) 40 :: rs)) := (sX.quiet o1).sel 4 [1, 2, 3, 0]
  obtain ⟨c2, c13, hrg⟩ := hlrow w1 s1.head
  have hBc := cell_of_one s1.tail.head
  have hr0 := hrow0 _ w1 s1
  clear hz0 hz1 hX hZX oX oZ Hfind sX h hZ o1
  go_wp2_with (first
    | (refine wpList_load_mid rfl 40 _ rfl gv 0 rfl (bc b) _ hr0 Try.underlying40 (by rfl) (by rw [hlb]; kernel_rfl) ?_)
    | (refine wpList_alloc_new rfl 40 rfl (.agg (bc b0).toArray) (fun _ => by kernel_rfl) ?_; intro Y wY oY hYl hY)
    | (refine wpList_store_blk rfl 40 _ _ rfl Y (bc b) rfl rfl hY rfl (by rw [hlb]; kernel_rfl) h1b ?_; intro wU oU hU; have s2 := s1.add (b := blk Y (bc b) 40) (oY.new oU (fun i hi => by simp only [List.mem_singleton] at hi; omega)) hU (fun k hk => by simp [blk] at hk; omega); have c13' := (hlrow wU (s2.sel 2 [1]).head).2.1; clear c2 c13 hrg hBc s1 oY oU hY hr0 hU))
  have s3 : Sep w0 wU (regR B (.slice (some ⟨g, 0, none⟩) l.length c) l (blk X (bc b0) 40 :: blk Y (bc b) 40 :: rs)) := s2.sel 5 [1, 2, 3, 4, 0]
  have q3 := hpick _ wU s3
  clear s2 s3
  refine (delete_front gv (os.length + 1) cv (fl bc x.os) wU q3 (by omega) (by omega) hone).mono ?_
  rw [hd10]
  rintro e w3 ⟨rfl, q4⟩
  simp only [Nat.add_sub_cancel] at q4
  rw [Nat.add_sub_cancel]
  have hln : w3.ownsRow 0 76 14 (.slice (some ⟨g, 0, none⟩) l.length c) l.length (fl lc l) := (q4.sel 3 [2]).head
  have c13 := (hlrow w3 hln).2.1
  have f13 := hln.frozenAt (k * 14 + 13)
  have s5 := (q4.sel 3 [2, 0, 1]).puts (k * 14 + 13) [.slice (some ⟨gv, 0, none⟩) os.length cv]
  rw [Hset.out] at s5
  have hY5 : (w3.setCell ⟨g, k * 14 + 13, none⟩ (.slice (some ⟨gv, 0, none⟩) os.length cv)).heap[Y]? = some (.cells (bc b).toArray 40 (0, 0)) := (s5.sel 6 [5]).head
  have hX5 : (w3.setCell ⟨g, k * 14 + 13, none⟩ (.slice (some ⟨gv, 0, none⟩) os.length cv)).heap[X]? = some (.cells (bc b0).toArray 40 (0, 0)) := (s5.sel 5 [4]).head
  clear c13' q3 q4 hln
  go_wp2_with (first
    | (refine wpList_load_blk rfl 40 _ rfl Y rfl (bc b) _ hY5 Try.underlying40 (by rfl) (by rw [hlb]; kernel_rfl) ?_)
    | (refine wpList_store_blk rfl 40 _ _ rfl X (bc b) rfl rfl hX5 rfl (by rw [hlb]; kernel_rfl) h1b ?_; intro wV oV hV))
  have s6 : Sep w0 wV (blk X (bc b) 40 :: row 76 14 (.slice (some ⟨g, 0, none⟩) l.length c) l.length (fl lc (l.set k x')) :: row 40 10 (.slice (some ⟨gv, 0, none⟩) os.length cv) os.length (fl bc os) :: many ((l.map ow).eraseIdx k) :: blk B [.slice (some ⟨g, 0, none⟩) l.length c] 72 :: blk Y (bc b) 40 :: rs) :=
    (s5.sel 6 [4, 0, 1, 2, 3, 5]).step (L := [X]) oV (fun k hk => .inl (by simpa [blk] using hk)) hV (fun k hk => .inl (by simpa [blk] using hk))
  have q7 : Sep w0 wV (ow x' :: many ((l.map ow).eraseIdx k) :: row 76 14 (.slice (some ⟨g, 0, none⟩) l.length c) l.length (fl lc (l.set k x')) :: blk B [.slice (some ⟨g, 0, none⟩) l.length c] 72 :: rs) := by
    rw [Hox.out]
    exact s6.sel 6 [2, 3, 1, 4]
  have q8 := q7.putk k (by simpa using hk)
  rw [Hmany.out] at q8
  have q9 : Sep w0 wV (regR B (.slice (some ⟨g, 0, none⟩) l.length c) (l.set k x') rs) := by
    simp only [regR]
    rw [List.length_set]
    exact q8.sel 3 [1, 2, 0]
  have d0 : wV.cell? ⟨X, 0, none⟩ = some (.int .i64 b.u) := cell_in hV 0
  have d1 : wV.cell? ⟨X, 1, none⟩ = some (.int .i64 b.d) := cell_in hV 1
  have d2 : wV.cell? ⟨X, 2, none⟩ = some (b.s1) := cell_in hV 2
  have d3 : wV.cell? ⟨X, 3, none⟩ = some (b.s2) := cell_in hV 3
  have d4 : wV.cell? ⟨X, 4, none⟩ = some (.int .u32 b.sg) := cell_in hV 4
  have d5 : wV.cell? ⟨X, 5, none⟩ = some (b.s3) := cell_in hV 5
  have d6 : wV.cell? ⟨X, 6, none⟩ = some (b.s4) := cell_in hV 6
  have d7 : wV.cell? ⟨X, 7, none⟩ = some (.bool b.has) := cell_in hV 7
  have d8 : wV.cell? ⟨X, 8, none⟩ = some (.int .u32 b.on) := cell_in hV 8
  have d9 : wV.cell? ⟨X, 9, none⟩ = some (b.s5) := cell_in hV 9
  clear hV hX5 hY5 s5 s6 q7 q8 c13 f13
  refine bodyPost_ret (v := .tuple #[.agg (bc b).toArray, .int .i64 0]) (by simp [results, Try.results14, go_sem, d0, d1, d2, d3, d4, d5, d6, d7, d8, d9]; try rfl) rfl ?_
  exact ⟨rfl, x', Hx5.out.1, Hx5.out.2.1, Hx5.out.2.2.1, Hx5.out.2.2.2.1, Hx5.out.2.2.2.2, q9⟩

set_option maxRecDepth 100000 in
set_option maxHeartbeats 1200000 in
theorem left_any {w0 : World} {rs : List Res} (B : Nat) (l : List Li) (v : Value) (u d : Int) (k : Nat) (x : Li) (w : World) (h : Sep w0 w (regR B v l rs)) (hl : l.length ≤ 1000000) (hr : Rise l)
    (hf : foundL l u d = true) (hp : placeL l u d = k) (hk : k < l.length) (hx : l[k] = x) (hon : x.on = true) :
    Calls Try.prog 15 #[.pointer (some ⟨B, 0, none⟩), wv u d] w fun e w' => e = .returned (.int .i64 x.os.length) ∧ Only w w' [] := by
  obtain ⟨ao, c, rfl⟩ := own_slice (show w.ownsRow 0 _ 14 v l.length (fl lc l) from h.head)
  obtain ⟨g, rfl, _⟩ := own_some (show w.ownsRow 0 _ 14 (.slice ao l.length c) l.length (fl lc l) from h.head) (by omega)
  have Hfind := fun (w' : World) (o : Only w w' []) => find_any B l _ u d w' (h.quiet o) hl hr
  rw [hf, hp] at Hfind
  simp only [wv] at *
  clear hf hp hr
  have hlrow : ∀ w' : World, w'.ownsRow 0 76 14 (.slice (some ⟨g, 0, none⟩) l.length c) l.length (fl lc l) → w'.cell? ⟨g, k * 14 + 2, none⟩ = some (.bool true) ∧ w'.cell? ⟨g, k * 14 + 13, none⟩ = some x.v ∧ w'.rangeAt g (k * 14 + 3) (bc x.b) := fun w' h' => by
    refine ⟨?_, rec_cell lc_len h' hk 13 (by rw [hx]; rfl), fun j v hj => ?_⟩
    · have := rec_cell lc_len h' hk 2 (v := .bool l[k].on) rfl
      rw [hx, hon] at this
      exact this
    · rw [Nat.add_assoc]
      refine rec_cell lc_len h' hk (3 + j) ?_
      rw [hx, lc, Nat.add_comm]
      simp only [List.getElem?_cons_succ]
      rw [List.getElem?_append_left (List.getElem?_eq_some_iff.1 hj).1]
      exact hj
  have hkI : (k : Int) < l.length := by omega
  have hpk : (l.map ow)[k]? = some (ow x) := by rw [List.getElem?_map, List.getElem?_eq_getElem hk, hx]; rfl
  have howk : (ow x).ok w := many_ok (h.sel 3 [2]).head (List.mem_of_getElem? hpk)
  obtain ⟨av, cv, hv⟩ := own_slice (show w.ownsRow 0 40 10 x.v x.os.length (fl bc x.os) from howk)
  rw [hv] at hlrow
  clear howk hpk
  have oZ := Only.alloc w (.cells #[.int .i64 u, .int .i64 d] 30) []
  go_enter Try.func15, Try.ntmps15
  go_wp2_with fail
  refine (Hfind _ oZ).mono ?_
  rintro e w1 ⟨rfl, o1⟩
  have s1 := h.quiet (oZ.trans o1)
  obtain ⟨c2, c13, hrg⟩ := hlrow w1 s1.head
  have hBc := cell_of_one s1.tail.head
  have oF := oZ.trans o1
  clear Hfind s1 o1 oZ hrg h
  go_wp2_with fail
  go_ret
  exact ⟨rfl, oF⟩
end Go.Proofs.Yteljkfihmbddaaa

