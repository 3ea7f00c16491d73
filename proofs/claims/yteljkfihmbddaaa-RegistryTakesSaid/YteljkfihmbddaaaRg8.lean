/- Add of layer 17 (registry). Printed by gen_rg8.py. -/
import Derived.Test.YteljkfihmbddaaaRg7
import Derived.Test.YteljkfihmbddaaaInsL
namespace Go.Proofs.Yteljkfihmbddaaa
open Go.RowKit Go.Pw
set_option linter.unusedVariables false

theorem cmpW_neg (u d u' d' : Int) : (cmpW u d u' d' < 0) ↔ (u < u' ∨ u = u' ∧ d < d') := by
  simp only [cmpW, orL, cmpI]
  repeat' split
  all_goals simp_all
  all_goals omega
def newL (u d : Int) : Li := ⟨u, d, true, b0, .slice none 0 0, [], rfl⟩
/-- A line is put in its place. -/
def insL (l : List Li) (x : Li) : List Li := l.take (placeL l x.u x.d) ++ x :: l.drop (placeL l x.u x.d)
theorem place_lt {l : List Li} {u d : Int} {i : Nat} (h : i < placeL l u d) : ∃ hi : i < l.length, cmpW l[i].u l[i].d u d < 0 := by
  have hl := place_le l u d
  refine ⟨by omega, ?_⟩
  have := List.not_of_lt_findIdx (p := fun r : Li => decide (0 ≤ cmpW r.u r.d u d)) (xs := l) (i := i) h
  simp at this
  omega
theorem place_ge {l : List Li} (hr : Rise l) {u d : Int} {i : Nat} (h : placeL l u d ≤ i) (hi : i < l.length) : ¬ cmpW l[i].u l[i].d u d < 0 := by
  intro hlt
  have hp : placeL l u d < l.length := by omega
  have h0 := List.findIdx_getElem (w := hp)
  have h1 : 0 ≤ cmpW l[placeL l u d].u l[placeL l u d].d u d := of_decide_eq_true h0
  by_cases e : placeL l u d = i
  · subst e; omega
  · have := hr u d (placeL l u d) i (by omega) hi hlt
    omega
theorem insL_len (l : List Li) (x : Li) : (insL l x).length = l.length + 1 := by
  have := place_le l x.u x.d
  simp [insL]
  omega
theorem insL_at (l : List Li) (x : Li) (i : Nat) (hi : i < (insL l x).length) : (i < placeL l x.u x.d ∧ ∃ h : i < l.length, (insL l x)[i] = l[i]) ∨ (i = placeL l x.u x.d ∧ (insL l x)[i] = x) ∨ (placeL l x.u x.d < i ∧ ∃ h : i - 1 < l.length, (insL l x)[i] = l[i - 1]) := by
  have hp := place_le l x.u x.d
  have hlen := insL_len l x
  have htl : (l.take (placeL l x.u x.d)).length = placeL l x.u x.d := by rw [List.length_take]; omega
  by_cases h1 : i < placeL l x.u x.d
  · refine .inl ⟨h1, by omega, ?_⟩
    simp only [insL]
    rw [List.getElem_append_left (by omega), List.getElem_take]
  · by_cases h2 : i = placeL l x.u x.d
    · refine .inr (.inl ⟨h2, ?_⟩)
      simp only [insL]
      rw [List.getElem_append_right (by omega)]
      simp [htl, h2]
    · refine .inr (.inr ⟨by omega, by omega, ?_⟩)
      simp only [insL]
      rw [List.getElem_append_right (by omega)]
      obtain ⟨j, hj⟩ : ∃ j, i - (l.take (placeL l x.u x.d)).length = j + 1 := ⟨i - placeL l x.u x.d - 1, by omega⟩
      simp only [hj, List.getElem_cons_succ, List.getElem_drop]
      congr 1
      omega
theorem rise_ins {l : List Li} (hr : Rise l) (x : Li) : Rise (insL l x) := by
  intro p q i j hi hj hlt
  have hlen := insL_len l x
  have hi' : i < (insL l x).length := by omega
  rcases insL_at l x j hj with ⟨h1, hj1, e1⟩ | ⟨h1, e1⟩ | ⟨h1, hj1, e1⟩
  · rcases insL_at l x i hi' with ⟨h2, hi2, e2⟩ | ⟨h2, e2⟩ | ⟨h2, hi2, e2⟩
    · rw [e1] at hlt; rw [e2]
      exact hr p q i j hi hj1 hlt
    · omega
    · omega
  · rcases insL_at l x i hi' with ⟨h2, hi2, e2⟩ | ⟨h2, e2⟩ | ⟨h2, hi2, e2⟩
    · rw [e1] at hlt; rw [e2]
      obtain ⟨_, h3⟩ := place_lt h2
      rw [cmpW_neg] at *
      omega
    · omega
    · omega
  · rcases insL_at l x i hi' with ⟨h2, hi2, e2⟩ | ⟨h2, e2⟩ | ⟨h2, hi2, e2⟩
    · rw [e1] at hlt; rw [e2]
      exact hr p q i (j - 1) (by omega) hj1 hlt
    · rw [e1] at hlt; rw [e2]
      have h3 := place_ge hr (u := x.u) (d := x.d) (i := j - 1) (by omega) hj1
      rw [cmpW_neg] at *
      omega
    · rw [e1] at hlt; rw [e2]
      exact hr p q (i - 1) (j - 1) (by omega) hj1 hlt
theorem place_ins (l : List Li) (x : Li) : placeL (insL l x) x.u x.d = placeL l x.u x.d := by
  have hlen := insL_len l x
  have hp := place_le l x.u x.d
  have hk : placeL l x.u x.d < (insL l x).length := by omega
  show List.findIdx _ _ = _
  rw [List.findIdx_eq hk]
  refine ⟨?_, fun j hj => ?_⟩
  · rcases insL_at l x _ hk with ⟨h2, _⟩ | ⟨_, e2⟩ | ⟨h2, _⟩
    · omega
    · rw [e2]
      have : ¬ cmpW x.u x.d x.u x.d < 0 := by rw [cmpW_neg]; omega
      simp only [decide_eq_true_eq]
      omega
    · omega
  · rcases insL_at l x j (by omega) with ⟨h2, hi2, e2⟩ | ⟨h2, _⟩ | ⟨h2, _⟩
    · rw [e2]
      obtain ⟨_, h3⟩ := place_lt h2
      simp only [decide_eq_false_iff_not]
      omega
    · omega
    · omega
theorem ins_at (l : List Li) (x : Li) : ∃ hk : placeL l x.u x.d < (insL l x).length, (insL l x)[placeL l x.u x.d] = x := by
  have hlen := insL_len l x
  have hp := place_le l x.u x.d
  have hk : placeL l x.u x.d < (insL l x).length := by omega
  refine ⟨hk, ?_⟩
  rcases insL_at l x _ hk with ⟨h2, _⟩ | ⟨_, e2⟩ | ⟨h2, _⟩
  · omega
  · exact e2
  · omega
theorem cmpW_self (u d : Int) : cmpW u d u d = 0 := by simp [cmpW, orL, cmpI]
theorem found_ins (l : List Li) (x : Li) : foundL (insL l x) x.u x.d = true := by
  obtain ⟨hk, e⟩ := ins_at l x
  unfold foundL
  rw [place_ins, List.getElem?_eq_getElem hk, e]
  simp [cmpW_self]
theorem fl_insL (l : List Li) (x : Li) : (fl lc l).take (placeL l x.u x.d * 14) ++ lc x ++ (fl lc l).drop (placeL l x.u x.d * 14) = fl lc (insL l x) := by
  rw [fl_take lc_len, fl_drop lc_len, insL, fl_app, fl_cons, List.append_assoc]

theorem add_nil (u d : Int) (vb : Value) (w : World) :
    Calls Try.prog 12 #[.pointer none, wv u d, vb] w fun e w' => e = .returned (.int .i64 1) ∧ Only w w' [] := by
  have h1c : ([.int .i64 0, .int .i64 0] : List Value).toArray.all (·.oneCell') = true := by simp [Value.oneCell']
  simp only [wv]
  go_enter Try.func12, Try.ntmps12
  go_wp2_with fail
  refine (next_nil u _).mono ?_
  simp only [wv]
  rintro e w1 ⟨rfl, o1⟩
  have oA := (Only.alloc w (.cells #[.int .i64 u, .int .i64 d] 30) []).trans o1
  clear o1
  go_wp2_with (first
    | (refine wpList_alloc_new rfl 30 rfl (.agg #[.int .i64 0, .int .i64 0]) (fun _ => by kernel_rfl) ?_; intro X wX oX hXl hX)
    | (refine wpList_store_blk rfl 30 _ _ rfl X [.int .i64 0, .int .i64 0] rfl rfl hX rfl (by kernel_rfl) h1c ?_; intro wY oY hY; have oF := oA.trans (oX.new oY (fun i hi => by simp only [List.mem_singleton] at hi; omega))))
  go_ret
  exact ⟨rfl, oF⟩

/-- What Add leaves. -/
def Added (w0 : World) (rs : List Res) (B : Nat) (l : List Li) (u d : Int) (vb : Value) (bs : List Bu) (e : Ending) (w' : World) : Prop :=
  e = .returned (.int .i64 0) ∧ ∃ (v' : Value) (x' : Li), x'.u = u ∧ x'.d = d ∧ x'.on = true ∧ (x'.b, x'.os) = bs.foldl pubS (b0, []) ∧ x'.os.length ≤ 16 ∧ Sep w0 w' (regR B v' ((insL l (newL u d)).set (placeL l u d) x') (row 40 10 vb bs.length (fl bc bs) :: rs))

set_option maxRecDepth 100000 in
set_option maxHeartbeats 600000 in
theorem add_ok {w0 : World} {rs : List Res} (B : Nat) (l : List Li) (v : Value) (u d : Int) (vb : Value) (bs : List Bu) (w : World) (h : Sep w0 w (regR B v l (row 40 10 vb bs.length (fl bc bs) :: rs))) (hl : l.length ≤ 900000) (hbl : bs.length ≤ 1000000) (hr : Rise l)
    (hn : nextD l u = ((u, d), 0)) (hs : bs.any (fun x => !x.has) = true) (hany : bs.any (other u d) = false) (hnf : foundL l u d = false) :
    Calls Try.prog 12 #[.pointer (some ⟨B, 0, none⟩), wv u d, vb] w (Added w0 rs B l u d vb bs) := by
  obtain ⟨i0, hi, hz0, hz1, hz2⟩ := info_parts insl_info
  obtain ⟨vv, hvv⟩ : ∃ vv, vv = v := ⟨_, rfl⟩
  rw [← hvv] at h
  clear hvv
  have hvb : w.ownsRow 0 40 10 vb bs.length (fl bc bs) := (h.sel 4 [3]).head
  obtain ⟨ab, cb, rfl⟩ := own_slice hvb
  clear hvb
  have sB : Sep w0 _ (row 76 14 vv l.length (fl lc l) :: blk B [vv] 72 :: many (l.map ow) :: row 40 10 (.slice ab bs.length cb) bs.length (fl bc bs) :: blk w.heap.size [.int .i64 u, .int .i64 d] 30 :: rs) := (h.box [.int .i64 u, .int .i64 d] 30).sel 5 [1, 2, 3, 4, 0]
  clear h
  have Hnext := next_any B l _ u _ sB (by omega) hr
  rw [hn] at Hnext
  simp only [wv] at *
  have h1c : ([.int .i64 u, .int .i64 d] : List Value).toArray.all (·.oneCell') = true := by simp [Value.oneCell']
  go_enter Try.func12, Try.ntmps12
  go_wp2_with fail
  refine Hnext.mono ?_
  rintro e w1 ⟨rfl, o1⟩
  have s1 := sB.quiet o1
  clear sB o1 Hnext
  generalize w.heap.size = A4 at *
  have hA4 : w1.heap[A4]? = some (.cells #[.int .i64 u, .int .i64 d] 30 (0, 0)) := (s1.sel 5 [4]).head
  go_wp2_with (first
    | (refine wpList_alloc_new rfl 30 rfl (.agg #[.int .i64 0, .int .i64 0]) (fun _ => by kernel_rfl) ?_; intro X wX oX hXl hX)
    | (refine wpList_store_blk rfl 30 _ _ rfl X [.int .i64 u, .int .i64 d] rfl rfl hX rfl (by kernel_rfl) h1c ?_; intro wY oY hY; have oF := oX.new oY (fun i hi => by simp only [List.mem_singleton] at hi; omega); have s2 := s1.quiet oF; have hy0 := cell_two0 hY; have hy1 := cell_two1 hY; have hA5 := oF.at hA4 (by simp); have ha0 := cell_two0 hA5; have ha1 := cell_two1 hA5; clear s1 hA4 hX oX oY))
  have hrb : RdB wY (.slice ab bs.length cb) bs := own_src (s2.sel 4 [3]).head
  refine (contains_has (fun x => !x.has) _ bs wY hrb hbl (clos_has wY)).mono ?_
  rw [hs]
  rintro e w3 ⟨rfl, o3⟩
  go_wp2_with fail
  refine (contains_o1 A4 (other u d) _ bs w3 (hrb.off o3) hbl (clos_other1 A4 u d w3 (o3.at hA5 (by simp)))).mono ?_
  rw [hany]
  rintro e w4 ⟨rfl, o4⟩
  have s4 := s2.quiet (o3.trans o4)
  clear s2 o3 o4 hrb hY hy0 hy1 hA5 ha0 ha1 oF
  have hA4 : w4.heap[A4]? = some (.cells #[.int .i64 u, .int .i64 d] 30 (0, 0)) := (s4.sel 5 [4]).head
  have ha0 := cell_two0 hA4
  have ha1 := cell_two1 hA4
  go_wp2_with fail
  refine (find_any B l _ u d _ s4 (by omega) hr).mono ?_
  rw [hnf]
  rintro e w2 ⟨rfl, o2⟩
  have s5 := s4.quiet o2
  clear s4 o2 hA4 ha0 ha1
  go_upto_region 7 with fail
  have hB : w2.heap[B]? = some (.cells #[vv] 72 (0, 0)) := (s5.sel 2 [1]).head
  have h4 : w2.heap[A4]? = some (.cells #[.int .i64 u, .int .i64 d] 30 (0, 0)) := (s5.sel 5 [4]).head
  have hBg : B ∉ vv.ownBlock.toList := fun hk => s5.two_at (i := 0) (j := 1) rfl rfl (by decide) B hk (by simp [blk])
  have h4g : A4 ∉ vv.ownBlock.toList := fun hk => s5.two_at (i := 0) (j := 4) rfl rfl (by decide) A4 hk (by simp [blk])
  have hnew : ∀ Y, vv.ownBlock = some Y → w2.heap.size ≤ Y → False := fun Y he hY => by
    have := (row 76 14 vv l.length (fl lc l)).lt w2 s5.head Y (by simp [row, he])
    omega
  have sD := s5.quiet (Only.drew w2 [])
  have hkl := place_le l u d
  have hfi := fl_insL l (newL u d)
  obtain ⟨k, hk⟩ : ∃ k, k = placeL l u d := ⟨_, rfl⟩
  rw [show placeL l (newL u d).u (newL u d).d = placeL l u d from rfl] at hfi
  rw [← hk] at hkl hfi ⊢
  have Hhk := Lib.hid hk
  clear s5 hk
  refine wp_region_t (S := fun w' => Only w2.drew w' vv.ownBlock.toList) 12 (by kernel_rfl) (by kernel_rfl) (Only.refl _ _) (fun hZ hHeld => ?_)
  refine' wpAnyT_take (i := 0) (v := _) hZ (op_at' rfl) (by rfl) (by kernel_rfl) (by kernel_rfl) (by kernel_rfl) (by kernel_rfl) (fun _ _ _ h => h) (Or.inl ⟨by rfl, ?hy1⟩) (by assumption) ?rest1
  case hy1 =>
    intro w' hS
    go_simp
    try with_reducible rfl
  try simp only [Act.put, List.setIfInBounds_toArray, List.set_cons_zero, List.set_cons_succ]
  refine' wpAnyT_take (i := 1) (v := _) hZ (op_at' rfl) (by rfl) (by kernel_rfl) (by kernel_rfl) (by kernel_rfl) (by kernel_rfl) (fun _ _ _ h => h) (Or.inl ⟨by rfl, ?hy2⟩) (by assumption) ?rest2
  case hy2 =>
    intro w' hS
    go_simp
    try with_reducible rfl
  try simp only [Act.put, List.setIfInBounds_toArray, List.set_cons_zero, List.set_cons_succ]
  refine' wpAnyT_take (i := 2) (v := _) hZ (op_at' rfl) (by rfl) (by kernel_rfl) (by kernel_rfl) (by kernel_rfl) (by kernel_rfl) (fun _ _ _ h => h) (Or.inl ⟨by rfl, ?hy3⟩) (by assumption) ?rest3
  case hy3 =>
    intro w' hS
    go_simp
    try with_reducible rfl
  try simp only [Act.put, List.setIfInBounds_toArray, List.set_cons_zero, List.set_cons_succ]
  refine' wpAnyT_take (i := 3) (v := _) hZ (op_at' rfl) (by rfl) (by kernel_rfl) (by kernel_rfl) (by kernel_rfl) (by kernel_rfl) (fun _ _ _ h => h) (Or.inl ⟨by rfl, ?hy4⟩) (by assumption) ?rest4
  case hy4 =>
    intro w' hS
    go_simp
    try with_reducible rfl
  try simp only [Act.put, List.setIfInBounds_toArray, List.set_cons_zero, List.set_cons_succ]
  refine' wpAnyT_take (i := 4) (v := _) hZ (op_at' rfl) (by rfl) (by kernel_rfl) (by kernel_rfl) (by kernel_rfl) (by kernel_rfl) (fun _ _ _ h => h) (Or.inl ⟨by rfl, ?hy5⟩) (by assumption) ?rest5
  case hy5 =>
    intro w' hS
    have hc0 := cell_of_one (hS.at (show w2.drew.heap[B]? = _ from hB) hBg)
    go_simp
    try with_reducible rfl
  try simp only [Act.put, List.setIfInBounds_toArray, List.set_cons_zero, List.set_cons_succ]
  refine' wpAnyT_take (i := 5) (v := _) hZ (op_at' rfl) (by rfl) (by kernel_rfl) (by kernel_rfl) (by kernel_rfl) (by kernel_rfl) (fun _ _ _ h => h) (Or.inl ⟨by rfl, ?hy6⟩) (by assumption) ?rest6
  case hy6 =>
    intro w' hS
    go_simp
    try with_reducible rfl
  try simp only [Act.put, List.setIfInBounds_toArray, List.set_cons_zero, List.set_cons_succ]
  refine' wpAnyT_take (i := 6) (v := _) hZ (op_at' rfl) (by rfl) (by kernel_rfl) (by kernel_rfl) (by kernel_rfl) (by kernel_rfl) (fun _ _ _ h => h) (Or.inl ⟨by rfl, ?hy7⟩) (by assumption) ?rest7
  case hy7 =>
    intro w' hS
    have ht := hS.at (show w2.drew.heap[A4]? = _ from h4) h4g
    have ht0 := cell_two0 ht
    have ht1 := cell_two1 ht
    go_simp
    try with_reducible rfl
  try simp only [Act.put, List.setIfInBounds_toArray, List.set_cons_zero, List.set_cons_succ]
  refine' wpAnyT_take (i := 7) (v := _) hZ (op_at' rfl) (by rfl) (by kernel_rfl) (by kernel_rfl) (by kernel_rfl) (by kernel_rfl) (fun _ _ _ h => h) (Or.inl ⟨by rfl, ?hy8⟩) (by assumption) ?rest8
  case hy8 =>
    intro w' hS
    go_simp
    try with_reducible rfl
  try simp only [Act.put, List.setIfInBounds_toArray, List.set_cons_zero, List.set_cons_succ]
  refine wpAnyT_one (i := 8) (by kernel_rfl) (op_at' rfl) (fun K hK => ?_)
  refine step_buildSlice_one (by rfl) 70 _ (by rfl) 76 i0 _ (lc (newL u d)) (by rfl) Try.underlying70 hi hz0 (by rw [hz1, lc_len]) (by rw [lc_len]; rfl) (by rw [lc_len]; decide) (by rw [lc_len]; decide) (fun Y wS oS hYl hYS => ?_)
  go_wp2_with fail
  refine hK.out _ _ (oS.mono (by simp)) (fun hHeld => ?_)
  clear hK K
  try simp only [Act.put, List.setIfInBounds_toArray, List.set_cons_zero, List.set_cons_succ]
  refine wpAnyT_one (i := 9) (by kernel_rfl) (op_at' rfl) (fun K hK => ?_)
  go_simp
  refine (insl_any vv l.length k (fl lc l) (lc (newL u d)) Y _ (sD.quiet oS) (by omega) hkl (lc_len _) hYS (fun he => hnew Y he (by have := hYl; simpa using this)) (fl_one lc_one l) (lc_one _)).mono fun e w12 hq => ?_
  obtain ⟨v12, rfl, o12, s12⟩ := hq
  obtain ⟨a12, c12, rfl⟩ := own_slice (show w12.ownsRow 0 76 14 v12 (l.length + 1) _ from s12.head)
  go_wp2_with fail
  refine hK.out _ _ ((oS.mono (by simp)).trans o12) (fun hHeld => ?_)
  clear hK K
  try simp only [Act.put, List.setIfInBounds_toArray, List.set_cons_zero, List.set_cons_succ]
  refine' wpAnyT_take (i := 10) (v := _) hZ (op_at' rfl) (by rfl) (by kernel_rfl) (by kernel_rfl) (by kernel_rfl) (by kernel_rfl) (fun _ _ _ h => h) (Or.inl ⟨by rfl, ?hy9⟩) (by assumption) ?rest9
  case hy9 =>
    intro w' hS
    go_simp
    try with_reducible rfl
  try simp only [Act.put, List.setIfInBounds_toArray, List.set_cons_zero, List.set_cons_succ]
  refine' wpAnyT_take (i := 11) (v := _) hZ (op_at' rfl) (by rfl) (by kernel_rfl) (by kernel_rfl) (by kernel_rfl) (by kernel_rfl) (fun _ _ _ h => h) (Or.inl ⟨by rfl, ?hy10⟩) (by assumption) ?rest10
  case hy10 =>
    intro w' hS
    go_simp
    try with_reducible rfl
  try simp only [Act.put, List.setIfInBounds_toArray, List.set_cons_zero, List.set_cons_succ]
  refine wpAnyT_last (by kernel_rfl) (op_at' rfl) (by kernel_rfl) (fun K hK => ?_)
  refine step_store_blk (by rfl) 70 _ _ (by rfl) B 0 (.slice a12 (l.length + 1) c12) [.slice a12 (l.length + 1) c12] [vv] 72 (by rfl) (by rfl) (by rfl) (s12.sel 2 [1, 0]) (by simp) (by kernel_rfl) (by simp [Value.oneCell']) (fun w15 o15 s15 => ?_)
  go_wp2_with fail
  refine hK.out _ _ ?_
  clear hK K
  try simp only [Act.put, List.setIfInBounds_toArray, List.set_cons_zero, List.set_cons_succ]
  have q1 : Sep w0 w15 (row 76 14 (.slice a12 (l.length + 1) c12) (insL l (newL u d)).length (fl lc (insL l (newL u d))) :: blk B [.slice a12 (l.length + 1) c12] 72 :: many ((insL l (newL u d)).map ow) :: row 40 10 (.slice ab bs.length cb) bs.length (fl bc bs) :: blk A4 [.int .i64 u, .int .i64 d] 30 :: rs) := by
    have q0 : Sep w0 w15 (ow (newL u d) :: many (l.map ow) :: row 76 14 (.slice a12 (l.length + 1) c12) (l.length + 1) ((fl lc l).take (k * 14) ++ lc (newL u d) ++ (fl lc l).drop (k * 14)) :: blk B [.slice a12 (l.length + 1) c12] 72 :: row 40 10 (.slice ab bs.length cb) bs.length (fl bc bs) :: blk A4 [.int .i64 u, .int .i64 d] 30 :: rs) :=
      (s15.sel 5 [2, 1, 0, 3, 4]).rown _ _
    have q2 := q0.many_ins k
    rw [show (l.map ow).take k ++ ow (newL u d) :: (l.map ow).drop k = (insL l (newL u d)).map ow by
      rw [insL, show placeL l (newL u d).u (newL u d).d = k from Hhk.out.symm, List.map_append, List.map_cons, List.map_take, List.map_drop], hfi] at q2
    rw [insL_len]
    exact q2.sel 5 [1, 2, 0, 3, 4]
  have hA4 : w15.heap[A4]? = some (.cells #[.int .i64 u, .int .i64 d] 30 (0, 0)) := (q1.sel 5 [4]).head
  have ha0 := cell_two0 hA4
  have ha1 := cell_two1 hA4
  have hr2 := rise_ins hr (newL u d)
  have hf2 := found_ins l (newL u d)
  have hp2 := place_ins l (newL u d)
  obtain ⟨hk2, hx2⟩ := ins_at l (newL u d)
  rw [show placeL l (newL u d).u (newL u d).d = placeL l u d from rfl] at hp2 hk2
  have hl2 : (insL l (newL u d)).length ≤ 1000000 := by rw [insL_len]; omega
  clear s15 s12 sD hfi hZ hHeld hB h4 hBg h4g hnew hA4
  go_wp2_with fail
  refine (publish_ok B (insL l (newL u d)) _ u d _ bs k (newL u d) _ q1 hl2 hbl hr2 hf2 (hp2.trans Hhk.out.symm) (by rw [Hhk.out]; exact hk2) (by simp only [Hhk.out]; exact hx2) rfl (by simp [newL]) hany).mono ?_
  rintro e w5 ⟨rfl, x', e1, e2, e3, e4, e5, e6⟩
  have e7 := e6.sel 5 [0, 1, 2, 3]
  clear q1 e6 ha0 ha1
  go_wp2_with fail
  go_ret
  exact ⟨rfl, _, x', e1, e2, e3, e4, e5, by rw [← Hhk.out]; exact e7⟩
end Go.Proofs.Yteljkfihmbddaaa
