/- RegistryNil returns true for every device and every number: a nil registry has no devices; nor does a new one. No condition. -/
import Derived.Test.YteljkfihmbddaaaRgA
import Derived.Test.YteljkfihmbddaaaOpenS
import Derived.Test.YteljkfihmbddaaaSRegistryNil
namespace Go.Proofs.Yteljkfihmbddaaa
open Go.RowKit Go.Pw
set_option linter.unusedVariables false

set_option maxRecDepth 100000 in
set_option maxHeartbeats 800000 in
theorem take_nil (u d : Int) (w : World) :
    Calls Try.prog 14 #[.pointer none, wv u d] w fun e w' => e = .returned (.tuple #[.agg (bc b0).toArray, .int .i64 2]) ∧ Only w w' [] := by
  simp only [wv]
  go_enter Try.func14, Try.ntmps14
  go_wp2_with (first
    | (refine wpList_box_new rfl 30 _ rfl (.agg #[.int .i64 u, .int .i64 d]) rfl ?_; intro Z wZ oZ hZl hZ)
    | (refine wpList_alloc_new rfl 40 rfl (.agg (bc b0).toArray) (fun _ => by kernel_rfl) ?_; intro X wX oX hXl hX; have hZX := oX.at hZ (by simp); have hz0 := cell_two0 hZX; have hz1 := cell_two1 hZX))
  refine (find_nil u d _).mono ?_
  rintro e w1 ⟨rfl, o1⟩
  have hX1 := o1.at hX (by simp)
  have oA := (oZ.trans oX).trans o1
  have hXw : w.heap.size ≤ X := Nat.le_trans oZ.size hXl
  clear hz0 hz1 hX hZX oX oZ
  go_wp2_with (refine wpList_store_blk rfl 40 _ _ rfl X (bc b0) rfl rfl hX1 rfl (by kernel_rfl) (bc_arr b0) ?_; intro wV oV hV; have oF := oA.new oV (fun i hi => by simp only [List.mem_singleton] at hi; omega))
  have d0 : wV.cell? ⟨X, 0, none⟩ = some (.int .i64 0) := cell_in hV 0
  have d1 : wV.cell? ⟨X, 1, none⟩ = some (.int .i64 0) := cell_in hV 1
  have d2 : wV.cell? ⟨X, 2, none⟩ = some (.slice none 0 0) := cell_in hV 2
  have d3 : wV.cell? ⟨X, 3, none⟩ = some (.slice none 0 0) := cell_in hV 3
  have d4 : wV.cell? ⟨X, 4, none⟩ = some (.int .u32 0) := cell_in hV 4
  have d5 : wV.cell? ⟨X, 5, none⟩ = some (.slice none 0 0) := cell_in hV 5
  have d6 : wV.cell? ⟨X, 6, none⟩ = some (.slice none 0 0) := cell_in hV 6
  have d7 : wV.cell? ⟨X, 7, none⟩ = some (.bool false) := cell_in hV 7
  have d8 : wV.cell? ⟨X, 8, none⟩ = some (.int .u32 0) := cell_in hV 8
  have d9 : wV.cell? ⟨X, 9, none⟩ = some (.slice none 0 0) := cell_in hV 9
  refine bodyPost_ret (v := .tuple #[.agg (bc b0).toArray, .int .i64 2]) (by simp [results, Try.results14, go_sem, d0, d1, d2, d3, d4, d5, d6, d7, d8, d9]; try rfl) rfl ?_
  exact ⟨rfl, oF⟩

set_option maxRecDepth 100000 in
set_option maxHeartbeats 800000 in
theorem take_none {w0 : World} {rs : List Res} (B : Nat) (l : List Li) (v : Value) (u d : Int) (w : World) (h : Sep w0 w (row 76 14 v l.length (fl lc l) :: blk B [v] 72 :: rs)) (hl : l.length ≤ 1000000) (hr : Rise l) (hf : foundL l u d = false) :
    Calls Try.prog 14 #[.pointer (some ⟨B, 0, none⟩), wv u d] w fun e w' => e = .returned (.tuple #[.agg (bc b0).toArray, .int .i64 2]) ∧ Only w w' [] := by
  simp only [wv]
  have Hfind := fun (w' : World) (o : Only w w' []) => find_any B l v u d w' (h.quiet o) hl hr
  rw [hf] at Hfind
  clear h hr hf
  go_enter Try.func14, Try.ntmps14
  go_wp2_with (first
    | (refine wpList_box_new rfl 30 _ rfl (.agg #[.int .i64 u, .int .i64 d]) rfl ?_; intro Z wZ oZ hZl hZ)
    | (refine wpList_alloc_new rfl 40 rfl (.agg (bc b0).toArray) (fun _ => by kernel_rfl) ?_; intro X wX oX hXl hX; have hZX := oX.at hZ (by simp); have hz0 := cell_two0 hZX; have hz1 := cell_two1 hZX))
  refine (Hfind _ (oZ.trans oX)).mono ?_
  rintro e w1 ⟨rfl, o1⟩
  have hX1 := o1.at hX (by simp)
  have oA := (oZ.trans oX).trans o1
  have hXw : w.heap.size ≤ X := Nat.le_trans oZ.size hXl
  clear hz0 hz1 hX hZX oX oZ
  go_wp2_with (refine wpList_store_blk rfl 40 _ _ rfl X (bc b0) rfl rfl hX1 rfl (by kernel_rfl) (bc_arr b0) ?_; intro wV oV hV; have oF := oA.new oV (fun i hi => by simp only [List.mem_singleton] at hi; omega))
  have d0 : wV.cell? ⟨X, 0, none⟩ = some (.int .i64 0) := cell_in hV 0
  have d1 : wV.cell? ⟨X, 1, none⟩ = some (.int .i64 0) := cell_in hV 1
  have d2 : wV.cell? ⟨X, 2, none⟩ = some (.slice none 0 0) := cell_in hV 2
  have d3 : wV.cell? ⟨X, 3, none⟩ = some (.slice none 0 0) := cell_in hV 3
  have d4 : wV.cell? ⟨X, 4, none⟩ = some (.int .u32 0) := cell_in hV 4
  have d5 : wV.cell? ⟨X, 5, none⟩ = some (.slice none 0 0) := cell_in hV 5
  have d6 : wV.cell? ⟨X, 6, none⟩ = some (.slice none 0 0) := cell_in hV 6
  have d7 : wV.cell? ⟨X, 7, none⟩ = some (.bool false) := cell_in hV 7
  have d8 : wV.cell? ⟨X, 8, none⟩ = some (.int .u32 0) := cell_in hV 8
  have d9 : wV.cell? ⟨X, 9, none⟩ = some (.slice none 0 0) := cell_in hV 9
  refine bodyPost_ret (v := .tuple #[.agg (bc b0).toArray, .int .i64 2]) (by simp [results, Try.results14, go_sem, d0, d1, d2, d3, d4, d5, d6, d7, d8, d9]; try rfl) rfl ?_
  exact ⟨rfl, oF⟩

set_option maxRecDepth 100000 in
set_option maxHeartbeats 800000 in
theorem ident_nil (u d : Int) (w : World) :
    Calls Try.prog 24 #[.pointer none, wv u d] w fun e w' => e = .returned (.tuple #[.agg #[.slice none 0 0, .slice none 0 0], .bool false]) ∧ Only w w' [] := by
  simp only [wv]
  have h1c : ([.slice none 0 0, .slice none 0 0] : List Value).toArray.all (·.oneCell') = true := by simp [Value.oneCell']
  go_enter Try.func24, Try.ntmps24
  go_wp2_with (first
    | (refine wpList_box_new rfl 30 _ rfl (.agg #[.int .i64 u, .int .i64 d]) rfl ?_; intro Z wZ oZ hZl hZ)
    | (refine wpList_alloc_new rfl 37 rfl (.agg #[.slice none 0 0, .slice none 0 0]) (fun _ => by kernel_rfl) ?_; intro X wX oX hXl hX; have hZX := oX.at hZ (by simp); have hz0 := cell_two0 hZX; have hz1 := cell_two1 hZX))
  refine (find_nil u d _).mono ?_
  rintro e w1 ⟨rfl, o1⟩
  have hX1 := o1.at hX (by simp)
  have oA := (oZ.trans oX).trans o1
  have hXw : w.heap.size ≤ X := Nat.le_trans oZ.size hXl
  clear hz0 hz1 hX hZX oX oZ
  go_wp2_with (refine wpList_store_blk rfl 37 _ _ rfl X [.slice none 0 0, .slice none 0 0] rfl rfl hX1 rfl (by kernel_rfl) h1c ?_; intro wV oV hV; have oF := oA.new oV (fun i hi => by simp only [List.mem_singleton] at hi; omega); have d0 := cell_two0 hV; have d1 := cell_two1 hV)
  refine bodyPost_ret (v := .tuple #[.agg #[.slice none 0 0, .slice none 0 0], .bool false]) (by simp [results, Try.results24, go_sem, d0, d1]) rfl ?_
  exact ⟨rfl, oF⟩

set_option maxRecDepth 100000 in
set_option maxHeartbeats 800000 in
theorem ident_none {w0 : World} {rs : List Res} (B : Nat) (l : List Li) (v : Value) (u d : Int) (w : World) (h : Sep w0 w (row 76 14 v l.length (fl lc l) :: blk B [v] 72 :: rs)) (hl : l.length ≤ 1000000) (hr : Rise l) (hf : foundL l u d = false) :
    Calls Try.prog 24 #[.pointer (some ⟨B, 0, none⟩), wv u d] w fun e w' => e = .returned (.tuple #[.agg #[.slice none 0 0, .slice none 0 0], .bool false]) ∧ Only w w' [] := by
  simp only [wv]
  have h1c : ([.slice none 0 0, .slice none 0 0] : List Value).toArray.all (·.oneCell') = true := by simp [Value.oneCell']
  have Hfind := fun (w' : World) (o : Only w w' []) => find_any B l v u d w' (h.quiet o) hl hr
  rw [hf] at Hfind
  clear h hr hf
  go_enter Try.func24, Try.ntmps24
  go_wp2_with (first
    | (refine wpList_box_new rfl 30 _ rfl (.agg #[.int .i64 u, .int .i64 d]) rfl ?_; intro Z wZ oZ hZl hZ)
    | (refine wpList_alloc_new rfl 37 rfl (.agg #[.slice none 0 0, .slice none 0 0]) (fun _ => by kernel_rfl) ?_; intro X wX oX hXl hX; have hZX := oX.at hZ (by simp); have hz0 := cell_two0 hZX; have hz1 := cell_two1 hZX))
  refine (Hfind _ (oZ.trans oX)).mono ?_
  rintro e w1 ⟨rfl, o1⟩
  have hX1 := o1.at hX (by simp)
  have oA := (oZ.trans oX).trans o1
  have hXw : w.heap.size ≤ X := Nat.le_trans oZ.size hXl
  clear hz0 hz1 hX hZX oX oZ
  go_wp2_with (refine wpList_store_blk rfl 37 _ _ rfl X [.slice none 0 0, .slice none 0 0] rfl rfl hX1 rfl (by kernel_rfl) h1c ?_; intro wV oV hV; have oF := oA.new oV (fun i hi => by simp only [List.mem_singleton] at hi; omega); have d0 := cell_two0 hV; have d1 := cell_two1 hV)
  refine bodyPost_ret (v := .tuple #[.agg #[.slice none 0 0, .slice none 0 0], .bool false]) (by simp [results, Try.results24, go_sem, d0, d1]) rfl ?_
  exact ⟨rfl, oF⟩

theorem left_nil (u d : Int) (w : World) :
    Calls Try.prog 15 #[.pointer none, wv u d] w fun e w' => e = .returned (.int .i64 0) ∧ Only w w' [] := by
  simp only [wv]
  go_enter Try.func15, Try.ntmps15
  go_wp2_with fail
  refine (find_nil u d _).mono ?_
  rintro e w1 ⟨rfl, o1⟩
  go_wp2_with fail
  go_ret
  exact ⟨rfl, (Only.alloc _ _ _).trans o1⟩
theorem audience_empty {w0 : World} {rs : List Res} (B : Nat) (u d to : Int) (w : World) (h : Sep w0 w (row 76 14 (.slice none 0 0) ([] : List Li).length (fl lc []) :: blk B [.slice none 0 0] 72 :: rs)) :
    Calls Try.prog 27 #[.pointer (some ⟨B, 0, none⟩), wv u d, .int .i64 to] w fun e w' => e = .returned (.slice none 0 0) ∧ Only w w' [] := by
  simp only [wv]
  have oA := Only.alloc w (.cells #[.int .i64 u, .int .i64 d] 30) []
  have Hall := all_any B [] _ _ (h.quiet oA) (by simp)
  go_enter Try.func27, Try.ntmps27
  go_wp2_with fail
  refine Hall.mono ?_
  rintro e w1 ⟨a1, c1, rfl, s1⟩
  have o := oA.trans s1.only
  go_wp2_with fail
  go_loopw [7, 13] (fun x y wr => x = .slice none 0 0 ∧ y = .int .i64 0 ∧ Only w wr []) (fun _ _ _ => 0)
  case atStart => exact ⟨rfl, rfl, o⟩
  case round =>
    obtain ⟨rfl, rfl, o⟩ := hrel
    rw [show (keys []).length = 0 from rfl]
    go_wp2_with fail
    go_ret
    exact ⟨rfl, o⟩

set_option maxRecDepth 100000 in
set_option maxHeartbeats 3200000 in
theorem nil_walk (u d user : Int) (w : World) :
    Calls Try.prog 6 #[.agg #[.int .i64 u, .int .i64 d], .int .i64 user] w fun e w' => e = .returned (.bool true) ∧ Below w.heap.size w w' := by
  have h1w : ([.int .i64 0, .int .i64 0] : List Value).toArray.all (·.oneCell') = true := by simp [Value.oneCell']
  have h1i : ([.slice none 0 0, .slice none 0 0] : List Value).toArray.all (·.oneCell') = true := by simp [Value.oneCell']
  go_enter Try.func6, Try.ntmps6
  go_wp2_with (refine wpList_box_new rfl 30 _ rfl (.agg #[.int .i64 u, .int .i64 d]) rfl ?_; intro Z wZ oZ hZl hZ)
  refine (awake_any _).mono ?_
  rintro e wA ⟨rfl, oA⟩
  have hz := oA.at hZ (by simp)
  have oS := oZ.trans oA
  clear hZ oA oZ
  go_wp2_with fail
  refine (new_any _).mono ?_
  rintro e w1 ⟨rfl, rfl⟩
  have st : Pw.Sep wA _ (row 76 14 (.slice none 0 0) ([] : List Li).length (fl lc []) :: blk wA.heap.size [.slice none 0 0] 72 :: many (([] : List Li).map ow) :: []) := regs_nil ((Sep.nil wA).box [.slice none 0 0] 72)
  have hz := (Only.alloc wA (.cells [Value.slice none 0 0].toArray 72) []).at hz (by simp)
  generalize wA.heap.size = B at *
  generalize wA.alloc (.cells [Value.slice none 0 0].toArray 72) = w1 at *
  have hz0 := cell_two0 hz
  have hz1 := cell_two1 hz
  go_wp2_with fail
  refine (next_nil user _).mono ?_
  try simp only [wv]
  rintro e wN ⟨rfl, oN⟩
  have st := st.quiet oN
  have hz := oN.at hz (by simp)
  clear oN hz0 hz1
  have hz0 := cell_two0 hz
  have hz1 := cell_two1 hz
  go_wp2_with (first
    | (refine wpList_alloc_new rfl 30 rfl (.agg #[.int .i64 0, .int .i64 0]) (fun _ => by kernel_rfl) ?_; intro X wX oX hXl hX)
    | (refine wpList_store_blk rfl 30 _ _ rfl X [.int .i64 0, .int .i64 0] rfl rfl hX rfl (by kernel_rfl) h1w ?_; intro wY oY hY; have oN := oX.new oY (fun i hi => by simp only [List.mem_singleton] at hi; omega); have st := st.quiet oN; have hz := oN.at hz (by simp); clear oN hz0 hz1 hX oX oY hY; have hz0 := cell_two0 hz; have hz1 := cell_two1 hz))
  refine (ident_nil u d _).mono ?_
  try simp only [wv]
  rintro e wN ⟨rfl, oN⟩
  have st := st.quiet oN
  have hz := oN.at hz (by simp)
  clear oN hz0 hz1
  have hz0 := cell_two0 hz
  have hz1 := cell_two1 hz
  go_wp2_with (first
    | (refine wpList_alloc_new rfl 37 rfl (.agg #[.slice none 0 0, .slice none 0 0]) (fun _ => by kernel_rfl) ?_; intro X wX oX hXl hX)
    | (refine wpList_store_blk rfl 37 _ _ rfl X [.slice none 0 0, .slice none 0 0] rfl rfl hX rfl (by kernel_rfl) h1i ?_; intro wY oY hY; have oN := oX.new oY (fun i hi => by simp only [List.mem_singleton] at hi; omega); have st := st.quiet oN; have hz := oN.at hz (by simp); clear oN hz0 hz1 hX oX oY hY; have hz0 := cell_two0 hz; have hz1 := cell_two1 hz))
  refine (take_nil u d _).mono ?_
  try simp only [wv]
  rintro e wN ⟨rfl, oN⟩
  have st := st.quiet oN
  have hz := oN.at hz (by simp)
  clear oN hz0 hz1
  have hz0 := cell_two0 hz
  have hz1 := cell_two1 hz
  go_wp2_with (first
    | (refine wpList_alloc_new rfl 40 rfl (.agg (bc b0).toArray) (fun _ => by kernel_rfl) ?_; intro X wX oX hXl hX)
    | (refine wpList_store_blk rfl 40 _ _ rfl X (bc b0) rfl rfl hX rfl (by kernel_rfl) (bc_arr b0) ?_; intro wY oY hY; have oN := oX.new oY (fun i hi => by simp only [List.mem_singleton] at hi; omega); have st := st.quiet oN; have hz := oN.at hz (by simp); clear oN hz0 hz1 hX oX oY hY; have hz0 := cell_two0 hz; have hz1 := cell_two1 hz))
  refine (ident_none B [] _ u d _ st (by simp) rise_nil rfl).mono ?_
  try simp only [wv]
  rintro e wN ⟨rfl, oN⟩
  have st := st.quiet oN
  have hz := oN.at hz (by simp)
  clear oN hz0 hz1
  have hz0 := cell_two0 hz
  have hz1 := cell_two1 hz
  go_wp2_with (first
    | (refine wpList_alloc_new rfl 37 rfl (.agg #[.slice none 0 0, .slice none 0 0]) (fun _ => by kernel_rfl) ?_; intro X wX oX hXl hX)
    | (refine wpList_store_blk rfl 37 _ _ rfl X [.slice none 0 0, .slice none 0 0] rfl rfl hX rfl (by kernel_rfl) h1i ?_; intro wY oY hY; have oN := oX.new oY (fun i hi => by simp only [List.mem_singleton] at hi; omega); have st := st.quiet oN; have hz := oN.at hz (by simp); clear oN hz0 hz1 hX oX oY hY; have hz0 := cell_two0 hz; have hz1 := cell_two1 hz))
  refine (take_none B [] _ u d _ st (by simp) rise_nil rfl).mono ?_
  try simp only [wv]
  rintro e wN ⟨rfl, oN⟩
  have st := st.quiet oN
  have hz := oN.at hz (by simp)
  clear oN hz0 hz1
  have hz0 := cell_two0 hz
  have hz1 := cell_two1 hz
  go_wp2_with (first
    | (refine wpList_alloc_new rfl 40 rfl (.agg (bc b0).toArray) (fun _ => by kernel_rfl) ?_; intro X wX oX hXl hX)
    | (refine wpList_store_blk rfl 40 _ _ rfl X (bc b0) rfl rfl hX rfl (by kernel_rfl) (bc_arr b0) ?_; intro wY oY hY; have oN := oX.new oY (fun i hi => by simp only [List.mem_singleton] at hi; omega); have st := st.quiet oN; have hz := oN.at hz (by simp); clear oN hz0 hz1 hX oX oY hY; have hz0 := cell_two0 hz; have hz1 := cell_two1 hz))
  refine wp_region_held_drew (S := fun w' => Only wY.drew w' []) (by kernel_rfl) (Only.refl _ _) (fun hHeld => ?_)
  refine' wpAnyH_take (i := 0) (v := _) (op_at rfl) (by kernel_rfl) (by kernel_rfl) (by kernel_rfl) (fun _ _ _ h => h) (Or.inl ⟨by rfl, ?hy1⟩) (by assumption) ?rest1
  case hy1 =>
    intro w' hS
    go_simp
    try with_reducible rfl
  try simp only [Act.put, List.setIfInBounds_toArray, List.set_cons_zero, List.set_cons_succ]
  refine' wpAnyH_take (i := 1) (v := _) (op_at rfl) (by kernel_rfl) (by kernel_rfl) (by kernel_rfl) (fun _ _ _ h => h) (Or.inl ⟨by rfl, ?hy2⟩) (by assumption) ?rest2
  case hy2 =>
    intro w' hS
    go_simp
    try with_reducible rfl
  try simp only [Act.put, List.setIfInBounds_toArray, List.set_cons_zero, List.set_cons_succ]
  refine' wpAnyH_take (i := 2) (v := _) (op_at rfl) (by kernel_rfl) (by kernel_rfl) (by kernel_rfl) (fun _ _ _ h => h) (Or.inl ⟨by rfl, ?hy3⟩) (by assumption) ?rest3
  case hy3 =>
    intro w' hS
    go_simp
    try with_reducible rfl
  try simp only [Act.put, List.setIfInBounds_toArray, List.set_cons_zero, List.set_cons_succ]
  refine' wpAnyH_take (i := 3) (v := _) (op_at rfl) (by kernel_rfl) (by kernel_rfl) (by kernel_rfl) (fun _ _ _ h => h) (Or.inl ⟨by rfl, ?hy4⟩) (by assumption) ?rest4
  case hy4 =>
    intro w' hS
    go_simp
    try with_reducible rfl
  try simp only [Act.put, List.setIfInBounds_toArray, List.set_cons_zero, List.set_cons_succ]
  refine' wpAnyH_take (i := 4) (v := _) (op_at rfl) (by kernel_rfl) (by kernel_rfl) (by kernel_rfl) (fun _ _ _ h => h) (Or.inl ⟨by rfl, ?hy5⟩) (by assumption) ?rest5
  case hy5 =>
    intro w' hS
    go_simp
    try with_reducible rfl
  try simp only [Act.put, List.setIfInBounds_toArray, List.set_cons_zero, List.set_cons_succ]
  refine' wpAnyH_take (i := 5) (v := _) (op_at rfl) (by kernel_rfl) (by kernel_rfl) (by kernel_rfl) (fun _ _ _ h => h) (Or.inl ⟨by rfl, ?hy6⟩) (by assumption) ?rest6
  case hy6 =>
    intro w' hS
    go_simp
    try with_reducible rfl
  try simp only [Act.put, List.setIfInBounds_toArray, List.set_cons_zero, List.set_cons_succ]
  refine' wpAnyH_take (i := 6) (v := _) (op_at rfl) (by kernel_rfl) (by kernel_rfl) (by kernel_rfl) (fun _ _ _ h => h) (Or.inl ⟨by rfl, ?hy7⟩) (by assumption) ?rest7
  case hy7 =>
    intro w' hS
    go_simp
    try with_reducible rfl
  try simp only [Act.put, List.setIfInBounds_toArray, List.set_cons_zero, List.set_cons_succ]
  refine' wpAnyH_take (i := 7) (v := _) (op_at rfl) (by kernel_rfl) (by kernel_rfl) (by kernel_rfl) (fun _ _ _ h => h) (Or.inl ⟨by rfl, ?hy8⟩) (by assumption) ?rest8
  case hy8 =>
    intro w' hS
    go_simp
    try with_reducible rfl
  try simp only [Act.put, List.setIfInBounds_toArray, List.set_cons_zero, List.set_cons_succ]
  refine' wpAnyH_take (i := 8) (v := _) (op_at rfl) (by kernel_rfl) (by kernel_rfl) (by kernel_rfl) (fun _ _ _ h => h) (Or.inl ⟨by rfl, ?hy9⟩) (by assumption) ?rest9
  case hy9 =>
    intro w' hS
    go_simp
    try with_reducible rfl
  try simp only [Act.put, List.setIfInBounds_toArray, List.set_cons_zero, List.set_cons_succ]
  refine' wpAnyH_take (i := 9) (v := _) (op_at rfl) (by kernel_rfl) (by kernel_rfl) (by kernel_rfl) (fun _ _ _ h => h) (Or.inl ⟨by rfl, ?hy10⟩) (by assumption) ?rest10
  case hy10 =>
    intro w' hS
    go_simp
    try with_reducible rfl
  try simp only [Act.put, List.setIfInBounds_toArray, List.set_cons_zero, List.set_cons_succ]
  refine' wpAnyH_take (i := 10) (v := _) (op_at rfl) (by kernel_rfl) (by kernel_rfl) (by kernel_rfl) (fun _ _ _ h => h) (Or.inl ⟨by rfl, ?hy11⟩) (by assumption) ?rest11
  case hy11 =>
    intro w' hS
    go_simp
    try with_reducible rfl
  try simp only [Act.put, List.setIfInBounds_toArray, List.set_cons_zero, List.set_cons_succ]
  refine' wpAnyH_take (i := 11) (v := _) (op_at rfl) (by kernel_rfl) (by kernel_rfl) (by kernel_rfl) (fun _ _ _ h => h) (Or.inl ⟨by rfl, ?hy12⟩) (by assumption) ?rest12
  case hy12 =>
    intro w' hS
    go_simp
    try with_reducible rfl
  try simp only [Act.put, List.setIfInBounds_toArray, List.set_cons_zero, List.set_cons_succ]
  refine' wpAnyH_take (i := 12) (v := _) (op_at rfl) (by kernel_rfl) (by kernel_rfl) (by kernel_rfl) (fun _ _ _ h => h) (Or.inl ⟨by rfl, ?hy13⟩) (by assumption) ?rest13
  case hy13 =>
    intro w' hS
    have ht := hS.at (show wY.drew.heap[Z]? = _ from hz) (by simp)
    have ht0 := cell_two0 ht
    have ht1 := cell_two1 ht
    go_simp
    try with_reducible rfl
  try simp only [Act.put, List.setIfInBounds_toArray, List.set_cons_zero, List.set_cons_succ]
  refine wpAnyH_ready (rs := [13]) (by kernel_rfl) (by simp) (AllReadyH.cons (op_at rfl) (fun K hK => ?_) AllReadyH.nil)
  go_simp
  refine (add_nil u d _ _).mono fun e wq hq => ?_
  obtain ⟨rfl, o⟩ := hq
  go_wp2_with fail
  refine hK.out _ _ (hHeld.trans o) (fun hHeld => ?_)
  clear hK K
  try simp only [Act.put, List.setIfInBounds_toArray, List.set_cons_zero, List.set_cons_succ]
  refine' wpAnyH_take (i := 14) (v := _) (op_at rfl) (by kernel_rfl) (by kernel_rfl) (by kernel_rfl) (fun _ _ _ h => h) (Or.inl ⟨by rfl, ?hy14⟩) (by assumption) ?rest14
  case hy14 =>
    intro w' hS
    go_simp
    try with_reducible rfl
  try simp only [Act.put, List.setIfInBounds_toArray, List.set_cons_zero, List.set_cons_succ]
  refine' wpAnyH_take (i := 15) (v := _) (op_at rfl) (by kernel_rfl) (by kernel_rfl) (by kernel_rfl) (fun _ _ _ h => h) (Or.inl ⟨by rfl, ?hy15⟩) (by assumption) ?rest15
  case hy15 =>
    intro w' hS
    go_simp
    try with_reducible rfl
  try simp only [Act.put, List.setIfInBounds_toArray, List.set_cons_zero, List.set_cons_succ]
  refine' wpAnyH_take (i := 16) (v := _) (op_at rfl) (by kernel_rfl) (by kernel_rfl) (by kernel_rfl) (fun _ _ _ h => h) (Or.inl ⟨by rfl, ?hy16⟩) (by assumption) ?rest16
  case hy16 =>
    intro w' hS
    go_simp
    try with_reducible rfl
  try simp only [Act.put, List.setIfInBounds_toArray, List.set_cons_zero, List.set_cons_succ]
  refine' wpAnyH_take (i := 17) (v := _) (op_at rfl) (by kernel_rfl) (by kernel_rfl) (by kernel_rfl) (fun _ _ _ h => h) (Or.inl ⟨by rfl, ?hy17⟩) (by assumption) ?rest17
  case hy17 =>
    intro w' hS
    go_simp
    try with_reducible rfl
  try simp only [Act.put, List.setIfInBounds_toArray, List.set_cons_zero, List.set_cons_succ]
  refine' wpAnyH_take (i := 18) (v := _) (op_at rfl) (by kernel_rfl) (by kernel_rfl) (by kernel_rfl) (fun _ _ _ h => h) (Or.inl ⟨by rfl, ?hy18⟩) (by assumption) ?rest18
  case hy18 =>
    intro w' hS
    have ht := hS.at (show wY.drew.heap[Z]? = _ from hz) (by simp)
    have ht0 := cell_two0 ht
    have ht1 := cell_two1 ht
    go_simp
    try with_reducible rfl
  try simp only [Act.put, List.setIfInBounds_toArray, List.set_cons_zero, List.set_cons_succ]
  refine wpAnyH_ready (rs := [19]) (by kernel_rfl) (by simp) (AllReadyH.cons (op_at rfl) (fun K hK => ?_) AllReadyH.nil)
  go_simp
  refine (publish_nil u d _ _).mono fun e wq hq => ?_
  obtain ⟨rfl, o⟩ := hq
  go_wp2_with fail
  refine hK.out _ _ (hHeld.trans o) (fun hHeld => ?_)
  clear hK K
  try simp only [Act.put, List.setIfInBounds_toArray, List.set_cons_zero, List.set_cons_succ]
  refine' wpAnyH_take (i := 20) (v := _) (op_at rfl) (by kernel_rfl) (by kernel_rfl) (by kernel_rfl) (fun _ _ _ h => h) (Or.inl ⟨by rfl, ?hy19⟩) (by assumption) ?rest19
  case hy19 =>
    intro w' hS
    go_simp
    try with_reducible rfl
  try simp only [Act.put, List.setIfInBounds_toArray, List.set_cons_zero, List.set_cons_succ]
  refine' wpAnyH_take (i := 21) (v := _) (op_at rfl) (by kernel_rfl) (by kernel_rfl) (by kernel_rfl) (fun _ _ _ h => h) (Or.inl ⟨by rfl, ?hy20⟩) (by assumption) ?rest20
  case hy20 =>
    intro w' hS
    go_simp
    try with_reducible rfl
  try simp only [Act.put, List.setIfInBounds_toArray, List.set_cons_zero, List.set_cons_succ]
  refine' wpAnyH_take (i := 22) (v := _) (op_at rfl) (by kernel_rfl) (by kernel_rfl) (by kernel_rfl) (fun _ _ _ h => h) (Or.inl ⟨by rfl, ?hy21⟩) (by assumption) ?rest21
  case hy21 =>
    intro w' hS
    go_simp
    try with_reducible rfl
  try simp only [Act.put, List.setIfInBounds_toArray, List.set_cons_zero, List.set_cons_succ]
  refine' wpAnyH_take (i := 23) (v := _) (op_at rfl) (by kernel_rfl) (by kernel_rfl) (by kernel_rfl) (fun _ _ _ h => h) (Or.inl ⟨by rfl, ?hy22⟩) (by assumption) ?rest22
  case hy22 =>
    intro w' hS
    go_simp
    try with_reducible rfl
  try simp only [Act.put, List.setIfInBounds_toArray, List.set_cons_zero, List.set_cons_succ]
  refine' wpAnyH_take (i := 24) (v := _) (op_at rfl) (by kernel_rfl) (by kernel_rfl) (by kernel_rfl) (fun _ _ _ h => h) (Or.inl ⟨by rfl, ?hy23⟩) (by assumption) ?rest23
  case hy23 =>
    intro w' hS
    have ht := hS.at (show wY.drew.heap[Z]? = _ from hz) (by simp)
    have ht0 := cell_two0 ht
    have ht1 := cell_two1 ht
    go_simp
    try with_reducible rfl
  try simp only [Act.put, List.setIfInBounds_toArray, List.set_cons_zero, List.set_cons_succ]
  refine wpAnyH_ready (rs := [25]) (by kernel_rfl) (by simp) (AllReadyH.cons (op_at rfl) (fun K hK => ?_) AllReadyH.nil)
  go_simp
  refine (remove_nil u d _).mono fun e wq hq => ?_
  obtain ⟨rfl, o⟩ := hq
  go_wp2_with fail
  refine hK.out _ _ (hHeld.trans o) (fun hHeld => ?_)
  clear hK K
  try simp only [Act.put, List.setIfInBounds_toArray, List.set_cons_zero, List.set_cons_succ]
  refine' wpAnyH_take (i := 26) (v := _) (op_at rfl) (by kernel_rfl) (by kernel_rfl) (by kernel_rfl) (fun _ _ _ h => h) (Or.inl ⟨by rfl, ?hy24⟩) (by assumption) ?rest24
  case hy24 =>
    intro w' hS
    go_simp
    try with_reducible rfl
  try simp only [Act.put, List.setIfInBounds_toArray, List.set_cons_zero, List.set_cons_succ]
  refine' wpAnyH_take (i := 27) (v := _) (op_at rfl) (by kernel_rfl) (by kernel_rfl) (by kernel_rfl) (fun _ _ _ h => h) (Or.inl ⟨by rfl, ?hy25⟩) (by assumption) ?rest25
  case hy25 =>
    intro w' hS
    go_simp
    try with_reducible rfl
  try simp only [Act.put, List.setIfInBounds_toArray, List.set_cons_zero, List.set_cons_succ]
  refine' wpAnyH_take (i := 28) (v := _) (op_at rfl) (by kernel_rfl) (by kernel_rfl) (by kernel_rfl) (fun _ _ _ h => h) (Or.inl ⟨by rfl, ?hy26⟩) (by assumption) ?rest26
  case hy26 =>
    intro w' hS
    go_simp
    try with_reducible rfl
  try simp only [Act.put, List.setIfInBounds_toArray, List.set_cons_zero, List.set_cons_succ]
  refine' wpAnyH_take (i := 29) (v := _) (op_at rfl) (by kernel_rfl) (by kernel_rfl) (by kernel_rfl) (fun _ _ _ h => h) (Or.inl ⟨by rfl, ?hy27⟩) (by assumption) ?rest27
  case hy27 =>
    intro w' hS
    go_simp
    try with_reducible rfl
  try simp only [Act.put, List.setIfInBounds_toArray, List.set_cons_zero, List.set_cons_succ]
  refine' wpAnyH_take (i := 30) (v := _) (op_at rfl) (by kernel_rfl) (by kernel_rfl) (by kernel_rfl) (fun _ _ _ h => h) (Or.inl ⟨by rfl, ?hy28⟩) (by assumption) ?rest28
  case hy28 =>
    intro w' hS
    have ht := hS.at (show wY.drew.heap[Z]? = _ from hz) (by simp)
    have ht0 := cell_two0 ht
    have ht1 := cell_two1 ht
    go_simp
    try with_reducible rfl
  try simp only [Act.put, List.setIfInBounds_toArray, List.set_cons_zero, List.set_cons_succ]
  refine wpAnyH_ready (rs := [31]) (by kernel_rfl) (by simp) (AllReadyH.cons (op_at rfl) (fun K hK => ?_) AllReadyH.nil)
  go_simp
  refine (is_nil u d _).mono fun e wq hq => ?_
  obtain ⟨rfl, o⟩ := hq
  go_wp2_with fail
  refine hK.out _ _ (hHeld.trans o) (fun hHeld => ?_)
  clear hK K
  try simp only [Act.put, List.setIfInBounds_toArray, List.set_cons_zero, List.set_cons_succ]
  refine' wpAnyH_take (i := 32) (v := _) (op_at rfl) (by kernel_rfl) (by kernel_rfl) (by kernel_rfl) (fun _ _ _ h => h) (Or.inl ⟨by rfl, ?hy29⟩) (by assumption) ?rest29
  case hy29 =>
    intro w' hS
    go_simp
    try with_reducible rfl
  try simp only [Act.put, List.setIfInBounds_toArray, List.set_cons_zero, List.set_cons_succ]
  refine' wpAnyH_take (i := 33) (v := _) (op_at rfl) (by kernel_rfl) (by kernel_rfl) (by kernel_rfl) (fun _ _ _ h => h) (Or.inl ⟨by rfl, ?hy30⟩) (by assumption) ?rest30
  case hy30 =>
    intro w' hS
    go_simp
    try with_reducible rfl
  try simp only [Act.put, List.setIfInBounds_toArray, List.set_cons_zero, List.set_cons_succ]
  refine' wpAnyH_take (i := 34) (v := _) (op_at rfl) (by kernel_rfl) (by kernel_rfl) (by kernel_rfl) (fun _ _ _ h => h) (Or.inl ⟨by rfl, ?hy31⟩) (by assumption) ?rest31
  case hy31 =>
    intro w' hS
    go_simp
    try with_reducible rfl
  try simp only [Act.put, List.setIfInBounds_toArray, List.set_cons_zero, List.set_cons_succ]
  refine' wpAnyH_take (i := 35) (v := _) (op_at rfl) (by kernel_rfl) (by kernel_rfl) (by kernel_rfl) (fun _ _ _ h => h) (Or.inl ⟨by rfl, ?hy32⟩) (by assumption) ?rest32
  case hy32 =>
    intro w' hS
    go_simp
    try with_reducible rfl
  try simp only [Act.put, List.setIfInBounds_toArray, List.set_cons_zero, List.set_cons_succ]
  refine' wpAnyH_take (i := 36) (v := _) (op_at rfl) (by kernel_rfl) (by kernel_rfl) (by kernel_rfl) (fun _ _ _ h => h) (Or.inl ⟨by rfl, ?hy33⟩) (by assumption) ?rest33
  case hy33 =>
    intro w' hS
    go_simp
    try with_reducible rfl
  try simp only [Act.put, List.setIfInBounds_toArray, List.set_cons_zero, List.set_cons_succ]
  refine' wpAnyH_take (i := 39) (v := _) (op_at rfl) (by kernel_rfl) (by kernel_rfl) (by kernel_rfl) (fun _ _ _ h => h) (Or.inl ⟨by rfl, ?hy34⟩) (by assumption) ?rest34
  case hy34 =>
    intro w' hS
    go_simp
    try with_reducible rfl
  try simp only [Act.put, List.setIfInBounds_toArray, List.set_cons_zero, List.set_cons_succ]
  refine' wpAnyH_take (i := 43) (v := _) (op_at rfl) (by kernel_rfl) (by kernel_rfl) (by kernel_rfl) (fun _ _ _ h => h) (Or.inl ⟨by rfl, ?hy35⟩) (by assumption) ?rest35
  case hy35 =>
    intro w' hS
    go_simp
    try with_reducible rfl
  try simp only [Act.put, List.setIfInBounds_toArray, List.set_cons_zero, List.set_cons_succ]
  refine' wpAnyH_take (i := 44) (v := _) (op_at rfl) (by kernel_rfl) (by kernel_rfl) (by kernel_rfl) (fun _ _ _ h => h) (Or.inl ⟨by rfl, ?hy36⟩) (by assumption) ?rest36
  case hy36 =>
    intro w' hS
    have ht := hS.at (show wY.drew.heap[Z]? = _ from hz) (by simp)
    have ht0 := cell_two0 ht
    have ht1 := cell_two1 ht
    go_simp
    try with_reducible rfl
  try simp only [Act.put, List.setIfInBounds_toArray, List.set_cons_zero, List.set_cons_succ]
  refine' wpAnyH_take (i := 45) (v := _) (op_at rfl) (by kernel_rfl) (by kernel_rfl) (by kernel_rfl) (fun _ _ _ h => h) (Or.inl ⟨by rfl, ?hy37⟩) (by assumption) ?rest37
  case hy37 =>
    intro w' hS
    go_simp
    try with_reducible rfl
  try simp only [Act.put, List.setIfInBounds_toArray, List.set_cons_zero, List.set_cons_succ]
  refine' wpAnyH_take (i := 49) (v := _) (op_at rfl) (by kernel_rfl) (by kernel_rfl) (by kernel_rfl) (fun _ _ _ h => h) (Or.inl ⟨by rfl, ?hy38⟩) (by assumption) ?rest38
  case hy38 =>
    intro w' hS
    go_simp
    try with_reducible rfl
  try simp only [Act.put, List.setIfInBounds_toArray, List.set_cons_zero, List.set_cons_succ]
  refine' wpAnyH_take (i := 50) (v := _) (op_at rfl) (by kernel_rfl) (by kernel_rfl) (by kernel_rfl) (fun _ _ _ h => h) (Or.inl ⟨by rfl, ?hy39⟩) (by assumption) ?rest39
  case hy39 =>
    intro w' hS
    have ht := hS.at (show wY.drew.heap[Z]? = _ from hz) (by simp)
    have ht0 := cell_two0 ht
    have ht1 := cell_two1 ht
    go_simp
    try with_reducible rfl
  try simp only [Act.put, List.setIfInBounds_toArray, List.set_cons_zero, List.set_cons_succ]
  refine wpAnyH_ready (rs := [37]) (by kernel_rfl) (by simp) (AllReadyH.cons (op_at rfl) (fun K hK => ?_) AllReadyH.nil)
  go_simp
  refine (list_nil user _).mono fun e wq hq => ?_
  obtain ⟨rfl, o⟩ := hq
  go_wp2_with fail
  refine hK.out _ _ (hHeld.trans o) (fun hHeld => ?_)
  clear hK K
  try simp only [Act.put, List.setIfInBounds_toArray, List.set_cons_zero, List.set_cons_succ]
  refine' wpAnyH_take (i := 38) (v := _) (op_at rfl) (by kernel_rfl) (by kernel_rfl) (by kernel_rfl) (fun _ _ _ h => h) (Or.inl ⟨by rfl, ?hy40⟩) (by assumption) ?rest40
  case hy40 =>
    intro w' hS
    go_simp
    try with_reducible rfl
  try simp only [Act.put, List.setIfInBounds_toArray, List.set_cons_zero, List.set_cons_succ]
  refine wpAnyH_ready (rs := [40]) (by kernel_rfl) (by simp) (AllReadyH.cons (op_at rfl) (fun K hK => ?_) AllReadyH.nil)
  go_simp
  refine (all_nil _).mono fun e wq hq => ?_
  obtain ⟨rfl, o⟩ := hq
  go_wp2_with fail
  refine hK.out _ _ (hHeld.trans o) (fun hHeld => ?_)
  clear hK K
  try simp only [Act.put, List.setIfInBounds_toArray, List.set_cons_zero, List.set_cons_succ]
  refine' wpAnyH_take (i := 41) (v := _) (op_at rfl) (by kernel_rfl) (by kernel_rfl) (by kernel_rfl) (fun _ _ _ h => h) (Or.inl ⟨by rfl, ?hy41⟩) (by assumption) ?rest41
  case hy41 =>
    intro w' hS
    go_simp
    try with_reducible rfl
  try simp only [Act.put, List.setIfInBounds_toArray, List.set_cons_zero, List.set_cons_succ]
  refine' wpAnyH_take (i := 42) (v := _) (op_at rfl) (by kernel_rfl) (by kernel_rfl) (by kernel_rfl) (fun _ _ _ h => h) (Or.inl ⟨by rfl, ?hy42⟩) (by assumption) ?rest42
  case hy42 =>
    intro w' hS
    go_simp
    try with_reducible rfl
  try simp only [Act.put, List.setIfInBounds_toArray, List.set_cons_zero, List.set_cons_succ]
  refine wpAnyH_ready (rs := [46]) (by kernel_rfl) (by simp) (AllReadyH.cons (op_at rfl) (fun K hK => ?_) AllReadyH.nil)
  go_simp
  refine (audience_nil u d user _).mono fun e wq hq => ?_
  obtain ⟨rfl, o⟩ := hq
  go_wp2_with fail
  refine hK.out _ _ (hHeld.trans o) (fun hHeld => ?_)
  clear hK K
  try simp only [Act.put, List.setIfInBounds_toArray, List.set_cons_zero, List.set_cons_succ]
  refine' wpAnyH_take (i := 47) (v := _) (op_at rfl) (by kernel_rfl) (by kernel_rfl) (by kernel_rfl) (fun _ _ _ h => h) (Or.inl ⟨by rfl, ?hy43⟩) (by assumption) ?rest43
  case hy43 =>
    intro w' hS
    go_simp
    try with_reducible rfl
  try simp only [Act.put, List.setIfInBounds_toArray, List.set_cons_zero, List.set_cons_succ]
  refine' wpAnyH_take (i := 48) (v := _) (op_at rfl) (by kernel_rfl) (by kernel_rfl) (by kernel_rfl) (fun _ _ _ h => h) (Or.inl ⟨by rfl, ?hy44⟩) (by assumption) ?rest44
  case hy44 =>
    intro w' hS
    go_simp
    try with_reducible rfl
  try simp only [Act.put, List.setIfInBounds_toArray, List.set_cons_zero, List.set_cons_succ]
  refine wpAnyH_ready (rs := [51]) (by kernel_rfl) (by simp) (AllReadyH.cons (op_at rfl) (fun K hK => ?_) AllReadyH.nil)
  go_simp
  refine (left_nil u d _).mono fun e wq hq => ?_
  obtain ⟨rfl, o⟩ := hq
  go_wp2_with fail
  refine hK.out _ _ (hHeld.trans o) (fun hHeld => ?_)
  clear hK K
  try simp only [Act.put, List.setIfInBounds_toArray, List.set_cons_zero, List.set_cons_succ]
  refine' wpAnyH_take (i := 52) (v := _) (op_at rfl) (by kernel_rfl) (by kernel_rfl) (by kernel_rfl) (fun _ _ _ h => h) (Or.inl ⟨by rfl, ?hy45⟩) (by assumption) ?rest45
  case hy45 =>
    intro w' hS
    go_simp
    try with_reducible rfl
  try simp only [Act.put, List.setIfInBounds_toArray, List.set_cons_zero, List.set_cons_succ]
  refine' wpAnyH_take (i := 53) (v := _) (op_at rfl) (by kernel_rfl) (by kernel_rfl) (by kernel_rfl) (fun _ _ _ h => h) (Or.inl ⟨by rfl, ?hy46⟩) (by assumption) ?rest46
  case hy46 =>
    intro w' hS
    go_simp
    try with_reducible rfl
  try simp only [Act.put, List.setIfInBounds_toArray, List.set_cons_zero, List.set_cons_succ]
  refine' wpAnyH_take (i := 54) (v := _) (op_at rfl) (by kernel_rfl) (by kernel_rfl) (by kernel_rfl) (fun _ _ _ h => h) (Or.inl ⟨by rfl, ?hy47⟩) (by assumption) ?rest47
  case hy47 =>
    intro w' hS
    go_simp
    try with_reducible rfl
  try simp only [Act.put, List.setIfInBounds_toArray, List.set_cons_zero, List.set_cons_succ]
  refine' wpAnyH_take (i := 55) (v := _) (op_at rfl) (by kernel_rfl) (by kernel_rfl) (by kernel_rfl) (fun _ _ _ h => h) (Or.inl ⟨by rfl, ?hy48⟩) (by assumption) ?rest48
  case hy48 =>
    intro w' hS
    go_simp
    try with_reducible rfl
  try simp only [Act.put, List.setIfInBounds_toArray, List.set_cons_zero, List.set_cons_succ]
  refine' wpAnyH_take (i := 56) (v := _) (op_at rfl) (by kernel_rfl) (by kernel_rfl) (by kernel_rfl) (fun _ _ _ h => h) (Or.inl ⟨by rfl, ?hy49⟩) (by assumption) ?rest49
  case hy49 =>
    intro w' hS
    go_simp
    try with_reducible rfl
  try simp only [Act.put, List.setIfInBounds_toArray, List.set_cons_zero, List.set_cons_succ]
  refine' wpAnyH_take (i := 57) (v := _) (op_at rfl) (by kernel_rfl) (by kernel_rfl) (by kernel_rfl) (fun _ _ _ h => h) (Or.inl ⟨by rfl, ?hy50⟩) (by assumption) ?rest50
  case hy50 =>
    intro w' hS
    go_simp
    try with_reducible rfl
  try simp only [Act.put, List.setIfInBounds_toArray, List.set_cons_zero, List.set_cons_succ]
  refine' wpAnyH_take (i := 58) (v := _) (op_at rfl) (by kernel_rfl) (by kernel_rfl) (by kernel_rfl) (fun _ _ _ h => h) (Or.inl ⟨by rfl, ?hy51⟩) (by assumption) ?rest51
  case hy51 =>
    intro w' hS
    go_simp
    try with_reducible rfl
  try simp only [Act.put, List.setIfInBounds_toArray, List.set_cons_zero, List.set_cons_succ]
  refine' wpAnyH_take (i := 59) (v := _) (op_at rfl) (by kernel_rfl) (by kernel_rfl) (by kernel_rfl) (fun _ _ _ h => h) (Or.inl ⟨by rfl, ?hy52⟩) (by assumption) ?rest52
  case hy52 =>
    intro w' hS
    go_simp
    try with_reducible rfl
  try simp only [Act.put, List.setIfInBounds_toArray, List.set_cons_zero, List.set_cons_succ]
  refine' wpAnyH_take (i := 60) (v := _) (op_at rfl) (by kernel_rfl) (by kernel_rfl) (by kernel_rfl) (fun _ _ _ h => h) (Or.inl ⟨by rfl, ?hy53⟩) (by assumption) ?rest53
  case hy53 =>
    intro w' hS
    go_simp
    try with_reducible rfl
  try simp only [Act.put, List.setIfInBounds_toArray, List.set_cons_zero, List.set_cons_succ]
  refine' wpAnyH_take (i := 61) (v := _) (op_at rfl) (by kernel_rfl) (by kernel_rfl) (by kernel_rfl) (fun _ _ _ h => h) (Or.inl ⟨by rfl, ?hy54⟩) (by assumption) ?rest54
  case hy54 =>
    intro w' hS
    go_simp
    try with_reducible rfl
  try simp only [Act.put, List.setIfInBounds_toArray, List.set_cons_zero, List.set_cons_succ]
  refine' wpAnyH_take (i := 62) (v := _) (op_at rfl) (by kernel_rfl) (by kernel_rfl) (by kernel_rfl) (fun _ _ _ h => h) (Or.inl ⟨by rfl, ?hy55⟩) (by assumption) ?rest55
  case hy55 =>
    intro w' hS
    go_simp
    try with_reducible rfl
  try simp only [Act.put, List.setIfInBounds_toArray, List.set_cons_zero, List.set_cons_succ]
  refine' wpAnyH_take (i := 63) (v := _) (op_at rfl) (by kernel_rfl) (by kernel_rfl) (by kernel_rfl) (fun _ _ _ h => h) (Or.inl ⟨by rfl, ?hy56⟩) (by assumption) ?rest56
  case hy56 =>
    intro w' hS
    go_simp
    try with_reducible rfl
  try simp only [Act.put, List.setIfInBounds_toArray, List.set_cons_zero, List.set_cons_succ]
  refine' wpAnyH_take (i := 64) (v := _) (op_at rfl) (by kernel_rfl) (by kernel_rfl) (by kernel_rfl) (fun _ _ _ h => h) (Or.inl ⟨by rfl, ?hy57⟩) (by assumption) ?rest57
  case hy57 =>
    intro w' hS
    go_simp
    try with_reducible rfl
  try simp only [Act.put, List.setIfInBounds_toArray, List.set_cons_zero, List.set_cons_succ]
  refine' wpAnyH_take (i := 65) (v := _) (op_at rfl) (by kernel_rfl) (by kernel_rfl) (by kernel_rfl) (fun _ _ _ h => h) (Or.inl ⟨by rfl, ?hy58⟩) (by assumption) ?rest58
  case hy58 =>
    intro w' hS
    have ht := hS.at (show wY.drew.heap[Z]? = _ from hz) (by simp)
    have ht0 := cell_two0 ht
    have ht1 := cell_two1 ht
    go_simp
    try with_reducible rfl
  try simp only [Act.put, List.setIfInBounds_toArray, List.set_cons_zero, List.set_cons_succ]
  refine wpAnyH_ready (rs := [66]) (by kernel_rfl) (by simp) (AllReadyH.cons (op_at rfl) (fun K hK => ?_) AllReadyH.nil)
  go_simp
  refine (remove_none B [] _ u d _ (st.quiet ((Only.drew wY []).trans hHeld)) (by simp) rise_nil rfl).mono fun e wq hq => ?_
  obtain ⟨rfl, o⟩ := hq
  go_wp2_with fail
  refine hK.out _ _ (hHeld.trans o) (fun hHeld => ?_)
  clear hK K
  try simp only [Act.put, List.setIfInBounds_toArray, List.set_cons_zero, List.set_cons_succ]
  refine' wpAnyH_take (i := 67) (v := _) (op_at rfl) (by kernel_rfl) (by kernel_rfl) (by kernel_rfl) (fun _ _ _ h => h) (Or.inl ⟨by rfl, ?hy59⟩) (by assumption) ?rest59
  case hy59 =>
    intro w' hS
    go_simp
    try with_reducible rfl
  try simp only [Act.put, List.setIfInBounds_toArray, List.set_cons_zero, List.set_cons_succ]
  refine' wpAnyH_take (i := 68) (v := _) (op_at rfl) (by kernel_rfl) (by kernel_rfl) (by kernel_rfl) (fun _ _ _ h => h) (Or.inl ⟨by rfl, ?hy60⟩) (by assumption) ?rest60
  case hy60 =>
    intro w' hS
    go_simp
    try with_reducible rfl
  try simp only [Act.put, List.setIfInBounds_toArray, List.set_cons_zero, List.set_cons_succ]
  refine' wpAnyH_take (i := 69) (v := _) (op_at rfl) (by kernel_rfl) (by kernel_rfl) (by kernel_rfl) (fun _ _ _ h => h) (Or.inl ⟨by rfl, ?hy61⟩) (by assumption) ?rest61
  case hy61 =>
    intro w' hS
    go_simp
    try with_reducible rfl
  try simp only [Act.put, List.setIfInBounds_toArray, List.set_cons_zero, List.set_cons_succ]
  refine' wpAnyH_take (i := 70) (v := _) (op_at rfl) (by kernel_rfl) (by kernel_rfl) (by kernel_rfl) (fun _ _ _ h => h) (Or.inl ⟨by rfl, ?hy62⟩) (by assumption) ?rest62
  case hy62 =>
    intro w' hS
    go_simp
    try with_reducible rfl
  try simp only [Act.put, List.setIfInBounds_toArray, List.set_cons_zero, List.set_cons_succ]
  refine' wpAnyH_take (i := 71) (v := _) (op_at rfl) (by kernel_rfl) (by kernel_rfl) (by kernel_rfl) (fun _ _ _ h => h) (Or.inl ⟨by rfl, ?hy63⟩) (by assumption) ?rest63
  case hy63 =>
    intro w' hS
    have ht := hS.at (show wY.drew.heap[Z]? = _ from hz) (by simp)
    have ht0 := cell_two0 ht
    have ht1 := cell_two1 ht
    go_simp
    try with_reducible rfl
  try simp only [Act.put, List.setIfInBounds_toArray, List.set_cons_zero, List.set_cons_succ]
  refine wpAnyH_ready (rs := [72]) (by kernel_rfl) (by simp) (AllReadyH.cons (op_at rfl) (fun K hK => ?_) AllReadyH.nil)
  go_simp
  refine (publish_none B [] _ u d _ _ (st.quiet ((Only.drew wY []).trans hHeld)) (by simp) rise_nil rfl).mono fun e wq hq => ?_
  obtain ⟨rfl, o⟩ := hq
  go_wp2_with fail
  refine hK.out _ _ (hHeld.trans o) (fun hHeld => ?_)
  clear hK K
  try simp only [Act.put, List.setIfInBounds_toArray, List.set_cons_zero, List.set_cons_succ]
  refine' wpAnyH_take (i := 73) (v := _) (op_at rfl) (by kernel_rfl) (by kernel_rfl) (by kernel_rfl) (fun _ _ _ h => h) (Or.inl ⟨by rfl, ?hy64⟩) (by assumption) ?rest64
  case hy64 =>
    intro w' hS
    go_simp
    try with_reducible rfl
  try simp only [Act.put, List.setIfInBounds_toArray, List.set_cons_zero, List.set_cons_succ]
  refine' wpAnyH_take (i := 74) (v := _) (op_at rfl) (by kernel_rfl) (by kernel_rfl) (by kernel_rfl) (fun _ _ _ h => h) (Or.inl ⟨by rfl, ?hy65⟩) (by assumption) ?rest65
  case hy65 =>
    intro w' hS
    go_simp
    try with_reducible rfl
  try simp only [Act.put, List.setIfInBounds_toArray, List.set_cons_zero, List.set_cons_succ]
  refine' wpAnyH_take (i := 75) (v := _) (op_at rfl) (by kernel_rfl) (by kernel_rfl) (by kernel_rfl) (fun _ _ _ h => h) (Or.inl ⟨by rfl, ?hy66⟩) (by assumption) ?rest66
  case hy66 =>
    intro w' hS
    go_simp
    try with_reducible rfl
  try simp only [Act.put, List.setIfInBounds_toArray, List.set_cons_zero, List.set_cons_succ]
  refine' wpAnyH_take (i := 76) (v := _) (op_at rfl) (by kernel_rfl) (by kernel_rfl) (by kernel_rfl) (fun _ _ _ h => h) (Or.inl ⟨by rfl, ?hy67⟩) (by assumption) ?rest67
  case hy67 =>
    intro w' hS
    go_simp
    try with_reducible rfl
  try simp only [Act.put, List.setIfInBounds_toArray, List.set_cons_zero, List.set_cons_succ]
  refine' wpAnyH_take (i := 77) (v := _) (op_at rfl) (by kernel_rfl) (by kernel_rfl) (by kernel_rfl) (fun _ _ _ h => h) (Or.inl ⟨by rfl, ?hy68⟩) (by assumption) ?rest68
  case hy68 =>
    intro w' hS
    have ht := hS.at (show wY.drew.heap[Z]? = _ from hz) (by simp)
    have ht0 := cell_two0 ht
    have ht1 := cell_two1 ht
    go_simp
    try with_reducible rfl
  try simp only [Act.put, List.setIfInBounds_toArray, List.set_cons_zero, List.set_cons_succ]
  refine' wpAnyH_take (i := 78) (v := _) (op_at rfl) (by kernel_rfl) (by kernel_rfl) (by kernel_rfl) (fun _ _ _ h => h) (Or.inl ⟨by rfl, ?hy69⟩) (by assumption) ?rest69
  case hy69 =>
    intro w' hS
    go_simp
    try with_reducible rfl
  try simp only [Act.put, List.setIfInBounds_toArray, List.set_cons_zero, List.set_cons_succ]
  refine wpAnyH_ready (rs := [79]) (by kernel_rfl) (by simp) (AllReadyH.cons (op_at rfl) (fun K hK => ?_) AllReadyH.nil)
  go_simp
  refine (audience_empty B u d user _ (st.quiet ((Only.drew wY []).trans hHeld))).mono fun e wq hq => ?_
  obtain ⟨rfl, o⟩ := hq
  go_wp2_with fail
  refine hK.out _ _ (hHeld.trans o) (fun hHeld => ?_)
  clear hK K
  try simp only [Act.put, List.setIfInBounds_toArray, List.set_cons_zero, List.set_cons_succ]
  refine' wpAnyH_take (i := 80) (v := _) (op_at rfl) (by kernel_rfl) (by kernel_rfl) (by kernel_rfl) (fun _ _ _ h => h) (Or.inl ⟨by rfl, ?hy70⟩) (by assumption) ?rest70
  case hy70 =>
    intro w' hS
    go_simp
    try with_reducible rfl
  try simp only [Act.put, List.setIfInBounds_toArray, List.set_cons_zero, List.set_cons_succ]
  refine' wpAnyH_take (i := 81) (v := _) (op_at rfl) (by kernel_rfl) (by kernel_rfl) (by kernel_rfl) (fun _ _ _ h => h) (Or.inl ⟨by rfl, ?hy71⟩) (by assumption) ?rest71
  case hy71 =>
    intro w' hS
    go_simp
    try with_reducible rfl
  try simp only [Act.put, List.setIfInBounds_toArray, List.set_cons_zero, List.set_cons_succ]
  refine' wpAnyH_take (i := 82) (v := _) (op_at rfl) (by kernel_rfl) (by kernel_rfl) (by kernel_rfl) (fun _ _ _ h => h) (Or.inl ⟨by rfl, ?hy72⟩) (by assumption) ?rest72
  case hy72 =>
    intro w' hS
    go_simp
    try with_reducible rfl
  try simp only [Act.put, List.setIfInBounds_toArray, List.set_cons_zero, List.set_cons_succ]
  refine' wpAnyH_take (i := 83) (v := _) (op_at rfl) (by kernel_rfl) (by kernel_rfl) (by kernel_rfl) (fun _ _ _ h => h) (Or.inl ⟨by rfl, ?hy73⟩) (by assumption) ?rest73
  case hy73 =>
    intro w' hS
    go_simp
    try with_reducible rfl
  try simp only [Act.put, List.setIfInBounds_toArray, List.set_cons_zero, List.set_cons_succ]
  refine wpAnyH_done (by kernel_rfl) ?_ _
  go_wp2_with fail
  go_ret
  exact ⟨rfl, ((oS.trans st.only).trans ((Only.drew wY []).trans hHeld)).below (Nat.le_refl _) (by simp)⟩

theorem cnInt : Try.prog.cellsOf 3 = 1 := by kernel_rfl
theorem cnWho : Try.prog.cellsOf 30 = 2 := by kernel_rfl
theorem list2 {α : Type} (l : List α) (h : l.length = 2) : ∃ a0 a1, l = [a0, a1] := by
  match l, h with
  | [a0, a1], _ => exact ⟨_, _, rfl⟩
set_option maxRecDepth 100000 in
theorem open_who {W : World} {H : Type} {enc : TypeId × Value → H} {base : Nat} {v : Value} {d : DataW H} {p : List MemPlace} (h0 : Value.okWide Try.prog W .any base 30 v) (h1 : DataW.Trod enc Try.prog W 0 (fun _ => true) true 30 v d p) : ∃ u d, v = .agg #[.int .i64 u, .int .i64 d] := by
  obtain ⟨cs, rfl, hsz⟩ := Go.WideShapes.okWide_struct Try.underlying30 h0
  obtain ⟨a0, a1, hl⟩ := list2 cs.toList (by simpa using hsz.trans cnWho)
  have hr := reads_of h1
  rw [show (Value.agg cs).cells.toList = cs.toList from rfl, hl] at hr
  obtain ⟨u, hu, _⟩ := reads_int Try.underlying3 (reads_field Try.underlying30 hr 0 _ rfl 0 1 3 rfl rfl cnInt)
  obtain ⟨d, hd, _⟩ := reads_int Try.underlying3 (reads_field Try.underlying30 hr 1 _ rfl 1 1 3 rfl rfl cnInt)
  simp only [List.drop_zero, List.take_succ_cons, List.take_zero, List.drop_succ_cons, List.cons.injEq, and_true] at hu hd
  subst hu hd
  exact ⟨u, d, by rw [← Array.toArray_toList (xs := cs), hl]⟩
set_option maxRecDepth 100000 in
theorem registryNil_holds : Rows.RegistryNilSaid := registryNil.said fun H enc base W v0 v1 d0 p0 d1 p1 h0 h1 h2 h3 => by
  obtain ⟨u, d, rfl⟩ := open_who h0 h1
  obtain ⟨n, rfl, _⟩ := Go.ChangeShapes.open_int Try.underlying3 h2 h3
  exact nil_walk u d n W
end Go.Proofs.Yteljkfihmbddaaa
