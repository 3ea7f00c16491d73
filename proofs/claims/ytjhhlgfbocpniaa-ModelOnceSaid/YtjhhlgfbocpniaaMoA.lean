/- awake of layer 25 (model). Printed by gen_moa.py. -/
import Derived.Test.YtjhhlgfbocpniaaMo7
import Derived.Lib.SmallJoins
namespace Go.Pw
open Go.RowKit
set_option linter.unusedVariables false
theorem wpList_convert_got {P : Program} {W : World} {C : Array Value} {g n c : Nat} {ops : Array Oper} {rest : List Oper} {op : Oper} {a : Act} {Q : Exit → Act → World → Prop} (hw : Region.wanted op (yielded ops a.tmps) = true) (x : Operand) (t e : TypeId) (ho : op.op = .convert t t x)
    (hx : a.eval x = .slice (some ⟨g, 0, none⟩) n c) (hg : g = W.heap.size) (ht : P.underlying t = some (.slice e)) (he : P.underlying e = some (.int .u8))
    (h : wpList P ops Q rest (a.put op.dst (.slice (some ⟨g, 0, none⟩) n c)) (W.alloc (.cells C e (C.size, C.size + 1)))) : wpList P ops Q (op :: rest) a (W.alloc (.cells C e)) :=
  wpList_step fun K hK => by
    rw [if_pos hw]
    unfold Oper.wp execOp
    have hr := Joins.run_convert_bytes_const_at (P := P) W t e C n c g hg ht he
    simp only [ho, hx, hr, Sem.run_bind, Result.andThen_ok]
    exact hK _ _ h
end Go.Pw
namespace Go.Proofs.Ytjhhlgfbocpniaa
open Go.RowKit Go.Pw
set_option linter.unusedVariables false

theorem link_at {w0 : World} {rs : List Res} (B : Nat) (on : List (Int × Int)) (cs : List Int) (v nv : Value) (ns : List No) (k : Nat) (n u d : Int) (w : World) (h : Sep w0 w (modR B v on cs nv ns rs)) (hc8 : cs.length = 8) (hl : on.length ≤ 11) (hk : k < 8) (hn : cs[k]? = some n) (hn0 : 0 ≤ n ∧ n ≤ 1000)
    (hu : u = (k : Int)) (hd : d = n + 1) (hfew : (on.filter fun p => p.1 == u).length < 4) (hup : Up (on ++ [(u, d)])) :
    Calls Try.prog 6 #[.pointer (some ⟨B, 0, none⟩), .agg #[.int .i64 u, .int .i64 d]] w (Linked w0 rs B (on ++ [(u, d)]) (cs.set k d) nv ns) := by
  subst hu hd
  exact link_ok B on cs v nv ns k n w h hc8 hl hk hn hn0 hfew hup

theorem up_two : Up ([((0 : Int), (1 : Int))] ++ [((1 : Int), (1 : Int))]) := fun i hi => by
  obtain rfl : i = 0 := by simp at hi; omega
  show 0 ≤ cmpW 1 1 0 1
  decide
theorem up_one : Up ([] ++ [((0 : Int), (1 : Int))]) := fun i hi => by simp at hi

set_option maxRecDepth 100000 in
set_option maxHeartbeats 1600000 in
theorem awake_any (w : World) : Calls Try.prog 4 #[] w fun e w' => e = .returned (.bool true) ∧ Only w w' [] := by
  have h1c : ([.int .i64 0, .int .i64 1] : List Value).toArray.all (·.oneCell') = true := by simp [Value.oneCell']
  have h2c : ([.int .i64 1, .int .i64 1] : List Value).toArray.all (·.oneCell') = true := by simp [Value.oneCell']
  go_enter Try.func4, Try.ntmps4
  go_wp2_with fail
  refine (new_any _).mono ?_
  rintro e w1 ⟨rfl, s1⟩
  generalize w.heap.size = B at *
  go_upto_region 3 with (first
    | (refine wpList_alloc_new rfl 27 rfl (.agg #[.int .i64 0, .int .i64 0]) (fun _ => by kernel_rfl) ?_; intro X wX oX hXl hX)
    | (refine wpList_store_blk rfl 27 _ _ rfl X [.int .i64 0, .int .i64 1] rfl rfl hX rfl (by kernel_rfl) h1c ?_; intro wY oY hY; have s2 := s1.add (b := blk X [.int .i64 0, .int .i64 1] 27) (oX.new oY (fun i hi => by simp only [List.mem_singleton] at hi; omega)) hY (fun k hk => by simp [blk] at hk; omega); clear s1 hX oX oY hY))
  clear hXl
  go_upto_region 4 with (first
    | (refine wpList_alloc_new rfl 27 rfl (.agg #[.int .i64 0, .int .i64 0]) (fun _ => by kernel_rfl) ?_; intro Z wZ oZ hZl hZ)
    | (refine wpList_store_blk rfl 27 _ _ rfl Z [.int .i64 1, .int .i64 1] rfl rfl hZ rfl (by kernel_rfl) h2c ?_; intro wU oU hU; have s3 := s2.add (b := blk Z [.int .i64 1, .int .i64 1] 27) (oZ.new oU (fun i hi => by simp only [List.mem_singleton] at hi; omega)) hU (fun k hk => by simp [blk] at hk; omega); clear s2 hZ oZ oU hU))
  clear hZl
  have s4 : Sep w wU (modR B (.slice none 0 0) [] (List.replicate 8 0) (.slice none 0 0) [] [blk X [.int .i64 0, .int .i64 1] 27, blk Z [.int .i64 1, .int .i64 1] 27]) := s3.sel 5 [2, 3, 4, 1, 0]
  have hX : wU.heap[X]? = some (.cells #[.int .i64 0, .int .i64 1] 27 (0, 0)) := (s4.sel 4 [3]).head
  have hx0 := cell_two0 hX
  have hx1 := cell_two1 hX
  clear s3 hX
  go_wp2_with fail
  refine (link_at B [] _ _ _ [] 0 0 0 1 _ s4 (by simp) (by simp) (by decide) rfl (by decide) rfl rfl (by simp) up_one).mono ?_
  rintro e w2 ⟨rfl, a2, c2, s5⟩
  have hZ : w2.heap[Z]? = some (.cells #[.int .i64 1, .int .i64 1] 27 (0, 0)) := (s5.sel 5 [4]).head
  have hz0 := cell_two0 hZ
  have hz1 := cell_two1 hZ
  clear s4 hZ hx0 hx1
  go_wp2_with fail
  refine (link_at B ([] ++ [((0 : Int), (1 : Int))]) _ _ _ [] 1 0 1 1 _ s5 (by simp) (by simp) (by decide) rfl (by decide) rfl rfl (by simp) up_two).mono ?_
  rintro e w3 ⟨rfl, a3, c3, s6⟩
  have hX : w3.heap[X]? = some (.cells #[.int .i64 0, .int .i64 1] 27 (0, 0)) := (s6.sel 4 [3]).head
  have hx0 := cell_two0 hX
  have hx1 := cell_two1 hX
  clear s5 hX hz0 hz1
  simp only [List.nil_append, List.cons_append, List.length_cons, List.length_nil, Nat.zero_add, Nat.reduceAdd] at s6
  generalize hcs : ((List.replicate 8 (0 : Int)).set 0 1).set 1 1 = cs at s6
  have hc8 : cs.length = 8 := by rw [← hcs]; simp
  clear hcs
  go_wp2_with (refine wpList_convert_got (by rfl) _ 22 5 rfl rfl (by simp) Try.underlying22 Try.underlying5 ?_)
  have hsrc := src_litF w3 [.int .u8 104, .int .u8 105] 5 (2, 3) 2 1 rfl
  have s7 := s6.quiet (Only.alloc w3 (.cells #[.int .u8 104, .int .u8 105] 5 (2, 3)) [])
  refine (send_ok B [((0 : Int), (1 : Int)), (1, 1)] cs _ _ 0 1 1 _ [104, 105] _ s7 hc8 (by simp) (by decide) (by decide) hsrc (by simp)).mono ?_
  rintro e w4 ⟨rfl, a4, c4, g, k, x, x1, x2, x3, x4, x5, x6, x7, x8, x9, s8⟩
  have hX : w4.heap[X]? = some (.cells #[.int .i64 0, .int .i64 1] 27 (0, 0)) := (s8.sel 5 [4]).head
  clear hx0 hx1 s6 s7 hsrc
  have hx0 := cell_two0 hX
  have hx1 := cell_two1 hX
  clear hX
  have X4 := Lib.hid x4
  have X8 := Lib.hid x8
  have X9 := Lib.hid x9
  have X5 := Lib.hid x5
  clear x4 x5 x8 x9
  go_wp2_with fail
  refine (take_ok B g k [((0 : Int), (1 : Int)), (1, 1)] [((1 : Int), (1 : Int))] cs _ 0 1 1 x _ s8 hc8 (by simp) x1 x2 x3 x6 x7 (by decide) (by rw [X4.out]; decide) (by simp) (by rw [X4.out]; decide)).mono ?_
  rintro e w5 ⟨a5, c5, a6, c6, rfl, x', y1, y2, y3, y4, y5, y6, y7, y8, y9, s9⟩
  simp only [List.length_singleton] at s9 y8
  have Y8 := Lib.hid y8
  have Y9 := Lib.hid y9
  have Y6 := Lib.hid y6
  clear s8 hx0 hx1 x1 x2 x3 x6 x7 y1 y2 y3 y4 y5 y6 y7 y8 y9
  go_upto_region 7 with fail
  have hG : w5.ownsRow 0 27 2 (.slice a6 1 c6) 1 (fl wc [((1 : Int), (1 : Int))]) := (s9.sel 5 [4]).head
  obtain ⟨gl, rfl, _⟩ := own_some hG (by decide)
  have hZ5 : w5.heap[Z]? = some (.cells #[.int .i64 1, .int .i64 1] 27 (0, 0)) := (s9.sel 8 [7]).head
  have sQ := s9.quiet (Only.drew w5 [])
  have sL : Sep w w5.drew (modR B (.slice a3 2 c3) [((0 : Int), (1 : Int)), (1, 1)] cs (.slice (some ⟨g, 0, none⟩) 1 k) [x'] (row 27 2 x'.av ([((1 : Int), (1 : Int))] : List (Int × Int)).length (fl wc [((1 : Int), (1 : Int))]) :: row 27 2 x'.cv ([] : List (Int × Int)).length (fl wc []) :: [])) := by
    rw [Y8.out, Y9.out, X9.out]
    exact (sQ.rown 27 2).sel 9 [1, 2, 3, 4, 0]
  have Hlack := lacking_one B [((0 : Int), (1 : Int)), (1, 1)] [((1 : Int), (1 : Int))] [] cs _ _ x' w5.drew sL hc8 (by simp) (by simp) (by simp)
  have Hopen := fun (w' : World) (o : Only w5.drew w' []) => open_any B [((0 : Int), (1 : Int)), (1, 1)] cs _ _ [x'] w' (sQ.quiet o) hc8 (by simp)
  rw [show ([((1 : Int), (1 : Int))].filter (lack [((0 : Int), (1 : Int)), (1, 1)] [])).length = 1 by decide] at Hlack
  rw [show ([x'].filter (fun x => !x.tk && !x.ls)).length = 0 by simp [Y6.out]] at Hopen
  have oF := s9.only
  clear s9 sQ sL
  refine wp_region_held_drew (S := fun w' => Only w5.drew w' []) (by kernel_rfl) (Only.refl _ _) (fun hHeld => ?_)
  refine' wpAnyH_take (i := 0) (v := _) (op_at rfl) (by kernel_rfl) (by kernel_rfl) (by kernel_rfl) (fun _ _ _ h => h) (Or.inl ⟨by rfl, ?hy1⟩) (by assumption) ?rest1
  case hy1 =>
    intro w' hS
    go_simp
    try with_reducible rfl
  try simp only [Act.put, List.setIfInBounds_toArray, List.set_cons_zero, List.set_cons_succ]
  refine' wpAnyH_take (i := 1) (v := _) (op_at rfl) (by kernel_rfl) (by kernel_rfl) (by kernel_rfl) (fun _ _ _ h => h) (Or.inl ⟨by rfl, ?hy2⟩) (by assumption) ?rest2
  case hy2 =>
    intro w' hS
    go_simp
    try with_reducible rfl
  try simp only [Act.put, List.setIfInBounds_toArray, List.set_cons_zero, List.set_cons_succ]
  refine' wpAnyH_take (i := 2) (v := _) (op_at rfl) (by kernel_rfl) (by kernel_rfl) (by kernel_rfl) (fun _ _ _ h => h) (Or.inl ⟨by rfl, ?hy3⟩) (by assumption) ?rest3
  case hy3 =>
    intro w' hS
    go_simp
    try with_reducible rfl
  try simp only [Act.put, List.setIfInBounds_toArray, List.set_cons_zero, List.set_cons_succ]
  refine' wpAnyH_take (i := 3) (v := _) (op_at rfl) (by kernel_rfl) (by kernel_rfl) (by kernel_rfl) (fun _ _ _ h => h) (Or.inl ⟨by rfl, ?hy4⟩) (by assumption) ?rest4
  case hy4 =>
    intro w' hS
    go_simp
    try with_reducible rfl
  try simp only [Act.put, List.setIfInBounds_toArray, List.set_cons_zero, List.set_cons_succ]
  refine' wpAnyH_take (i := 4) (v := _) (op_at rfl) (by kernel_rfl) (by kernel_rfl) (by kernel_rfl) (fun _ _ _ h => h) (Or.inl ⟨by rfl, ?hy5⟩) (by assumption) ?rest5
  case hy5 =>
    intro w' hS
    go_simp
    try with_reducible rfl
  try simp only [Act.put, List.setIfInBounds_toArray, List.set_cons_zero, List.set_cons_succ]
  refine' wpAnyH_take (i := 5) (v := _) (op_at rfl) (by kernel_rfl) (by kernel_rfl) (by kernel_rfl) (fun _ _ _ h => h) (Or.inl ⟨by rfl, ?hy6⟩) (by assumption) ?rest6
  case hy6 =>
    intro w' hS
    go_simp
    try with_reducible rfl
  try simp only [Act.put, List.setIfInBounds_toArray, List.set_cons_zero, List.set_cons_succ]
  refine' wpAnyH_take (i := 6) (v := _) (op_at rfl) (by kernel_rfl) (by kernel_rfl) (by kernel_rfl) (fun _ _ _ h => h) (Or.inl ⟨by rfl, ?hy7⟩) (by assumption) ?rest7
  case hy7 =>
    intro w' hS
    go_simp
    try with_reducible rfl
  try simp only [Act.put, List.setIfInBounds_toArray, List.set_cons_zero, List.set_cons_succ]
  refine' wpAnyH_take (i := 7) (v := _) (op_at rfl) (by kernel_rfl) (by kernel_rfl) (by kernel_rfl) (fun _ _ _ h => h) (Or.inl ⟨by rfl, ?hy8⟩) (by assumption) ?rest8
  case hy8 =>
    intro w' hS
    go_simp
    try with_reducible rfl
  try simp only [Act.put, List.setIfInBounds_toArray, List.set_cons_zero, List.set_cons_succ]
  refine' wpAnyH_take (i := 8) (v := _) (op_at rfl) (by kernel_rfl) (by kernel_rfl) (by kernel_rfl) (fun _ _ _ h => h) (Or.inl ⟨by rfl, ?hy9⟩) (by assumption) ?rest9
  case hy9 =>
    intro w' hS
    go_simp
    try with_reducible rfl
  try simp only [Act.put, List.setIfInBounds_toArray, List.set_cons_zero, List.set_cons_succ]
  refine' wpAnyH_take (i := 9) (v := _) (op_at rfl) (by kernel_rfl) (by kernel_rfl) (by kernel_rfl) (fun _ _ _ h => h) (Or.inl ⟨by rfl, ?hy10⟩) (by assumption) ?rest10
  case hy10 =>
    intro w' hS
    go_simp
    try with_reducible rfl
  try simp only [Act.put, List.setIfInBounds_toArray, List.set_cons_zero, List.set_cons_succ]
  refine wpAnyH_take (i := 10) (op_at rfl) (by kernel_rfl) (by kernel_rfl) (by kernel_rfl) (fun _ _ _ h => h) (yieldsIf_load_mid (by rfl) _ _ rfl gl 0 rfl (wc ((1 : Int), (1 : Int))) _ (fun w' hS => by have := rec_range wc_len (l := [((1 : Int), (1 : Int))]) (own_only hG ((Only.drew w5 []).trans hS) (fun _ _ => by simp)) (m := 0) (by simp); simpa using this) Try.underlying27 (by rfl) (by rfl)) (by assumption) ?_
  try simp only [Act.put, List.setIfInBounds_toArray, List.set_cons_zero, List.set_cons_succ]
  refine wpAnyH_take (i := 11) (op_at rfl) (by kernel_rfl) (by kernel_rfl) (by kernel_rfl) (fun _ _ _ h => h) (yieldsIf_load_mid (by rfl) _ _ rfl Z 0 rfl ([.int .i64 1, .int .i64 1]) _ (fun w' hS => block_range (((Only.drew w5 []).trans hS).at hZ5 (by simp))) Try.underlying27 (by rfl) (by rfl)) (by assumption) ?_
  try simp only [Act.put, List.setIfInBounds_toArray, List.set_cons_zero, List.set_cons_succ]
  refine' wpAnyH_take (i := 12) (v := _) (op_at rfl) (by kernel_rfl) (by kernel_rfl) (by kernel_rfl) (fun _ _ _ h => h) (Or.inl ⟨by rfl, ?hy13⟩) (by assumption) ?rest13
  case hy13 =>
    intro w' hS
    have q0 : (wc ((1 : Int), (1 : Int)))[0]? = some (Value.int .i64 1) := rfl
    have q1 : (wc ((1 : Int), (1 : Int)))[1]? = some (Value.int .i64 1) := rfl
    go_simp
    try with_reducible rfl
  try simp only [Act.put, List.setIfInBounds_toArray, List.set_cons_zero, List.set_cons_succ]
  refine' wpAnyH_take (i := 13) (v := _) (op_at rfl) (by kernel_rfl) (by kernel_rfl) (by kernel_rfl) (fun _ _ _ h => h) (Or.inl ⟨by rfl, ?hy14⟩) (by assumption) ?rest14
  case hy14 =>
    intro w' hS
    go_simp
    try with_reducible rfl
  try simp only [Act.put, List.setIfInBounds_toArray, List.set_cons_zero, List.set_cons_succ]
  refine' wpAnyH_take (i := 14) (v := _) (op_at rfl) (by kernel_rfl) (by kernel_rfl) (by kernel_rfl) (fun _ _ _ h => h) (Or.inl ⟨by rfl, ?hy15⟩) (by assumption) ?rest15
  case hy15 =>
    intro w' hS
    go_simp
    try with_reducible rfl
  try simp only [Act.put, List.setIfInBounds_toArray, List.set_cons_zero, List.set_cons_succ]
  refine' wpAnyH_take (i := 15) (v := _) (op_at rfl) (by kernel_rfl) (by kernel_rfl) (by kernel_rfl) (fun _ _ _ h => h) (Or.inl ⟨by rfl, ?hy16⟩) (by assumption) ?rest16
  case hy16 =>
    intro w' hS
    go_simp
    try with_reducible rfl
  try simp only [Act.put, List.setIfInBounds_toArray, List.set_cons_zero, List.set_cons_succ]
  refine wpAnyH_ready (rs := [16]) (by kernel_rfl) (by simp) (AllReadyH.cons (op_at rfl) (fun K hK => ?_) AllReadyH.nil)
  go_simp
  refine Hlack.mono fun e w6 hq => ?_
  obtain ⟨rfl, o6⟩ := hq
  go_wp2_with fail
  refine hK.out _ _ o6 (fun hHeld => ?_)
  clear hK K
  try simp only [Act.put, List.setIfInBounds_toArray, List.set_cons_zero, List.set_cons_succ]
  refine' wpAnyH_take (i := 17) (v := _) (op_at rfl) (by kernel_rfl) (by kernel_rfl) (by kernel_rfl) (fun _ _ _ h => h) (Or.inl ⟨by rfl, ?hy17⟩) (by assumption) ?rest17
  case hy17 =>
    intro w' hS
    go_simp
    try with_reducible rfl
  try simp only [Act.put, List.setIfInBounds_toArray, List.set_cons_zero, List.set_cons_succ]
  refine' wpAnyH_take (i := 18) (v := _) (op_at rfl) (by kernel_rfl) (by kernel_rfl) (by kernel_rfl) (fun _ _ _ h => h) (Or.inl ⟨by rfl, ?hy18⟩) (by assumption) ?rest18
  case hy18 =>
    intro w' hS
    go_simp
    try with_reducible rfl
  try simp only [Act.put, List.setIfInBounds_toArray, List.set_cons_zero, List.set_cons_succ]
  refine' wpAnyH_take (i := 19) (v := _) (op_at rfl) (by kernel_rfl) (by kernel_rfl) (by kernel_rfl) (fun _ _ _ h => h) (Or.inl ⟨by rfl, ?hy19⟩) (by assumption) ?rest19
  case hy19 =>
    intro w' hS
    go_simp
    try with_reducible rfl
  try simp only [Act.put, List.setIfInBounds_toArray, List.set_cons_zero, List.set_cons_succ]
  refine' wpAnyH_take (i := 20) (v := _) (op_at rfl) (by kernel_rfl) (by kernel_rfl) (by kernel_rfl) (fun _ _ _ h => h) (Or.inl ⟨by rfl, ?hy20⟩) (by assumption) ?rest20
  case hy20 =>
    intro w' hS
    go_simp
    try with_reducible rfl
  try simp only [Act.put, List.setIfInBounds_toArray, List.set_cons_zero, List.set_cons_succ]
  refine wpAnyH_ready (rs := [21]) (by kernel_rfl) (by simp) (AllReadyH.cons (op_at rfl) (fun K hK => ?_) AllReadyH.nil)
  go_simp
  refine (Hopen _ o6).mono fun e w7 hq => ?_
  obtain ⟨rfl, o7⟩ := hq
  go_wp2_with fail
  refine hK.out _ _ (o6.trans o7) (fun hHeld => ?_)
  clear hK K
  try simp only [Act.put, List.setIfInBounds_toArray, List.set_cons_zero, List.set_cons_succ]
  refine' wpAnyH_take (i := 22) (v := _) (op_at rfl) (by kernel_rfl) (by kernel_rfl) (by kernel_rfl) (fun _ _ _ h => h) (Or.inl ⟨by rfl, ?hy21⟩) (by assumption) ?rest21
  case hy21 =>
    intro w' hS
    go_simp
    try with_reducible rfl
  try simp only [Act.put, List.setIfInBounds_toArray, List.set_cons_zero, List.set_cons_succ]
  refine' wpAnyH_take (i := 23) (v := _) (op_at rfl) (by kernel_rfl) (by kernel_rfl) (by kernel_rfl) (fun _ _ _ h => h) (Or.inl ⟨by rfl, ?hy22⟩) (by assumption) ?rest22
  case hy22 =>
    intro w' hS
    go_simp
    try with_reducible rfl
  try simp only [Act.put, List.setIfInBounds_toArray, List.set_cons_zero, List.set_cons_succ]
  refine' wpAnyH_take (i := 24) (v := _) (op_at rfl) (by kernel_rfl) (by kernel_rfl) (by kernel_rfl) (fun _ _ _ h => h) (Or.inl ⟨by rfl, ?hy23⟩) (by assumption) ?rest23
  case hy23 =>
    intro w' hS
    go_simp
    try with_reducible rfl
  try simp only [Act.put, List.setIfInBounds_toArray, List.set_cons_zero, List.set_cons_succ]
  refine wpAnyH_done (by kernel_rfl) ?_ _
  go_wp2_with fail
  go_ret
  exact ⟨rfl, oF.trans ((Only.drew w5 []).trans hHeld)⟩
end Go.Proofs.Ytjhhlgfbocpniaa
