/- The reference's Take of a prekey for once (layer 17). Printed by gen_rf7.py. -/
import Derived.Test.YteljkfihmbddaaaRf6
set_option linter.unusedSimpArgs false
set_option linter.unusedVariables false
namespace Go.Proofs.Yteljkfihmbddaaa
open Go.RowKit Go.Pw
set_option linter.unusedVariables false

set_option maxRecDepth 100000 in
set_option maxHeartbeats 1600000 in
theorem rtake_once {w0 : World} {rs : List Res} (S : Nat) (ms : List Rl) (v : Value) (u d : Int) (w : World) (h : Pw.Sep w0 w (refR S v ms rs)) (hl : ms.length ≤ 1000) (k : Nat) (hI : ris ms u d = true) (hk : k < ms.length) (hp : rfp ms u d = k) (b : Bu) (os : List Bu) (hos : ms[k].os = b :: os) :
    Calls Try.prog 21 #[.pointer (some ⟨S, 0, none⟩), wv u d] w fun e w' => e = .returned (.tuple #[.agg (bc b).toArray, .int .i64 0]) ∧ ∃ x' : Rl, x'.u = ms[k].u ∧ x'.d = ms[k].d ∧ x'.on = ms[k].on ∧ x'.b = ms[k].b ∧ x'.os = os ∧ Pw.Sep w0 w' (refR S v (ms.set k x') rs) := by
  obtain ⟨ao, c, rfl⟩ := own_slice (show w.ownsRow 0 _ 18 v ms.length (fl rlc ms) from h.head)
  obtain ⟨mg, rfl, _⟩ := own_some (show w.ownsRow 0 _ 18 (.slice ao ms.length c) ms.length (fl rlc ms) from h.head) (by omega)
  have HI := fun (w' : World) (o : Only w w' []) => ris_any S ms _ u d w' (h.quiet o) (by omega)
  have HF := fun (w' : World) (o : Only w w' []) => rfind_any S ms _ u d w' (h.quiet o) (by omega)
  rw [hI] at HI
  have hfi : rfi ms u d = (k : Int) := by unfold rfi; rw [hp, if_pos hk]
  rw [hfi] at HF
  clear hI hp hfi
  simp only [wv] at *
  have hkz : (0 : Int) ≤ (k : Int) ∧ (k : Int) < ms.length := by omega
  have hlrow : ∀ w' : World, w'.ownsRow 0 85 18 (.slice (some ⟨mg, 0, none⟩) ms.length c) ms.length (fl rlc ms) → w'.cell? ⟨mg, k * 18 + 13, none⟩ = some ms[k].v ∧ w'.rangeAt mg (k * 18 + 3) (bc ms[k].b) := fun w' h' => by
    refine ⟨rec_cell rlc_len h' hk 13 (by simp [rlc, bc]), fun j v hj => ?_⟩
    rw [Nat.add_assoc]
    refine rec_cell rlc_len h' hk (3 + j) ?_
    rw [rlc, Nat.add_comm]
    simp only [List.getElem?_cons_succ]
    rw [List.getElem?_append_left (List.getElem?_eq_some_iff.1 hj).1]
    exact hj
  have hpk : (ms.map oo)[k]? = some (oo ms[k]) := by rw [List.getElem?_map, List.getElem?_eq_getElem hk]; rfl
  have howk : OwnO w 40 10 ms[k].v ms[k].os.length (fl bc ms[k].os) := many_ok (h.sel 3 [2]).head (List.mem_of_getElem? hpk)
  obtain ⟨av, cv, hv⟩ := howk.slice
  obtain ⟨n, hn⟩ : ∃ n, n = os.length := ⟨_, rfl⟩
  have hol1 : ms[k].os.length = n + 1 := by rw [hos, hn]; rfl
  rw [hol1] at hv howk
  rw [hv] at howk hlrow
  obtain ⟨gv, off, rfl, hnc, hcm⟩ := howk.addr (by omega)
  have hd10 : (fl bc ms[k].os).drop 10 = fl bc os := by rw [hos, fl_cons, List.drop_append_of_le_length (by rw [bc_len]; exact Nat.le_refl _), List.drop_of_length_le (by rw [bc_len]; exact Nat.le_refl _), List.nil_append]
  have hlb := bc_len b
  have h1b : (bc b).toArray.all (·.oneCell') = true := all_oneCell_toArray (bc_one _)
  have HV := Lib.hid hv
  have HN := Lib.hid hol1
  have HO := Lib.hid hos
  have HNO := Lib.hid hn
  have hr0 : Hid (∀ w' : World, (many (ms.map oo)).ok w' → w'.rangeAt gv off (bc b)) := fun w' h' j v hj => by
    have h1 : OwnO w' 40 10 ms[k].v ms[k].os.length (fl bc ms[k].os) := many_ok h' (List.mem_of_getElem? hpk)
    rw [hol1, hv] at h1
    refine h1.at ?_
    rw [hos, fl_cons, List.getElem?_append_left (List.getElem?_eq_some_iff.1 hj).1]
    exact hj
  clear howk hos hv hol1 hn
  go_enter Try.func21, Try.ntmps21
  go_wp2_with (first
    | (refine wpList_box_new rfl 30 _ rfl (.agg #[.int .i64 u, .int .i64 d]) rfl ?_; intro Z wZ oZ hZl hZ)
    | (refine wpList_alloc_new rfl 40 rfl (.agg (bc b0).toArray) (fun _ => by kernel_rfl) ?_; intro X wX oX hXl hX; have hZX := oX.at hZ (by simp); have z0 := cell_two0 hZX; have z1 := cell_two1 hZX))
  refine (HI _ (oZ.trans oX)).mono ?_
  rintro e w1 ⟨rfl, o1⟩
  clear z0 z1
  have z0 := cell_two0 (o1.at hZX (by simp))
  have z1 := cell_two1 (o1.at hZX (by simp))
  go_wp2_with fail
  refine (HF _ ((oZ.trans oX).trans o1)).mono ?_
  rintro e w2 ⟨rfl, o2⟩
  have sX := (h.quiet oZ).add (b := blk X (bc b0) 40) oX hX (fun k hk => by simp [blk] at hk; omega)
  have s1 : Pw.Sep w0 w2 (refR S (.slice (some ⟨mg, 0, none⟩) ms.length c) ms (blk X (bc b0) 40 :: rs)) := ((sX.quiet o1).quiet o2).sel 4 [1, 2, 3, 0]
  have hrg := hr0.out w2 (show (many (ms.map oo)).ok w2 from (s1.sel 3 [2]).head)
  obtain ⟨c13, _⟩ := hlrow w2 s1.head
  have hs0 := cell_two0 (show w2.heap[S]? = _ from s1.tail.head)
  clear HI HF z0 z1 hX hZX oX oZ o1 o2 sX h hZ
  have hn0 : (0 : Int) < ((n : Int) + 1) := by omega
  go_upto_region 7 with (first
    | (refine wpList_load_mid rfl 40 _ rfl gv off rfl (bc b) _ hrg Try.underlying40 (by rfl) (by rw [hlb]; kernel_rfl) ?_)
    | (refine wpList_alloc_new rfl 40 rfl (.agg (bc b0).toArray) (fun _ => by kernel_rfl) ?_; intro Y wY oY hYl hY)
    | (refine wpList_store_blk rfl 40 _ _ rfl Y (bc b) rfl rfl hY rfl (by rw [hlb]; kernel_rfl) h1b ?_; intro wU oU hU; have s2 := s1.add (b := blk Y (bc b) 40) (oY.new oU (fun i hi => by simp only [List.mem_singleton] at hi; omega)) hU (fun k hk => by simp [blk] at hk; omega); clear c13 hrg hs0 s1 oY oU hY hU))
  have sD : Pw.Sep w0 wU.drew (row 85 18 (.slice (some ⟨mg, 0, none⟩) ms.length c) ms.length (fl rlc ms) :: blk S [.slice (some ⟨mg, 0, none⟩) ms.length c, .slice none 0 0] 53 :: many (ms.map oo) :: blk X (bc b0) 40 :: blk Y (bc b) 40 :: rs) := (s2.sel 5 [1, 2, 3, 4, 0]).quiet (Only.drew wU [])
  clear s2
  by_cases hc1 : cv = 1
  · subst hc1
    obtain rfl : n = 0 := by omega
    refine wp_region_t (S := fun w' => Only wU.drew w' []) 16 (by kernel_rfl) (by kernel_rfl) (Only.refl _ _) (fun hZ hHeld => ?_)
    refine' wpAnyT_take (i := 0) (v := _) hZ (op_at' rfl) (by rfl) (by kernel_rfl) (by kernel_rfl) (by kernel_rfl) (by kernel_rfl) (fun _ _ _ h => h) (Or.inl ⟨by rfl, ?hy1⟩) (by assumption) ?rest1
    case hy1 =>
      intro w' hS
      go_simp
      try with_reducible rfl
    try simp only [Act.put, List.setIfInBounds_toArray, List.set_cons_zero, List.set_cons_succ]
    refine' wpAnyT_take (i := 1) (v := _) hZ (op_at' rfl) (by rfl) (by kernel_rfl) (by kernel_rfl) (by kernel_rfl) (by kernel_rfl) (fun _ _ _ h => h) (Or.inl ⟨by rfl, ?hy2⟩) (by assumption) ?rest2
    case hy2 =>
      intro w' hS
      go_simp
      try with_reducible rfl
    try simp only [Act.put, List.setIfInBounds_toArray, List.set_cons_zero, List.set_cons_succ]
    refine' wpAnyT_take (i := 2) (v := _) hZ (op_at' rfl) (by rfl) (by kernel_rfl) (by kernel_rfl) (by kernel_rfl) (by kernel_rfl) (fun _ _ _ h => h) (Or.inl ⟨by rfl, ?hy3⟩) (by assumption) ?rest3
    case hy3 =>
      intro w' hS
      go_simp
      try with_reducible rfl
    try simp only [Act.put, List.setIfInBounds_toArray, List.set_cons_zero, List.set_cons_succ]
    refine' wpAnyT_take (i := 3) (v := _) hZ (op_at' rfl) (by rfl) (by kernel_rfl) (by kernel_rfl) (by kernel_rfl) (by kernel_rfl) (fun _ _ _ h => h) (Or.inl ⟨by rfl, ?hy4⟩) (by assumption) ?rest4
    case hy4 =>
      intro w' hS
      have q_ := cell_two0 (show w'.heap[S]? = _ from (sD.quiet hS).tail.head)
      go_simp
      try with_reducible rfl
    try simp only [Act.put, List.setIfInBounds_toArray, List.set_cons_zero, List.set_cons_succ]
    refine' wpAnyT_take (i := 4) (v := _) hZ (op_at' rfl) (by rfl) (by kernel_rfl) (by kernel_rfl) (by kernel_rfl) (by kernel_rfl) (fun _ _ _ h => h) (Or.inl ⟨by rfl, ?hy5⟩) (by assumption) ?rest5
    case hy5 =>
      intro w' hS
      go_simp
      try with_reducible rfl
    try simp only [Act.put, List.setIfInBounds_toArray, List.set_cons_zero, List.set_cons_succ]
    refine' wpAnyT_take (i := 5) (v := _) hZ (op_at' rfl) (by rfl) (by kernel_rfl) (by kernel_rfl) (by kernel_rfl) (by kernel_rfl) (fun _ _ _ h => h) (Or.inl ⟨by rfl, ?hy6⟩) (by assumption) ?rest6
    case hy6 =>
      intro w' hS
      go_simp
      try with_reducible rfl
    try simp only [Act.put, List.setIfInBounds_toArray, List.set_cons_zero, List.set_cons_succ]
    refine' wpAnyT_take (i := 6) (v := _) hZ (op_at' rfl) (by rfl) (by kernel_rfl) (by kernel_rfl) (by kernel_rfl) (by kernel_rfl) (fun _ _ _ h => h) (Or.inl ⟨by rfl, ?hy7⟩) (by assumption) ?rest7
    case hy7 =>
      intro w' hS
      go_simp
      try with_reducible rfl
    try simp only [Act.put, List.setIfInBounds_toArray, List.set_cons_zero, List.set_cons_succ]
    refine' wpAnyT_take (i := 7) (v := _) hZ (op_at' rfl) (by rfl) (by kernel_rfl) (by kernel_rfl) (by kernel_rfl) (by kernel_rfl) (fun _ _ _ h => h) (Or.inl ⟨by rfl, ?hy8⟩) (by assumption) ?rest8
    case hy8 =>
      intro w' hS
      go_simp
      try with_reducible rfl
    try simp only [Act.put, List.setIfInBounds_toArray, List.set_cons_zero, List.set_cons_succ]
    refine' wpAnyT_take (i := 8) (v := _) hZ (op_at' rfl) (by rfl) (by kernel_rfl) (by kernel_rfl) (by kernel_rfl) (by kernel_rfl) (fun _ _ _ h => h) (Or.inl ⟨by rfl, ?hy9⟩) (by assumption) ?rest9
    case hy9 =>
      intro w' hS
      have q_ := cell_two0 (show w'.heap[S]? = _ from (sD.quiet hS).tail.head)
      go_simp
      try with_reducible rfl
    try simp only [Act.put, List.setIfInBounds_toArray, List.set_cons_zero, List.set_cons_succ]
    refine' wpAnyT_take (i := 9) (v := _) hZ (op_at' rfl) (by rfl) (by kernel_rfl) (by kernel_rfl) (by kernel_rfl) (by kernel_rfl) (fun _ _ _ h => h) (Or.inl ⟨by rfl, ?hy10⟩) (by assumption) ?rest10
    case hy10 =>
      intro w' hS
      go_simp
      try with_reducible rfl
    try simp only [Act.put, List.setIfInBounds_toArray, List.set_cons_zero, List.set_cons_succ]
    refine' wpAnyT_take (i := 10) (v := _) hZ (op_at' rfl) (by rfl) (by kernel_rfl) (by kernel_rfl) (by kernel_rfl) (by kernel_rfl) (fun _ _ _ h => h) (Or.inl ⟨by rfl, ?hy11⟩) (by assumption) ?rest11
    case hy11 =>
      intro w' hS
      go_simp
      try with_reducible rfl
    try simp only [Act.put, List.setIfInBounds_toArray, List.set_cons_zero, List.set_cons_succ]
    refine' wpAnyT_take (i := 11) (v := _) hZ (op_at' rfl) (by rfl) (by kernel_rfl) (by kernel_rfl) (by kernel_rfl) (by kernel_rfl) (fun _ _ _ h => h) (Or.inl ⟨by rfl, ?hy12⟩) (by assumption) ?rest12
    case hy12 =>
      intro w' hS
      go_simp
      try with_reducible rfl
    try simp only [Act.put, List.setIfInBounds_toArray, List.set_cons_zero, List.set_cons_succ]
    refine' wpAnyT_take (i := 12) (v := _) hZ (op_at' rfl) (by rfl) (by kernel_rfl) (by kernel_rfl) (by kernel_rfl) (by kernel_rfl) (fun _ _ _ h => h) (Or.inl ⟨by rfl, ?hy13⟩) (by assumption) ?rest13
    case hy13 =>
      intro w' hS
      have c_ := (hlrow w' (sD.quiet hS).head).1
      go_simp
      try with_reducible rfl
    try simp only [Act.put, List.setIfInBounds_toArray, List.set_cons_zero, List.set_cons_succ]
    refine' wpAnyT_take (i := 13) (v := _) hZ (op_at' rfl) (by rfl) (by kernel_rfl) (by kernel_rfl) (by kernel_rfl) (by kernel_rfl) (fun _ _ _ h => h) (Or.inl ⟨by rfl, ?hy14⟩) (by assumption) ?rest14
    case hy14 =>
      intro w' hS
      go_simp
      try with_reducible rfl
    try simp only [Act.put, List.setIfInBounds_toArray, List.set_cons_zero, List.set_cons_succ]
    refine' wpAnyT_take (i := 14) (v := _) hZ (op_at' rfl) (by rfl) (by kernel_rfl) (by kernel_rfl) (by kernel_rfl) (by kernel_rfl) (fun _ _ _ h => h) (Or.inl ⟨by rfl, ?hy15⟩) (by assumption) ?rest15
    case hy15 =>
      intro w' hS
      go_simp
      try with_reducible rfl
    try simp only [Act.put, List.setIfInBounds_toArray, List.set_cons_zero, List.set_cons_succ]
    refine' wpAnyT_take (i := 15) (v := _) hZ (op_at' rfl) (by rfl) (by kernel_rfl) (by kernel_rfl) (by kernel_rfl) (by kernel_rfl) (fun _ _ _ h => h) (Or.inl ⟨by rfl, ?hy16⟩) (by assumption) ?rest16
    case hy16 =>
      intro w' hS
      go_simp
      try with_reducible rfl
    try simp only [Act.put, List.setIfInBounds_toArray, List.set_cons_zero, List.set_cons_succ]
    refine wpAnyT_last (by kernel_rfl) (op_at' rfl) (by kernel_rfl) (fun K hK => ?_)
    refine step_store_rec (by rfl) 42 _ _ (by rfl) mg (k * 18 + 13) (.slice (some ⟨gv, off, none⟩) 0 0) [.slice (some ⟨gv, off, none⟩) 0 0] (by rfl) 85 18 ms.length c _ (by rfl) (by rfl) sD (by simp; omega) (by kernel_rfl) (by simp [Value.oneCell']) (fun w16 o16 s16 => ?_)
    go_wp2_with fail
    refine hK.out _ _ ?_
    clear hK K
    try simp only [Act.put, List.setIfInBounds_toArray, List.set_cons_zero, List.set_cons_succ]
    rw [fl_put rlc_len hk (by omega : 13 < 18) (y := (⟨ms[k].u, ms[k].d, ms[k].on, ms[k].b, .slice (some ⟨gv, off, none⟩) 0 0, os, rfl⟩ : Rl)) (by simp [rlc, bc])] at s16
    have s17 : Pw.Sep w0 w16 (many (ms.map oo) :: row 85 18 (.slice (some ⟨mg, 0, none⟩) ms.length c) ms.length (fl rlc (ms.set k ⟨ms[k].u, ms[k].d, ms[k].on, ms[k].b, .slice (some ⟨gv, off, none⟩) 0 0, os, rfl⟩)) :: blk S [.slice (some ⟨mg, 0, none⟩) ms.length c, .slice none 0 0] 53 :: blk X (bc b0) 40 :: blk Y (bc b) 40 :: rs) := s16.sel 5 [2, 0, 1, 3, 4]
    have s18 := s17.pick k hpk
    have hokk : OwnO w16 40 10 (.slice (some ⟨gv, off, none⟩) (0 + 1) 1) (0 + 1) (fl bc ms[k].os) := by
      have := (show (oo ms[k]).ok w16 from s18.head)
      rw [← HV.out, ← HN.out]
      exact this
    have htl : OwnO w16 40 10 (.slice (some ⟨gv, off, none⟩) 0 0) os.length (fl bc os) := by
      have := hokk.tail
      rw [hd10] at this
      rw [if_pos rfl] at this
      rw [← HNO.out]
      exact this
    have s19 : Pw.Sep w0 w16 (oo ⟨ms[k].u, ms[k].d, ms[k].on, ms[k].b, .slice (some ⟨gv, off, none⟩) 0 0, os, rfl⟩ :: _) := s18.step (L := []) (Only.refl _ _) (by simp) htl (fun j hj => .inl (by
      have hj2 : j = gv := by simpa [oo, rowO, Value.ownBlock] using hj
      show j ∈ (Value.ownBlock ms[k].v).toList
      rw [HV.out]
      simp [Value.ownBlock, hj2]))
    have s20 := s19.putk k (by simpa using hk)
    rw [← List.map_set] at s20
    have hX5 := show w16.heap[X]? = _ from (s20.sel 4 [3]).head
    have hY5 := show w16.heap[Y]? = _ from (s20.sel 5 [4]).head
    clear s16 s17 s18 s19 hokk htl sD hHeld
    go_wp2_with (first
      | (refine wpList_load_blk rfl 40 _ rfl Y rfl (bc b) _ hY5 Try.underlying40 (by rfl) (by rw [hlb]; kernel_rfl) ?_)
      | (refine wpList_store_blk rfl 40 _ _ rfl X (bc b) rfl rfl hX5 rfl (by rw [hlb]; kernel_rfl) h1b ?_; intro wV oV hV))
    have s21 : Pw.Sep w0 wV (blk X (bc b) 40 :: many ((ms.set k ⟨ms[k].u, ms[k].d, ms[k].on, ms[k].b, .slice (some ⟨gv, off, none⟩) 0 0, os, rfl⟩).map oo) :: row 85 18 (.slice (some ⟨mg, 0, none⟩) ms.length c) ms.length (fl rlc (ms.set k ⟨ms[k].u, ms[k].d, ms[k].on, ms[k].b, .slice (some ⟨gv, off, none⟩) 0 0, os, rfl⟩)) :: blk S [.slice (some ⟨mg, 0, none⟩) ms.length c, .slice none 0 0] 53 :: blk Y (bc b) 40 :: rs) :=
      (s20.sel 5 [3, 0, 1, 2, 4]).step (L := [X]) oV (fun k hk => .inl (by simpa [blk] using hk)) hV (fun k hk => .inl (by simpa [blk] using hk))
    have s22 : Pw.Sep w0 wV (refR S (.slice (some ⟨mg, 0, none⟩) ms.length c) (ms.set k ⟨ms[k].u, ms[k].d, ms[k].on, ms[k].b, .slice (some ⟨gv, off, none⟩) 0 0, os, rfl⟩) rs) := by
      unfold refR
      rw [List.length_set]
      exact s21.sel 5 [2, 3, 1]
    clear s20 s21 hX5 hY5
    have d0 : wV.cell? ⟨X, 0, none⟩ = some (.int .i64 b.u) := cell_in hV 0
    have d1 : wV.cell? ⟨X, 1, none⟩ = some (.int .i64 b.d) := cell_in hV 1
    have d2 : wV.cell? ⟨X, 2, none⟩ = some (b.s1) := cell_in hV 2
    have d3 : wV.cell? ⟨X, 3, none⟩ = some (b.s2) := cell_in hV 3
    have d4 : wV.cell? ⟨X, 4, none⟩ = some (.int .u32 b.sg) := cell_in hV 4
    have d5 : wV.cell? ⟨X, 5, none⟩ = some (b.s3) := cell_in hV 5
    have d6 : wV.cell? ⟨X, 6, none⟩ = some (b.s4) := cell_in hV 6
    have d7 : wV.cell? ⟨X, 7, none⟩ = some (.bool b.has) := cell_in hV 7
    have d8 : wV.cell? ⟨X, 8, none⟩ = some (.int .u32 b.on) := cell_in hV 8
    have d9 : wV.cell? ⟨X, 9, none⟩ = some (b.s5) := cell_in hV 9
    clear hV
    refine bodyPost_ret (v := .tuple #[.agg (bc b).toArray, .int .i64 0]) (by simp [results, Try.results21, go_sem, d0, d1, d2, d3, d4, d5, d6, d7, d8, d9]; try rfl) rfl ?_
    exact ⟨rfl, ⟨ms[k].u, ms[k].d, ms[k].on, ms[k].b, .slice (some ⟨gv, off, none⟩) 0 0, os, rfl⟩, rfl, rfl, rfl, rfl, rfl, s22⟩
  · have hcI : (1 : Int) ≤ (n : Int) + 1 ∧ (n : Int) + 1 ≤ (cv : Int) := by omega
    have hcI1 : ¬ ((cv : Int) = 1) := by omega
    refine wp_region_t (S := fun w' => Only wU.drew w' []) 16 (by kernel_rfl) (by kernel_rfl) (Only.refl _ _) (fun hZ hHeld => ?_)
    refine' wpAnyT_take (i := 0) (v := _) hZ (op_at' rfl) (by rfl) (by kernel_rfl) (by kernel_rfl) (by kernel_rfl) (by kernel_rfl) (fun _ _ _ h => h) (Or.inl ⟨by rfl, ?hy17⟩) (by assumption) ?rest17
    case hy17 =>
      intro w' hS
      go_simp
      try with_reducible rfl
    try simp only [Act.put, List.setIfInBounds_toArray, List.set_cons_zero, List.set_cons_succ]
    refine' wpAnyT_take (i := 1) (v := _) hZ (op_at' rfl) (by rfl) (by kernel_rfl) (by kernel_rfl) (by kernel_rfl) (by kernel_rfl) (fun _ _ _ h => h) (Or.inl ⟨by rfl, ?hy18⟩) (by assumption) ?rest18
    case hy18 =>
      intro w' hS
      go_simp
      try with_reducible rfl
    try simp only [Act.put, List.setIfInBounds_toArray, List.set_cons_zero, List.set_cons_succ]
    refine' wpAnyT_take (i := 2) (v := _) hZ (op_at' rfl) (by rfl) (by kernel_rfl) (by kernel_rfl) (by kernel_rfl) (by kernel_rfl) (fun _ _ _ h => h) (Or.inl ⟨by rfl, ?hy19⟩) (by assumption) ?rest19
    case hy19 =>
      intro w' hS
      go_simp
      try with_reducible rfl
    try simp only [Act.put, List.setIfInBounds_toArray, List.set_cons_zero, List.set_cons_succ]
    refine' wpAnyT_take (i := 3) (v := _) hZ (op_at' rfl) (by rfl) (by kernel_rfl) (by kernel_rfl) (by kernel_rfl) (by kernel_rfl) (fun _ _ _ h => h) (Or.inl ⟨by rfl, ?hy20⟩) (by assumption) ?rest20
    case hy20 =>
      intro w' hS
      have q_ := cell_two0 (show w'.heap[S]? = _ from (sD.quiet hS).tail.head)
      go_simp
      try with_reducible rfl
    try simp only [Act.put, List.setIfInBounds_toArray, List.set_cons_zero, List.set_cons_succ]
    refine' wpAnyT_take (i := 4) (v := _) hZ (op_at' rfl) (by rfl) (by kernel_rfl) (by kernel_rfl) (by kernel_rfl) (by kernel_rfl) (fun _ _ _ h => h) (Or.inl ⟨by rfl, ?hy21⟩) (by assumption) ?rest21
    case hy21 =>
      intro w' hS
      go_simp
      try with_reducible rfl
    try simp only [Act.put, List.setIfInBounds_toArray, List.set_cons_zero, List.set_cons_succ]
    refine' wpAnyT_take (i := 5) (v := _) hZ (op_at' rfl) (by rfl) (by kernel_rfl) (by kernel_rfl) (by kernel_rfl) (by kernel_rfl) (fun _ _ _ h => h) (Or.inl ⟨by rfl, ?hy22⟩) (by assumption) ?rest22
    case hy22 =>
      intro w' hS
      go_simp
      try with_reducible rfl
    try simp only [Act.put, List.setIfInBounds_toArray, List.set_cons_zero, List.set_cons_succ]
    refine' wpAnyT_take (i := 6) (v := _) hZ (op_at' rfl) (by rfl) (by kernel_rfl) (by kernel_rfl) (by kernel_rfl) (by kernel_rfl) (fun _ _ _ h => h) (Or.inl ⟨by rfl, ?hy23⟩) (by assumption) ?rest23
    case hy23 =>
      intro w' hS
      go_simp
      try with_reducible rfl
    try simp only [Act.put, List.setIfInBounds_toArray, List.set_cons_zero, List.set_cons_succ]
    refine' wpAnyT_take (i := 7) (v := _) hZ (op_at' rfl) (by rfl) (by kernel_rfl) (by kernel_rfl) (by kernel_rfl) (by kernel_rfl) (fun _ _ _ h => h) (Or.inl ⟨by rfl, ?hy24⟩) (by assumption) ?rest24
    case hy24 =>
      intro w' hS
      go_simp
      try with_reducible rfl
    try simp only [Act.put, List.setIfInBounds_toArray, List.set_cons_zero, List.set_cons_succ]
    refine' wpAnyT_take (i := 8) (v := _) hZ (op_at' rfl) (by rfl) (by kernel_rfl) (by kernel_rfl) (by kernel_rfl) (by kernel_rfl) (fun _ _ _ h => h) (Or.inl ⟨by rfl, ?hy25⟩) (by assumption) ?rest25
    case hy25 =>
      intro w' hS
      have q_ := cell_two0 (show w'.heap[S]? = _ from (sD.quiet hS).tail.head)
      go_simp
      try with_reducible rfl
    try simp only [Act.put, List.setIfInBounds_toArray, List.set_cons_zero, List.set_cons_succ]
    refine' wpAnyT_take (i := 9) (v := _) hZ (op_at' rfl) (by rfl) (by kernel_rfl) (by kernel_rfl) (by kernel_rfl) (by kernel_rfl) (fun _ _ _ h => h) (Or.inl ⟨by rfl, ?hy26⟩) (by assumption) ?rest26
    case hy26 =>
      intro w' hS
      go_simp
      try with_reducible rfl
    try simp only [Act.put, List.setIfInBounds_toArray, List.set_cons_zero, List.set_cons_succ]
    refine' wpAnyT_take (i := 10) (v := _) hZ (op_at' rfl) (by rfl) (by kernel_rfl) (by kernel_rfl) (by kernel_rfl) (by kernel_rfl) (fun _ _ _ h => h) (Or.inl ⟨by rfl, ?hy27⟩) (by assumption) ?rest27
    case hy27 =>
      intro w' hS
      go_simp
      try with_reducible rfl
    try simp only [Act.put, List.setIfInBounds_toArray, List.set_cons_zero, List.set_cons_succ]
    refine' wpAnyT_take (i := 11) (v := _) hZ (op_at' rfl) (by rfl) (by kernel_rfl) (by kernel_rfl) (by kernel_rfl) (by kernel_rfl) (fun _ _ _ h => h) (Or.inl ⟨by rfl, ?hy28⟩) (by assumption) ?rest28
    case hy28 =>
      intro w' hS
      go_simp
      try with_reducible rfl
    try simp only [Act.put, List.setIfInBounds_toArray, List.set_cons_zero, List.set_cons_succ]
    refine' wpAnyT_take (i := 12) (v := _) hZ (op_at' rfl) (by rfl) (by kernel_rfl) (by kernel_rfl) (by kernel_rfl) (by kernel_rfl) (fun _ _ _ h => h) (Or.inl ⟨by rfl, ?hy29⟩) (by assumption) ?rest29
    case hy29 =>
      intro w' hS
      have c_ := (hlrow w' (sD.quiet hS).head).1
      go_simp
      try with_reducible rfl
    try simp only [Act.put, List.setIfInBounds_toArray, List.set_cons_zero, List.set_cons_succ]
    refine' wpAnyT_take (i := 13) (v := _) hZ (op_at' rfl) (by rfl) (by kernel_rfl) (by kernel_rfl) (by kernel_rfl) (by kernel_rfl) (fun _ _ _ h => h) (Or.inl ⟨by rfl, ?hy30⟩) (by assumption) ?rest30
    case hy30 =>
      intro w' hS
      go_simp
      try with_reducible rfl
    try simp only [Act.put, List.setIfInBounds_toArray, List.set_cons_zero, List.set_cons_succ]
    refine' wpAnyT_take (i := 14) (v := _) hZ (op_at' rfl) (by rfl) (by kernel_rfl) (by kernel_rfl) (by kernel_rfl) (by kernel_rfl) (fun _ _ _ h => h) (Or.inl ⟨by rfl, ?hy31⟩) (by assumption) ?rest31
    case hy31 =>
      intro w' hS
      go_simp
      try with_reducible rfl
    try simp only [Act.put, List.setIfInBounds_toArray, List.set_cons_zero, List.set_cons_succ]
    refine' wpAnyT_take (i := 15) (v := _) hZ (op_at' rfl) (by rfl) (by kernel_rfl) (by kernel_rfl) (by kernel_rfl) (by kernel_rfl) (fun _ _ _ h => h) (Or.inl ⟨by rfl, ?hy32⟩) (by assumption) ?rest32
    case hy32 =>
      intro w' hS
      go_simp
      try with_reducible rfl
    try simp only [Act.put, List.setIfInBounds_toArray, List.set_cons_zero, List.set_cons_succ]
    refine wpAnyT_last (by kernel_rfl) (op_at' rfl) (by kernel_rfl) (fun K hK => ?_)
    refine step_store_rec (by rfl) 42 _ _ (by rfl) mg (k * 18 + 13) (.slice (some ⟨gv, off + 10, none⟩) n (cv - 1)) [.slice (some ⟨gv, off + 10, none⟩) n (cv - 1)] (by rfl) 85 18 ms.length c _ (by rfl) (by rfl) sD (by simp; omega) (by kernel_rfl) (by simp [Value.oneCell']) (fun w16 o16 s16 => ?_)
    go_wp2_with fail
    refine hK.out _ _ ?_
    clear hK K
    try simp only [Act.put, List.setIfInBounds_toArray, List.set_cons_zero, List.set_cons_succ]
    rw [fl_put rlc_len hk (by omega : 13 < 18) (y := (⟨ms[k].u, ms[k].d, ms[k].on, ms[k].b, .slice (some ⟨gv, off + 10, none⟩) n (cv - 1), os, rfl⟩ : Rl)) (by simp [rlc, bc])] at s16
    have s17 : Pw.Sep w0 w16 (many (ms.map oo) :: row 85 18 (.slice (some ⟨mg, 0, none⟩) ms.length c) ms.length (fl rlc (ms.set k ⟨ms[k].u, ms[k].d, ms[k].on, ms[k].b, .slice (some ⟨gv, off + 10, none⟩) n (cv - 1), os, rfl⟩)) :: blk S [.slice (some ⟨mg, 0, none⟩) ms.length c, .slice none 0 0] 53 :: blk X (bc b0) 40 :: blk Y (bc b) 40 :: rs) := s16.sel 5 [2, 0, 1, 3, 4]
    have s18 := s17.pick k hpk
    have hokk : OwnO w16 40 10 (.slice (some ⟨gv, off, none⟩) (n + 1) cv) (n + 1) (fl bc ms[k].os) := by
      have := (show (oo ms[k]).ok w16 from s18.head)
      rw [← HV.out, ← HN.out]
      exact this
    have htl : OwnO w16 40 10 (.slice (some ⟨gv, off + 10, none⟩) n (cv - 1)) os.length (fl bc os) := by
      have := hokk.tail
      rw [hd10] at this
      rw [if_neg hc1] at this
      rw [← HNO.out]
      exact this
    have s19 : Pw.Sep w0 w16 (oo ⟨ms[k].u, ms[k].d, ms[k].on, ms[k].b, .slice (some ⟨gv, off + 10, none⟩) n (cv - 1), os, rfl⟩ :: _) := s18.step (L := []) (Only.refl _ _) (by simp) htl (fun j hj => .inl (by
      have hj2 : j = gv := by simpa [oo, rowO, Value.ownBlock] using hj
      show j ∈ (Value.ownBlock ms[k].v).toList
      rw [HV.out]
      simp [Value.ownBlock, hj2]))
    have s20 := s19.putk k (by simpa using hk)
    rw [← List.map_set] at s20
    have hX5 := show w16.heap[X]? = _ from (s20.sel 4 [3]).head
    have hY5 := show w16.heap[Y]? = _ from (s20.sel 5 [4]).head
    clear s16 s17 s18 s19 hokk htl sD hHeld
    go_wp2_with (first
      | (refine wpList_load_blk rfl 40 _ rfl Y rfl (bc b) _ hY5 Try.underlying40 (by rfl) (by rw [hlb]; kernel_rfl) ?_)
      | (refine wpList_store_blk rfl 40 _ _ rfl X (bc b) rfl rfl hX5 rfl (by rw [hlb]; kernel_rfl) h1b ?_; intro wV oV hV))
    have s21 : Pw.Sep w0 wV (blk X (bc b) 40 :: many ((ms.set k ⟨ms[k].u, ms[k].d, ms[k].on, ms[k].b, .slice (some ⟨gv, off + 10, none⟩) n (cv - 1), os, rfl⟩).map oo) :: row 85 18 (.slice (some ⟨mg, 0, none⟩) ms.length c) ms.length (fl rlc (ms.set k ⟨ms[k].u, ms[k].d, ms[k].on, ms[k].b, .slice (some ⟨gv, off + 10, none⟩) n (cv - 1), os, rfl⟩)) :: blk S [.slice (some ⟨mg, 0, none⟩) ms.length c, .slice none 0 0] 53 :: blk Y (bc b) 40 :: rs) :=
      (s20.sel 5 [3, 0, 1, 2, 4]).step (L := [X]) oV (fun k hk => .inl (by simpa [blk] using hk)) hV (fun k hk => .inl (by simpa [blk] using hk))
    have s22 : Pw.Sep w0 wV (refR S (.slice (some ⟨mg, 0, none⟩) ms.length c) (ms.set k ⟨ms[k].u, ms[k].d, ms[k].on, ms[k].b, .slice (some ⟨gv, off + 10, none⟩) n (cv - 1), os, rfl⟩) rs) := by
      unfold refR
      rw [List.length_set]
      exact s21.sel 5 [2, 3, 1]
    clear s20 s21 hX5 hY5
    have d0 : wV.cell? ⟨X, 0, none⟩ = some (.int .i64 b.u) := cell_in hV 0
    have d1 : wV.cell? ⟨X, 1, none⟩ = some (.int .i64 b.d) := cell_in hV 1
    have d2 : wV.cell? ⟨X, 2, none⟩ = some (b.s1) := cell_in hV 2
    have d3 : wV.cell? ⟨X, 3, none⟩ = some (b.s2) := cell_in hV 3
    have d4 : wV.cell? ⟨X, 4, none⟩ = some (.int .u32 b.sg) := cell_in hV 4
    have d5 : wV.cell? ⟨X, 5, none⟩ = some (b.s3) := cell_in hV 5
    have d6 : wV.cell? ⟨X, 6, none⟩ = some (b.s4) := cell_in hV 6
    have d7 : wV.cell? ⟨X, 7, none⟩ = some (.bool b.has) := cell_in hV 7
    have d8 : wV.cell? ⟨X, 8, none⟩ = some (.int .u32 b.on) := cell_in hV 8
    have d9 : wV.cell? ⟨X, 9, none⟩ = some (b.s5) := cell_in hV 9
    clear hV
    refine bodyPost_ret (v := .tuple #[.agg (bc b).toArray, .int .i64 0]) (by simp [results, Try.results21, go_sem, d0, d1, d2, d3, d4, d5, d6, d7, d8, d9]; try rfl) rfl ?_
    exact ⟨rfl, ⟨ms[k].u, ms[k].d, ms[k].on, ms[k].b, .slice (some ⟨gv, off + 10, none⟩) n (cv - 1), os, rfl⟩, rfl, rfl, rfl, rfl, rfl, s22⟩
end Go.Proofs.Yteljkfihmbddaaa
