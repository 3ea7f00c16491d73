/- The bundles of the laws of layer 19 (server). Printed by gen_sv3.py. -/
import Derived.Test.YticojdepepkdlaaSv2
set_option linter.unusedSimpArgs false
set_option linter.unusedVariables false
namespace Go.Proofs.Yticojdepepkdlaa
open Go.RowKit Go.Pw
set_option linter.unusedVariables false

/-- What the laws' bundles are. -/
def Bs (u d : Int) (bs : List Bu) : Prop := ∀ (i : Nat) (hi : i < bs.length), bs[i].u = u ∧ bs[i].d = d ∧ bs[i].has = decide (0 < i) ∧ bs[i].on = i ∧ bs[i].sg = 1
theorem bs_snoc {u d : Int} {bs : List Bu} (h : Bs u d bs) (b : Bu) (h1 : b.u = u) (h2 : b.d = d) (h3 : b.has = decide (0 < bs.length)) (h4 : b.on = bs.length) (h5 : b.sg = 1) : Bs u d (bs ++ [b]) := fun i hi => by
  by_cases e : i < bs.length
  · rw [List.getElem_append_left e]; exact h i e
  · simp at hi
    obtain rfl : i = bs.length := by omega
    simp [h1, h2, h3, h4, h5]
def Bundles (u d : Int) (w : World) (e : Ending) (w' : World) : Prop := ∃ (bs : List Bu) (a : Option Addr) (c : Nat), e = .returned (.slice a 3 c) ∧ bs.length = 3 ∧ Bs u d bs ∧ Sep w w' [row 63 10 (.slice a 3 c) 3 (fl bc bs)]
def bunL (u d : Int) (s1 s3 : Value) (has : Bool) (on : Int) (h1 : s1.oneCell' = true) (h3 : s3.oneCell' = true) : Bu := ⟨u, d, s1, .slice none 0 0, 1, s3, .slice none 0 0, has, on, .slice none 0 0, ⟨h1, rfl, h3, rfl, rfl⟩⟩

set_option maxRecDepth 100000 in
set_option maxHeartbeats 3200000 in
theorem bundles_any (u d : Int) (w : World) : Calls Try.prog 8 #[wv u d] w (Bundles u d w) := by
  obtain ⟨i0, hi, hz0, hz1, hz2⟩ := info_parts bun_info
  simp only [wv]
  go_enter Try.func8, Try.ntmps8
  go_wp2_with ((refine wpList_box_new rfl 27 _ rfl (.agg #[.int .i64 u, .int .i64 d]) rfl ?_; intro Z wZ oZ hZl hZb))
  have s0 : Sep w wZ (row 63 10 (.slice none 0 0) 0 [] :: blk Z [.int .i64 u, .int .i64 d] 27 :: []) := ((Sep.nil w).add (b := blk Z [.int .i64 u, .int .i64 d] 27) oZ hZb (fun k hk => by simp [blk] at hk; omega)).rown _ _
  clear oZ hZl hZb
  go_loopw [3, 4, 5] (fun y z _ wr => ∃ (bs : List Bu) (a : Option Addr) (c : Nat), y = .slice a bs.length c ∧ Hid (Bs u d bs) ∧ Pw.Sep w wr (row 63 10 (.slice a bs.length c) bs.length (fl bc bs) :: blk Z [.int .i64 u, .int .i64 d] 27 :: []) ∧ ((z = .int .i64 0 ∧ Hid (bs.length = 0)) ∨ (z = .int .i64 1 ∧ Hid (bs.length = 1)) ∨ (z = .int .i64 2 ∧ Hid (bs.length = 2)) ∨ (z = .int .i64 3 ∧ Hid (bs.length = 3)))) (fun _ z _ _ => 3 - (intOf z).toNat)
  case atStart => exact ⟨[], none, 0, rfl, fun i hi => by simp at hi, s0, .inl ⟨rfl, rfl⟩⟩
  case round =>
    clear s0
    obtain ⟨bs, a, c, rfl, hb, hs, hz⟩ := hrel
    have hZ : wr.heap[Z]? = some (.cells #[.int .i64 u, .int .i64 d] 27 (0, 0)) := (hs.sel 2 [1]).head
    have hz0' := cell_two0 hZ
    have hz1' := cell_two1 hZ
    clear hZ
    rcases hz with ⟨rfl, hk⟩ | ⟨rfl, hk⟩ | ⟨rfl, hk⟩ | ⟨rfl, hk⟩
    · skip
      have hml : bs.length ≤ 2 := by have := hk.out; omega
      have h1c : ([.int .i64 u, .int .i64 d, .slice (some ⟨wr.heap.size, 0, none⟩) 2 2, .slice none 0 0, .int .u32 1, .slice (some ⟨wr.heap.size + 1, 0, none⟩) 1 1, .slice none 0 0, .bool false, .int .u32 0, .slice none 0 0] : List Value).toArray.all (·.oneCell') = true := by simp [Value.oneCell']
      go_upto_region 6 with (first
        | (refine wpList_convert_const rfl _ 32 5 rfl rfl (by simp) Try.underlying32 Try.underlying5 ?_)
        | (refine wpList_alloc_new rfl 63 rfl (.agg (bc b0).toArray) (fun _ => by kernel_rfl) ?_; intro X wX oX hXl hX; have oX2 : Only wr wX [] := ((Only.alloc _ _ _).trans (Only.alloc _ _ _)).trans oX; have hXl2 : wr.heap.size ≤ X := by simp at hXl; omega)
        | (refine wpList_store_blk rfl 63 _ _ rfl X [.int .i64 u, .int .i64 d, .slice (some ⟨wr.heap.size, 0, none⟩) 2 2, .slice none 0 0, .int .u32 1, .slice (some ⟨wr.heap.size + 1, 0, none⟩) 1 1, .slice none 0 0, .bool false, .int .u32 0, .slice none 0 0] rfl rfl hX rfl (by kernel_rfl) h1c ?_; intro wY oY hY; have oXY := oX2.new oY (fun i hi => by simp only [List.mem_singleton] at hi; omega); have hy7 := cell_in hY 7; have hy8 := cell_in hY 8; have hf8 := free_in hY 8; simp only [List.getElem?_toArray, List.getElem?_cons_zero, List.getElem?_cons_succ] at hy7 hy8; clear hX oX oX2 oY))
      generalize hN : wr.heap.size = N at *
      have HN := Lib.hid hN
      clear hN
      go_upto_region 8 with fail
      have hV := hY
      have oV := oXY
      generalize wY = wV at *
      have hV2 : wV.heap[X]? = some (.cells (bc (⟨u, d, .slice (some ⟨N, 0, none⟩) 2 2, .slice none 0 0, 1, .slice (some ⟨N + 1, 0, none⟩) 1 1, .slice none 0 0, false, 0, .slice none 0 0, ⟨rfl, rfl, rfl, rfl, rfl⟩⟩ : Bu)).toArray 63 (0, 0)) := hV
      obtain ⟨b, hbe⟩ : ∃ b : Bu, b = (⟨u, d, .slice (some ⟨N, 0, none⟩) 2 2, .slice none 0 0, 1, .slice (some ⟨N + 1, 0, none⟩) 1 1, .slice none 0 0, false, 0, .slice none 0 0, ⟨rfl, rfl, rfl, rfl, rfl⟩⟩ : Bu) := ⟨_, rfl⟩
      rw [← hbe] at hV2
      have hfl : Hid (fl bc bs ++ bc b = fl bc (bs ++ [b])) := by show _ = _; rw [fl_snoc]
      have HB : Hid (Bs u d (bs ++ [b])) := bs_snoc hb.out b (by rw [hbe]) (by rw [hbe]) (by rw [hbe, hk.out]; rfl) (by rw [hbe, hk.out]; rfl) (by rw [hbe])
      have hk2 : Hid ((bs ++ [b]).length = 0 + 1) := by show _ = _; rw [List.length_append, hk.out]; rfl
      have hs2 := hs.quiet oV
      clear hy7 hy8 hf8 hV oV oXY hY hbe hs hz0' hz1'
      go_wp2_with (first
        | (refine wpList_load_blk rfl 63 _ rfl X rfl (bc b) _ hV2 Try.underlying63 (by rfl) (by rw [bc_len]; kernel_rfl) ?_)
        | (refine wpList_buildSlice_one rfl 30 _ rfl 63 i0 _ (bc b) rfl Try.underlying30 hi hz0 (by rw [hz1, bc_len]) (by rw [bc_len]; rfl) (by rw [bc_len]; decide) (by rw [bc_len]; decide) ?_; intro Y6 w6 o6 hY6l hY6; have s6 := hs2.quiet o6; clear hs2 o6)
        | (at_builtin; refine wpList_append_sep rfl _ _ 30 rfl 63 i0 _ 10 152 Try.underlying30 hi hz0 hz1 hz2 rfl (by decide) (.slice a bs.length c) bs.length _ rfl s6 _ 1 (bc b) rfl (src_blk hY6 (by rw [bc_len])) (bc_one b) (by unfold maxLen; omega) (by omega) ?_; intro a7 c7 w7 o7 s7; rw [hfl.out] at s7))
      refine ⟨⟨bs ++ [b], a7, c7, by simp, HB.out, by simpa using s7, ?_⟩, by simp [intOf]⟩
      exact .inr (.inl ⟨rfl, hk2.out⟩)
    · skip
      have hml : bs.length ≤ 2 := by have := hk.out; omega
      have h1c : ([.int .i64 u, .int .i64 d, .slice (some ⟨wr.heap.size, 0, none⟩) 2 2, .slice none 0 0, .int .u32 1, .slice (some ⟨wr.heap.size + 1, 0, none⟩) 1 1, .slice none 0 0, .bool true, .int .u32 0, .slice none 0 0] : List Value).toArray.all (·.oneCell') = true := by simp [Value.oneCell']
      go_upto_region 6 with (first
        | (refine wpList_convert_const rfl _ 32 5 rfl rfl (by simp) Try.underlying32 Try.underlying5 ?_)
        | (refine wpList_alloc_new rfl 63 rfl (.agg (bc b0).toArray) (fun _ => by kernel_rfl) ?_; intro X wX oX hXl hX; have oX2 : Only wr wX [] := ((Only.alloc _ _ _).trans (Only.alloc _ _ _)).trans oX; have hXl2 : wr.heap.size ≤ X := by simp at hXl; omega)
        | (refine wpList_store_blk rfl 63 _ _ rfl X [.int .i64 u, .int .i64 d, .slice (some ⟨wr.heap.size, 0, none⟩) 2 2, .slice none 0 0, .int .u32 1, .slice (some ⟨wr.heap.size + 1, 0, none⟩) 1 1, .slice none 0 0, .bool true, .int .u32 0, .slice none 0 0] rfl rfl hX rfl (by kernel_rfl) h1c ?_; intro wY oY hY; have oXY := oX2.new oY (fun i hi => by simp only [List.mem_singleton] at hi; omega); have hy7 := cell_in hY 7; have hy8 := cell_in hY 8; have hf8 := free_in hY 8; simp only [List.getElem?_toArray, List.getElem?_cons_zero, List.getElem?_cons_succ] at hy7 hy8; clear hX oX oX2 oY))
      generalize hN : wr.heap.size = N at *
      have HN := Lib.hid hN
      clear hN
      go_upto_region 8 with fail
      have hV := set_at (i := 8) hY (.int .u32 1)
      have oV : Only wr (wY.setCell ⟨X, 8, none⟩ (.int .u32 1)) [] := oXY.new (Only.setCell wY ⟨X, 8, none⟩ _ [X] (by simp)) (fun i hi => by simp only [List.mem_singleton] at hi; have := HN.out; omega)
      generalize wY.setCell ⟨X, 8, none⟩ (.int .u32 1) = wV at *
      have hV2 : wV.heap[X]? = some (.cells (bc (⟨u, d, .slice (some ⟨N, 0, none⟩) 2 2, .slice none 0 0, 1, .slice (some ⟨N + 1, 0, none⟩) 1 1, .slice none 0 0, true, 1, .slice none 0 0, ⟨rfl, rfl, rfl, rfl, rfl⟩⟩ : Bu)).toArray 63 (0, 0)) := hV
      obtain ⟨b, hbe⟩ : ∃ b : Bu, b = (⟨u, d, .slice (some ⟨N, 0, none⟩) 2 2, .slice none 0 0, 1, .slice (some ⟨N + 1, 0, none⟩) 1 1, .slice none 0 0, true, 1, .slice none 0 0, ⟨rfl, rfl, rfl, rfl, rfl⟩⟩ : Bu) := ⟨_, rfl⟩
      rw [← hbe] at hV2
      have hfl : Hid (fl bc bs ++ bc b = fl bc (bs ++ [b])) := by show _ = _; rw [fl_snoc]
      have HB : Hid (Bs u d (bs ++ [b])) := bs_snoc hb.out b (by rw [hbe]) (by rw [hbe]) (by rw [hbe, hk.out]; rfl) (by rw [hbe, hk.out]; rfl) (by rw [hbe])
      have hk2 : Hid ((bs ++ [b]).length = 1 + 1) := by show _ = _; rw [List.length_append, hk.out]; rfl
      have hs2 := hs.quiet oV
      clear hy7 hy8 hf8 hV oV oXY hY hbe hs hz0' hz1'
      go_wp2_with (first
        | (refine wpList_load_blk rfl 63 _ rfl X rfl (bc b) _ hV2 Try.underlying63 (by rfl) (by rw [bc_len]; kernel_rfl) ?_)
        | (refine wpList_buildSlice_one rfl 30 _ rfl 63 i0 _ (bc b) rfl Try.underlying30 hi hz0 (by rw [hz1, bc_len]) (by rw [bc_len]; rfl) (by rw [bc_len]; decide) (by rw [bc_len]; decide) ?_; intro Y6 w6 o6 hY6l hY6; have s6 := hs2.quiet o6; clear hs2 o6)
        | (at_builtin; refine wpList_append_sep rfl _ _ 30 rfl 63 i0 _ 10 152 Try.underlying30 hi hz0 hz1 hz2 rfl (by decide) (.slice a bs.length c) bs.length _ rfl s6 _ 1 (bc b) rfl (src_blk hY6 (by rw [bc_len])) (bc_one b) (by unfold maxLen; omega) (by omega) ?_; intro a7 c7 w7 o7 s7; rw [hfl.out] at s7))
      refine ⟨⟨bs ++ [b], a7, c7, by simp, HB.out, by simpa using s7, ?_⟩, by simp [intOf]⟩
      exact .inr (.inr (.inl ⟨rfl, hk2.out⟩))
    · skip
      have hml : bs.length ≤ 2 := by have := hk.out; omega
      have h1c : ([.int .i64 u, .int .i64 d, .slice (some ⟨wr.heap.size, 0, none⟩) 2 2, .slice none 0 0, .int .u32 1, .slice (some ⟨wr.heap.size + 1, 0, none⟩) 1 1, .slice none 0 0, .bool true, .int .u32 0, .slice none 0 0] : List Value).toArray.all (·.oneCell') = true := by simp [Value.oneCell']
      go_upto_region 6 with (first
        | (refine wpList_convert_const rfl _ 32 5 rfl rfl (by simp) Try.underlying32 Try.underlying5 ?_)
        | (refine wpList_alloc_new rfl 63 rfl (.agg (bc b0).toArray) (fun _ => by kernel_rfl) ?_; intro X wX oX hXl hX; have oX2 : Only wr wX [] := ((Only.alloc _ _ _).trans (Only.alloc _ _ _)).trans oX; have hXl2 : wr.heap.size ≤ X := by simp at hXl; omega)
        | (refine wpList_store_blk rfl 63 _ _ rfl X [.int .i64 u, .int .i64 d, .slice (some ⟨wr.heap.size, 0, none⟩) 2 2, .slice none 0 0, .int .u32 1, .slice (some ⟨wr.heap.size + 1, 0, none⟩) 1 1, .slice none 0 0, .bool true, .int .u32 0, .slice none 0 0] rfl rfl hX rfl (by kernel_rfl) h1c ?_; intro wY oY hY; have oXY := oX2.new oY (fun i hi => by simp only [List.mem_singleton] at hi; omega); have hy7 := cell_in hY 7; have hy8 := cell_in hY 8; have hf8 := free_in hY 8; simp only [List.getElem?_toArray, List.getElem?_cons_zero, List.getElem?_cons_succ] at hy7 hy8; clear hX oX oX2 oY))
      generalize hN : wr.heap.size = N at *
      have HN := Lib.hid hN
      clear hN
      go_upto_region 8 with fail
      have hV := set_at (i := 8) hY (.int .u32 2)
      have oV : Only wr (wY.setCell ⟨X, 8, none⟩ (.int .u32 2)) [] := oXY.new (Only.setCell wY ⟨X, 8, none⟩ _ [X] (by simp)) (fun i hi => by simp only [List.mem_singleton] at hi; have := HN.out; omega)
      generalize wY.setCell ⟨X, 8, none⟩ (.int .u32 2) = wV at *
      have hV2 : wV.heap[X]? = some (.cells (bc (⟨u, d, .slice (some ⟨N, 0, none⟩) 2 2, .slice none 0 0, 1, .slice (some ⟨N + 1, 0, none⟩) 1 1, .slice none 0 0, true, 2, .slice none 0 0, ⟨rfl, rfl, rfl, rfl, rfl⟩⟩ : Bu)).toArray 63 (0, 0)) := hV
      obtain ⟨b, hbe⟩ : ∃ b : Bu, b = (⟨u, d, .slice (some ⟨N, 0, none⟩) 2 2, .slice none 0 0, 1, .slice (some ⟨N + 1, 0, none⟩) 1 1, .slice none 0 0, true, 2, .slice none 0 0, ⟨rfl, rfl, rfl, rfl, rfl⟩⟩ : Bu) := ⟨_, rfl⟩
      rw [← hbe] at hV2
      have hfl : Hid (fl bc bs ++ bc b = fl bc (bs ++ [b])) := by show _ = _; rw [fl_snoc]
      have HB : Hid (Bs u d (bs ++ [b])) := bs_snoc hb.out b (by rw [hbe]) (by rw [hbe]) (by rw [hbe, hk.out]; rfl) (by rw [hbe, hk.out]; rfl) (by rw [hbe])
      have hk2 : Hid ((bs ++ [b]).length = 2 + 1) := by show _ = _; rw [List.length_append, hk.out]; rfl
      have hs2 := hs.quiet oV
      clear hy7 hy8 hf8 hV oV oXY hY hbe hs hz0' hz1'
      go_wp2_with (first
        | (refine wpList_load_blk rfl 63 _ rfl X rfl (bc b) _ hV2 Try.underlying63 (by rfl) (by rw [bc_len]; kernel_rfl) ?_)
        | (refine wpList_buildSlice_one rfl 30 _ rfl 63 i0 _ (bc b) rfl Try.underlying30 hi hz0 (by rw [hz1, bc_len]) (by rw [bc_len]; rfl) (by rw [bc_len]; decide) (by rw [bc_len]; decide) ?_; intro Y6 w6 o6 hY6l hY6; have s6 := hs2.quiet o6; clear hs2 o6)
        | (at_builtin; refine wpList_append_sep rfl _ _ 30 rfl 63 i0 _ 10 152 Try.underlying30 hi hz0 hz1 hz2 rfl (by decide) (.slice a bs.length c) bs.length _ rfl s6 _ 1 (bc b) rfl (src_blk hY6 (by rw [bc_len])) (bc_one b) (by unfold maxLen; omega) (by omega) ?_; intro a7 c7 w7 o7 s7; rw [hfl.out] at s7))
      refine ⟨⟨bs ++ [b], a7, c7, by simp, HB.out, by simpa using s7, ?_⟩, by simp [intOf]⟩
      exact .inr (.inr (.inr ⟨rfl, hk2.out⟩))
    · go_wp2_with fail
      go_ret
      refine ⟨bs, a, c, by rw [hk.out]; rfl, hk.out, hb.out, ?_⟩
      have h3 := hs.sel 2 [0]
      rw [hk.out] at h3
      exact h3
end Go.Proofs.Yticojdepepkdlaa
