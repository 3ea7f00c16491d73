/- Hooks, tables, the law in the machine. -/
import Derived.Test.YtfkbookaceckhaaGreatDoorXNe
import Derived.Test.YtfkbookaceckhaaGreatDoorProg
import Derived.KernelRfl
import Derived.Deep.RegionHeld3
import Derived.Test.YtfkbookaceckhaaGreatDoorXWiXm0
import Derived.Test.YtfkbookaceckhaaGreatDoorXWiXm1
import Derived.Test.YtfkbookaceckhaaGreatDoorXWiXd0
set_option linter.all false
section
namespace Go.Proofs.YtfkbookaceckhaaGreatDoor
open Go.RowKit Go.Pw Go.Sx
set_option linter.all false
theorem tx_info : (Tryz.prog.info? 5).map (fun i => (i.zero, i.size, i.bytes)) = some (some (.int .u8 0), 1, 1) := by kernel_rfl
def Fresh (xs : List Int) (w : World) (e : Ending) (w' : World) : Prop := ∃ v, e = .returned v ∧ w'.ownsRow 0 5 1 v xs.length (xs.map (Value.int .u8)) ∧ SoN w (.slice none 0 0) v ∧ Only w w' []
set_option maxHeartbeats 400000 in
theorem clone_any (p : Value) (xs : List Int) (w : World) (hp : Pw.Src w p 1 xs.length (xs.map (Value.int .u8))) (hl : xs.length ≤ 1000000000) :
    Calls Tryz.prog 60 #[p] w (Fresh xs w) := by
  obtain ⟨i0, hi, hz0, hz1, hz2⟩ := info_parts tx_info
  obtain ⟨ao, c, rfl, h1, h2, h3, h4, _⟩ := id hp
  have hn := Lib.run_eql_slice_nil (P := Tryz.prog) w 23 5 ao xs.length c 0 0 Tryz.underlying23
  cases ao with
  | none =>
    have h0 := (h4 rfl).1
    obtain rfl : xs = [] := List.eq_nil_of_length_eq_zero h0
    obtain rfl : c = 0 := (h4 rfl).2
    simp only [Option.isNone_none, List.length_nil] at hn ⊢
    clear hp h1 h2 h3 h4 h0 hl
    go_enter Tryz.func60, Tryz.ntmps60
    go_wp2
    go_ret
    exact ⟨_, rfl, World.ownsRow_nil _ _ _ _, SoN.refl _ _, Only.refl _ _⟩
  | some a =>
    simp only [Option.isNone_some] at hn
    have hs := hp.off (Only.alloc w (.cells #[] 5) []) (fun _ _ _ => by simp)
    have hown : (w.alloc (.cells #[] 5)).ownsRow 0 5 1 (.slice (some ⟨w.heap.size, 0, none⟩) 0 0) 0 [] := World.ownsRow_made w #[] 0 (Nat.zero_le _) (Nat.zero_le _) rfl
    go_enter Tryz.func60, Tryz.ntmps60
    go_wp2_with (at_builtin; refine wpList_append_src rfl _ _ 23 rfl 5 i0 (.int .u8 0) 1 1 Tryz.underlying23 hi hz0 hz1 hz2 rfl (by decide) (.slice (some ⟨w.heap.size, 0, none⟩) 0 0) 0 [] rfl hown _ xs.length _ rfl hs (one_ints _ _) (by unfold maxLen; omega) (by omega) ?_; intro v' w' g1 g2 g3; simp only [Nat.zero_add, List.nil_append] at g1)
    go_ret
    exact ⟨v', rfl, g1, fun k hk => by
      rcases g3 k hk with h | h
      · right; simp [Value.ownBlock] at h; omega
      · right; simp at h; omega, ((Only.alloc w _ []).step (Only.grown (L := [w.heap.size]) g2 (fun k hk => by simp [Value.ownBlock] at hk; simp; omega)) (fun i hi => .inr (by simp at hi; omega)))⟩
set_option maxHeartbeats 400000 in
theorem bclone_any (p : Value) (xs : List Int) (w : World) (hp : Pw.Src w p 1 xs.length (xs.map (Value.int .u8))) (hl : xs.length ≤ 1000000000) :
    Calls Tryz.prog 97 #[p] w (Fresh xs w) := by
  obtain ⟨i0, hi, hz0, hz1, hz2⟩ := info_parts tx_info
  obtain ⟨ao, c, rfl, h1, h2, h3, h4, _⟩ := id hp
  have hn := Lib.run_eql_slice_nil (P := Tryz.prog) w 23 5 ao xs.length c 0 0 Tryz.underlying23
  cases ao with
  | none =>
    have h0 := (h4 rfl).1
    obtain rfl : xs = [] := List.eq_nil_of_length_eq_zero h0
    obtain rfl : c = 0 := (h4 rfl).2
    simp only [Option.isNone_none, List.length_nil] at hn ⊢
    clear hp h1 h2 h3 h4 h0 hl
    go_enter Tryz.func97, Tryz.ntmps97
    go_wp2
    go_ret
    exact ⟨_, rfl, World.ownsRow_nil _ _ _ _, SoN.refl _ _, Only.refl _ _⟩
  | some a =>
    simp only [Option.isNone_some] at hn
    have hs := hp.off (Only.alloc w (.cells #[] 5) []) (fun _ _ _ => by simp)
    have hown : (w.alloc (.cells #[] 5)).ownsRow 0 5 1 (.slice (some ⟨w.heap.size, 0, none⟩) 0 0) 0 [] := World.ownsRow_made w #[] 0 (Nat.zero_le _) (Nat.zero_le _) rfl
    go_enter Tryz.func97, Tryz.ntmps97
    go_wp2_with (at_builtin; refine wpList_append_src rfl _ _ 23 rfl 5 i0 (.int .u8 0) 1 1 Tryz.underlying23 hi hz0 hz1 hz2 rfl (by decide) (.slice (some ⟨w.heap.size, 0, none⟩) 0 0) 0 [] rfl hown _ xs.length _ rfl hs (one_ints _ _) (by unfold maxLen; omega) (by omega) ?_; intro v' w' g1 g2 g3; simp only [Nat.zero_add, List.nil_append] at g1)
    go_ret
    exact ⟨v', rfl, g1, fun k hk => by
      rcases g3 k hk with h | h
      · right; simp [Value.ownBlock] at h; omega
      · right; simp at h; omega, ((Only.alloc w _ []).step (Only.grown (L := [w.heap.size]) g2 (fun k hk => by simp [Value.ownBlock] at hk; simp; omega)) (fun i hi => .inr (by simp at hi; omega)))⟩
theorem TxtNew.of_fresh {xs : List Int} {w w' : World} {e : Ending} (h : Fresh xs w e w') (h0 : 0 < xs.length) (hb : ∀ x ∈ xs, ∃ b : Nat, b < 256 ∧ x = (b : Int)) {lo hi : Nat} (hlo : lo ≤ xs.length) (hhi : xs.length ≤ hi) : TxtNew w 5 lo hi e w' := by
  obtain ⟨v, rfl, ⟨h1, h2⟩, h3, h4⟩ := h
  rcases h2 with ⟨_, hn⟩ | ⟨g, cap, cur, rfl, _, hg, hc1, hc2, hc3, hc4⟩
  · omega
  · have hgn : w.heap.size ≤ g := by
      rcases h3 g rfl with h | h
      · cases h
      · exact h
    rw [Nat.mul_one] at hc3 hc4
    refine ⟨g, 0, xs.length, cap, cur, (0, 0), rfl, hlo, hhi, ⟨hc1, by unfold maxLen at hc2; omega⟩, hgn, hg, Or.inl rfl, by omega, fun i hi => ?_, ⟨h4.os, h4.tape, h4.output, h4.size, fun k hk _ => h4.block k hk (by simp)⟩⟩
    have h5 : (cur.toList.take xs.length)[i]? = some (.int .u8 xs[i]) := by rw [hc4]; simp [hi]
    rw [List.getElem?_take, if_pos hi, Array.getElem?_toList] at h5
    obtain ⟨b, hb1, hb2⟩ := hb xs[i] (List.getElem_mem hi)
    exact ⟨b, hb1, by rw [Nat.zero_add, h5, hb2]⟩
theorem src_of_txt {w : World} {l : Sx.Loc} (h : TxtAt w l) : ∃ xs : List Int, xs.length = l.len ∧ (∀ x ∈ xs, ∃ b : Nat, b < 256 ∧ x = (b : Int)) ∧ Pw.Src w (.slice (some ⟨l.blk, l.base, none⟩) l.len l.room) 1 xs.length (xs.map (Value.int .u8)) := by
  obtain ⟨cs, el, fr, hb, _, hsz, hby, hr1, hr2⟩ := h
  have hall : ∀ i, ∃ b : Nat, i < l.len → b < 256 ∧ cs[l.base + i]? = some (.int .u8 b) := fun i => by
    by_cases hi : i < l.len
    · obtain ⟨b, h1, h2⟩ := hby i hi
      exact ⟨b, fun _ => ⟨h1, h2⟩⟩
    · exact ⟨0, fun h => absurd h hi⟩
  obtain ⟨f, hf⟩ := Classical.axiomOfChoice hall
  refine ⟨(List.range l.len).map fun i => (f i : Int), by simp, fun x hx => ?_, some ⟨l.blk, l.base, none⟩, l.room, by simp, by simpa using hr1, by unfold maxLen; omega, by simp, fun h => (by cases h), fun b hb2 j u hj => ?_⟩
  · obtain ⟨i, hi, rfl⟩ := List.mem_map.1 hx
    exact ⟨f i, (hf i (List.mem_range.1 hi)).1, rfl⟩
  · obtain rfl := Option.some.inj hb2
    have hj2 : j < l.len := by
      have := (List.getElem?_eq_some_iff.1 hj).1
      simpa using this
    rw [Go.WideShapes.add_plain, world_cell hb, (hf j hj2).2, ← hj]
    simp [hj2]
def gTx : List AV → Option ((Nat × Nat × Nat) × (Nat × Nat))
  | [.slcT id lo hi] => match Nat.blt 0 lo && Nat.ble hi 1000000 with
    | true => some ((id, lo, hi), (lo, hi))
    | false => none
  | _ => none
theorem copy_good {f : Nat} (hf : ∃ fn c, nthL Tryz.prog.funcs.toList f = some fn ∧ fn.body = some c)
    (hc : ∀ (p : Value) (xs : List Int) (w : World), Pw.Src w p 1 xs.length (xs.map (Value.int .u8)) → xs.length ≤ 1000000000 → Calls Tryz.prog f #[p] w (Fresh xs w)) : HkGood Tryz.prog (txHook f 5 gTx) := by
  refine txHook_good hf fun args id lo hi lo' hi' σ us l w hg hd hl ht => ?_
  unfold gTx at hg
  split at hg
  · rename_i id lo hi
    split at hg
    · rename_i hb
      simp only [Bool.and_eq_true] at hb
      have hlo : 0 < lo := Nat.le_of_ble_eq_true hb.1
      have hhi : hi ≤ 1000000 := Nat.le_of_ble_eq_true hb.2
      simp only [Option.some.injEq, Prod.mk.injEq] at hg
      obtain ⟨⟨rfl, rfl, rfl⟩, rfl, rfl⟩ := hg
      obtain ⟨u, us', rfl, h1, h2⟩ := denL_cons hd
      obtain rfl := denL_nil h2
      simp only [den, Option.map_eq_some_iff] at h1
      obtain ⟨l', hl', rfl⟩ := h1
      obtain ⟨e1, e2, e3⟩ := denT_spec hl'
      obtain rfl : l = l' := Option.some.inj (hl.symm.trans e1)
      obtain ⟨xs, x1, x2, x3⟩ := src_of_txt ht
      refine Calls.mono (hc _ xs w x3 (by omega)) fun e w' h => TxtNew.of_fresh h (by omega) x2 (by omega) (by omega)
    · cases hg
  · cases hg
theorem clones_fn : fnOf Tryz.prog 60 = some (ntOf Tryz.prog 60, bodyOf Tryz.prog 60, resultsOf Tryz.prog 60) := by kernel_rfl
theorem cloneb_fn : fnOf Tryz.prog 97 = some (ntOf Tryz.prog 97, bodyOf Tryz.prog 97, resultsOf Tryz.prog 97) := by kernel_rfl
theorem tx_s_good : HkGood Tryz.prog (txHook 60 5 gTx) := by
  obtain ⟨fn, h1, _, h3, _⟩ := fnOf_ok clones_fn
  exact copy_good ⟨fn, _, h1, h3⟩ clone_any
theorem tx_b_good : HkGood Tryz.prog (txHook 97 5 gTx) := by
  obtain ⟨fn, h1, _, h3, _⟩ := fnOf_ok cloneb_fn
  exact copy_good ⟨fn, _, h1, h3⟩ bclone_any
def gU : List AV → Option Unit
  | [.slcU _] => some ()
  | _ => none
theorem copyU_good {f : Nat} (hf : ∃ fn c, nthL Tryz.prog.funcs.toList f = some fn ∧ fn.body = some c)
    (hc : ∀ (p : Value) (xs : List Int) (w : World), Pw.Src w p 1 xs.length (xs.map (Value.int .u8)) → xs.length ≤ 1000000000 → Calls Tryz.prog f #[p] w (Fresh xs w)) : HkGood Tryz.prog (uHook f gU) := by
  refine uHook_good hf fun args σ us w hg hd => ?_
  unfold gU at hg
  split at hg
  · rename_i id
    obtain ⟨u, us', rfl, h1, h2⟩ := denL_cons hd
    obtain rfl := denL_nil h2
    simp only [den, Option.map_eq_some_iff] at h1
    obtain ⟨l, hl, rfl⟩ := h1
    obtain ⟨e1, e2⟩ := denU_spec hl
    refine Calls.mono (hc _ [] w ⟨l.at0, _, rfl, Nat.zero_le _, by unfold maxLen; exact e2, rfl, fun h => ⟨rfl, e1 h⟩, fun _ _ _ _ hj => by simp at hj⟩ (by simp)) ?_
    rintro e w' ⟨v, rfl, ⟨h1, h2⟩, h3, h4⟩
    have ho : OnlyB w w' (fun _ => False) := ⟨h4.os, h4.tape, h4.output, h4.size, fun k hk _ => h4.block k hk (by simp)⟩
    rcases h2 with ⟨rfl, _⟩ | ⟨g, cap, cur, rfl, _, hg, hc1, hc2, hc3, hc4⟩
    · exact ⟨none, 0, ⟨fun _ => rfl, by omega⟩, rfl, ho⟩
    · exact ⟨_, cap, ⟨fun h => (by cases h), by unfold maxLen at hc2; omega⟩, rfl, ho⟩
  · cases hg
theorem u_s_good : HkGood Tryz.prog (uHook 60 gU) := by
  obtain ⟨fn, h1, _, h3, _⟩ := fnOf_ok clones_fn
  exact copyU_good ⟨fn, _, h1, h3⟩ clone_any
theorem u_b_good : HkGood Tryz.prog (uHook 97 gU) := by
  obtain ⟨fn, h1, _, h3, _⟩ := fnOf_ok cloneb_fn
  exact copyU_good ⟨fn, _, h1, h3⟩ bclone_any
#print axioms tx_b_good
#print axioms u_b_good
end Go.Proofs.YtfkbookaceckhaaGreatDoor
end
section
namespace Go.Proofs.YtfkbookaceckhaaGreatDoor
open Go.RowKit Go.Pw
set_option linter.all false
set_option maxRecDepth 100000
theorem Tryz.info5 : (Tryz.prog.info? 5).map (fun i => (i.zero, i.size, i.bytes)) = some (some (.int .u8 0), 1, 1) := by kernel_rfl
def be (n : Int) : Nat → List Int
  | 0 => []
  | k + 1 => (n / 256 ^ k) % 256 :: be n k
theorem be_len (n : Int) (k : Nat) : (be n k).length = k := by
  induction k with
  | zero => rfl
  | succ k ih => simp [be, ih]
theorem be_head (n : Int) (k : Nat) (hn0 : 0 ≤ n) : IntKind.u8.wrap (n / 2 ^ (8 * k)) = (n / 256 ^ k) % 256 := by
  rw [show (2 : Int) ^ (8 * k) = 256 ^ k by rw [Int.pow_mul]; rfl]
  simp [IntKind.wrap, IntKind.bits, IntKind.signed]
def Rd (w : World) (v : Value) (xs : List Int) : Prop := Src w v 1 xs.length (xs.map (Value.int .u8))
theorem Rd.nil (w : World) : Rd w (.slice none 0 0) [] := ⟨none, 0, rfl, Nat.le_refl _, Nat.zero_le _, rfl, fun _ => ⟨rfl, rfl⟩, by simp⟩
theorem Rd.new {w w' : World} {v : Value} {xs : List Int} (h : Rd w v xs) (ho : Only w w' []) : Rd w' v xs := Src.off h ho (fun _ _ _ => by simp)
theorem Rd.slice {w : World} {v : Value} {xs : List Int} (h : Rd w v xs) : ∃ ao c, v = .slice ao xs.length c := by
  obtain ⟨ao, c, h, _⟩ := h
  exact ⟨ao, c, h⟩
theorem own_rd {w : World} {v : Value} {xs : List Int} (h : w.ownsRow 0 5 1 v xs.length (xs.map (Value.int .u8))) : Rd w v xs := own_src h
theorem Fresh.name {xs : List Int} {w : World} {e : Ending} {w' : World} (h : Fresh xs w e w') : ∃ ys ao c, Hid (ys = xs) ∧ e = .returned (.slice ao ys.length c) ∧ w'.ownsRow 0 5 1 (.slice ao ys.length c) ys.length (ys.map (Value.int .u8)) ∧ SoN w (.slice none 0 0) (.slice ao ys.length c) ∧ Only w w' [] := by
  obtain ⟨v, rfl, h1, h2, h3⟩ := h
  obtain ⟨ao, c, rfl⟩ := own_slice h1
  exact ⟨xs, ao, c, rfl, rfl, h1, h2, h3⟩
theorem u64_u32 (u : Int) : IntKind.u64.wrap (IntKind.u32.wrap u) = IntKind.u32.wrap u := by simp [IntKind.wrap, IntKind.bits, IntKind.signed]; omega
theorem u32_lo (u : Int) : 0 ≤ IntKind.u32.wrap u := by simp [IntKind.wrap, IntKind.bits, IntKind.signed]; omega
theorem u32_hi (u : Int) : IntKind.u32.wrap u < 18446744073709551616 := by simp [IntKind.wrap, IntKind.bits, IntKind.signed]; omega
theorem u64_in (n : Int) (h0 : 0 ≤ n) (h1 : n < 4294967296) : IntKind.u64.wrap n = n := by simp [IntKind.wrap, IntKind.bits, IntKind.signed]; omega
def U32 (n : Int) : Prop := 0 ≤ n ∧ n < 4294967296
def innerB (u n : Int) (ts : List Int) : List Int := be (IntKind.u32.wrap u) 4 ++ be n 4 ++ be ts.length 4 ++ ts
set_option maxHeartbeats 400000 in
theorem wnum_any (B : Nat) (v0 : Value) (xs : List Int) (n : Int) (k : Nat) (w : World) (hk : k ≤ 8) (hn0 : 0 ≤ n) (hn1 : n < 18446744073709551616) (hw : IsW 298 5 B v0 xs w) (hx : xs.length ≤ 1000000) :
    Calls Tryz.prog 179 #[.pointer (some ⟨B, 0, none⟩), .int .u64 n, .int .i64 k] w fun e w' => e = .returned (.pointer (some ⟨B, 0, none⟩)) ∧ ∃ v', IsW 298 5 B v' (xs ++ be n k) w' ∧ SoN w v0 v' ∧ Only w w' (B :: v0.ownBlock.toList) := by
  obtain ⟨i0, hi, hz0, hz1, hz2⟩ := info_parts Tryz.info5
  go_enter Tryz.func179, Tryz.ntmps179
  go_wp2
  go_loopw [7] (fun i wr => ∃ j : Nat, i = .int .i64 ((j : Int) - 1) ∧ j ≤ k ∧ ∃ v ys, IsW 298 5 B v ys wr ∧ SoN w v0 v ∧ Only w wr (B :: v0.ownBlock.toList) ∧ ys ++ be n j = xs ++ be n k ∧ ys.length ≤ 1000000 + k - j)
    (fun i _ => (intOf i + 1).toNat)
  case atStart => exact ⟨k, rfl, Nat.le_refl _, v0, xs, hw, SoN.refl _ _, Only.refl _ _, rfl, by omega⟩
  case round =>
    obtain ⟨j, rfl, hj, v, ys, ⟨hB, hown⟩, hson, honly, hys, hyl⟩ := hrel
    by_cases hj0 : j = 0
    · subst hj0
      go_wp2
      go_ret
      refine ⟨rfl, v, ?_, hson, honly⟩
      have e : ys = xs ++ be n k := by simpa [be] using hys
      subst e
      exact ⟨hB, hown⟩
    · obtain ⟨j', rfl⟩ : ∃ j', j = j' + 1 := ⟨j - 1, by omega⟩
      have hc := cell_of_one hB
      have hf := free_of_one hB
      obtain ⟨ao, cc, hv⟩ := own_slice hown
      have e1 : IntKind.i64.wrap (8 * (j' : Int)) = 8 * (j' : Int) := IntWalk.i64_in _ (by omega)
      have p1 : 0 ≤ 8 * (j' : Int) := by omega
      have m1 : (8 * (j' : Int)).toNat = 8 * j' := by omega
      have hne := own_ne hown hB (by decide)
      subst hv
      have hca : ∀ o, (wr.alloc o).cell? ⟨B, 0, none⟩ = some (.slice ao ys.length cc) := cell_al hc
      go_wp2
      go_region_law (refine step_append_src rfl (.tmp 22) (.tmp 28) 23 rfl 5 i0 (.int .u8 0) 1 1 Tryz.underlying23 hi hz0 hz1 hz2 rfl (by decide) _ ys.length _ (by simp [Act.eval]) (hown.alloc _).drew _ 1 _ (by simp [Act.eval]) (src_one _ _ _).drew (by simp [Value.oneCell']) (by unfold maxLen; omega) (by omega) (fun v' w' h1 h2 h3 => ?_); obtain ⟨ao', cc', rfl⟩ := own_slice h1; have hB' := grown_block h2 (show _ = some (.cells #[_] 298 (0, 0)) from (Below.heap_alloc wr _ B (Array.getElem?_eq_some_iff.1 hB).1).trans hB) hne; have hc' := cell_of_one hB'; have hf' := free_of_one hB')
      all_goals
        go_wp2
        go_roundw
        case rel =>
          obtain ⟨r1, r2, r3⟩ := isw_step (news := [IntKind.u8.wrap (n / 2 ^ (8 * j'))]) (by decide) ⟨hB, hown⟩ ((Only.alloc wr _ []).trans (Only.drew _ [])) h1 h2 h3
          exact ⟨j', rfl, by omega, _, _, r1, hson.trans r2 honly.size, honly.step r3 (own_list hson), by rw [← hys]; simp [be, be_head n j' hn0], by simp; omega⟩
        case measure => simp [intOf]
set_option maxHeartbeats 400000 in
theorem wdone_any (B : Nat) (v0 : Value) (xs : List Int) (w : World) (hw : IsW 298 5 B v0 xs w) (hx : xs.length ≤ 1000000000) :
    Calls Tryz.prog 180 #[.pointer (some ⟨B, 0, none⟩)] w fun e w' => ∃ v, e = .returned v ∧ w'.ownsRow 0 5 1 v xs.length (xs.map (Value.int .u8)) ∧ SoN w (.slice none 0 0) v ∧ Only w w' [] := by
  obtain ⟨i0, hi, hz0, hz1, hz2⟩ := info_parts Tryz.info5
  obtain ⟨ao, c, rfl⟩ := hw.slice
  have hc := cell_of_one hw.1
  have hs := own_src hw.2
  go_enter Tryz.func180, Tryz.ntmps180
  go_wp2_with (at_builtin; refine wpList_append_src rfl _ _ 23 rfl 5 i0 (.int .u8 0) 1 1 Tryz.underlying23 hi hz0 hz1 hz2 rfl (by decide) (.slice none 0 0) 0 [] rfl (World.ownsRow_nil _ _ _ _) _ xs.length _ rfl hs (by simp [Value.oneCell']) (by unfold maxLen; omega) (by omega) ?_; intro v' w' h1 h2 h3; simp only [Nat.zero_add, List.nil_append] at h1; obtain ⟨ao', cc', rfl⟩ := own_slice h1)
  go_ret
  exact ⟨_, rfl, h1, h3, Only.grown h2 (by simp [Value.ownBlock])⟩
set_option maxHeartbeats 400000 in
theorem wbytes_any (B : Nat) (v0 p : Value) (xs ps : List Int) (w : World) (hw : IsW 298 5 B v0 xs w) (hx : xs.length ≤ 900000) (hp : Src w p 1 ps.length (ps.map (Value.int .u8))) (hpl : ps.length ≤ 1000000000) (ha : Off p (B :: v0.ownBlock.toList)) :
    Calls Tryz.prog 178 #[.pointer (some ⟨B, 0, none⟩), p] w fun e w' => e = .returned (.pointer (some ⟨B, 0, none⟩)) ∧ ∃ v', IsW 298 5 B v' (xs ++ be ps.length 4 ++ ps) w' ∧ SoN w v0 v' ∧ Only w w' (B :: v0.ownBlock.toList) := by
  obtain ⟨i0, hi, hz0, hz1, hz2⟩ := info_parts Tryz.info5
  obtain ⟨ao, c, rfl, _, _, _⟩ := id hp
  go_enter Tryz.func178, Tryz.ntmps178
  go_wp2_with fail
  refine (wnum_any B v0 xs ps.length 4 _ (by decide) (by omega) (by omega) hw (by omega)).mono ?_
  rintro e w1 ⟨rfl, v1, hw1, hs1, ho1⟩
  obtain ⟨ys, hys⟩ : ∃ ys, ys = xs ++ be ps.length 4 := ⟨_, rfl⟩
  rw [← hys] at hw1
  have hyl : ys.length ≤ 900004 := by rw [hys]; simp [be_len]; omega
  have Hys := Lib.hid hys
  clear hys hw hx
  have hsz := ho1.size
  have hp1 := hp.off ho1 ha
  obtain ⟨ao1, c1, hv1⟩ := hw1.slice
  obtain rfl := hv1
  have hc := cell_of_one hw1.1
  go_wp2_with (at_builtin; refine wpList_append_src rfl _ _ 23 rfl 5 i0 (.int .u8 0) 1 1 Tryz.underlying23 hi hz0 hz1 hz2 rfl (by decide) (.slice ao1 ys.length c1) _ _ rfl hw1.2 _ ps.length _ rfl hp1 (by simp [Value.oneCell']) (by unfold maxLen; omega) (by omega) ?_; intro v' w' h1 h2 h3; obtain ⟨ao', cc', rfl⟩ := own_slice h1; have hB' := grown_block h2 hw1.1 (own_ne hw1.2 hw1.1 (by decide)); have hc' := cell_of_one hB'; have hf' := free_of_one hB')
  obtain ⟨r1, r2, r3⟩ := isw_step (news := ps) (by decide) hw1 (Only.refl _ []) h1 h2 h3
  go_ret
  exact ⟨rfl, _, Hys.out ▸ r1, hs1.trans r2 hsz, ho1.step r3 (own_list hs1)⟩
def StWr (B : Nat) (v0 : Value) (W w' : World) (ys : List Int) : Prop :=
  ∃ v, IsW 298 5 B v ys w' ∧ SoN W v0 v ∧ Only W w' (B :: v0.ownBlock.toList)
theorem StWr.start {B : Nat} {v0 : Value} {W : World} {xs : List Int} (h : IsW 298 5 B v0 xs W) : StWr B v0 W W xs := ⟨v0, h, SoN.refl _ _, Only.refl _ _⟩
theorem StWr.only {B : Nat} {v0 : Value} {W w' : World} {ys : List Int} (h : StWr B v0 W w' ys) : Only W w' (B :: v0.ownBlock.toList) := h.choose_spec.2.2
theorem isw_new {T E B : Nat} {v : Value} {xs : List Int} {w w' : World} (h : IsW T E B v xs w) (ho : Only w w' []) : IsW T E B v xs w' := ⟨ho.at h.1 (by simp), own_new h.2 ho (by simp)⟩
theorem StWr.new {B : Nat} {v0 : Value} {W w1 w2 : World} {ys : List Int} (h : StWr B v0 W w1 ys) (ho : Only w1 w2 []) : StWr B v0 W w2 ys := by
  obtain ⟨v, h1, h2, h3⟩ := h
  exact ⟨v, isw_new h1 ho, h2, h3.trans (ho.mono (by simp))⟩
theorem StWr.drew {B : Nat} {v0 : Value} {W w1 : World} {ys : List Int} (h : StWr B v0 W w1 ys) : StWr B v0 W w1.drew ys := h.new (Only.drew _ _)
theorem StWr.trans {B : Nat} {v0 v1 : Value} {W w1 w2 : World} {zs : List Int} (h2 : SoN W v0 v1) (h3 : Only W w1 (B :: v0.ownBlock.toList)) (h : StWr B v1 w1 w2 zs) : StWr B v0 W w2 zs := by
  obtain ⟨v, k1, k2, k3⟩ := h
  exact ⟨v, k1, h2.trans k2 h3.size, h3.step k3 (own_list h2)⟩
theorem off_next {B : Nat} {v0 v1 p : Value} {W : World} {ps : List Int} (hp : Rd W p ps) (ho : Off p (B :: v0.ownBlock.toList)) (h : SoN W v0 v1) : Off p (B :: v1.ownBlock.toList) := fun hm k hk hkL => by
  rcases own_list h k hkL with h1 | h1
  · exact ho hm k hk h1
  · have := Src.lt hp (by decide) hm k hk; omega
theorem StWr.step {B f : Nat} {v0 r : Value} {args : Array Value} {W w1 : World} {ys zs : List Int} (h : StWr B v0 W w1 ys)
    (hc : ∀ v1, IsW 298 5 B v1 ys w1 → SoN W v0 v1 → Calls Tryz.prog f args w1 fun e w2 => e = .returned r ∧ StWr B v1 w1 w2 zs) :
    Calls Tryz.prog f args w1 fun e w2 => e = .returned r ∧ StWr B v0 W w2 zs := by
  obtain ⟨v1, h1, h2, h3⟩ := h
  refine (hc v1 h1 h2).mono ?_
  rintro e w2 ⟨rfl, k⟩
  exact ⟨rfl, k.trans h2 h3⟩
theorem wnum4_st {B : Nat} {v0 : Value} {W w1 : World} {ys : List Int} (h : StWr B v0 W w1 ys) (n : Int) (hl : ys.length ≤ 1000000) (hn0 : 0 ≤ n) (hn1 : n < 18446744073709551616) :
    Calls Tryz.prog 179 #[.pointer (some ⟨B, 0, none⟩), .int .u64 n, .int .i64 4] w1 fun e w2 => e = .returned (.pointer (some ⟨B, 0, none⟩)) ∧ StWr B v0 W w2 (ys ++ be n 4) :=
  h.step fun v1 h1 _ => wnum_any B v1 ys n 4 w1 (by decide) hn0 hn1 h1 hl
theorem wbytes_st {B : Nat} {v0 p : Value} {W w1 : World} {ys ps : List Int} (h : StWr B v0 W w1 ys) (hp : Rd W p ps) (ho : Off p (B :: v0.ownBlock.toList)) (hl : ys.length ≤ 900000) (hpl : ps.length ≤ 1000000000) :
    Calls Tryz.prog 178 #[.pointer (some ⟨B, 0, none⟩), p] w1 fun e w2 => e = .returned (.pointer (some ⟨B, 0, none⟩)) ∧ StWr B v0 W w2 (ys ++ be ps.length 4 ++ ps) :=
  h.step fun v1 h1 h2 => wbytes_any B v1 p ys ps w1 h1 hl (Src.off hp h.only ho) hpl (off_next hp ho h2)
theorem wdone_st {B : Nat} {v0 : Value} {W w1 : World} {ys : List Int} (h : StWr B v0 W w1 ys) (hl : ys.length ≤ 1000000000) :
    Calls Tryz.prog 180 #[.pointer (some ⟨B, 0, none⟩)] w1 (Fresh ys w1) := by
  obtain ⟨v1, h1, _, _⟩ := h
  exact wdone_any B v1 ys w1 h1 hl
theorem isw_apart {T E B X : Nat} {v : Value} {xs : List Int} {w : World} (h : IsW T E B v xs w) (hX : w.heap.size ≤ X) : X ∉ B :: v.ownBlock.toList := by
  intro hm
  have h1 := (Array.getElem?_eq_some_iff.1 h.1).1
  rcases List.mem_cons.1 hm with rfl | hm
  · omega
  · have := (h.2.lt X (by simpa using hm)).2
    omega
theorem fresh_done {B : Nat} {w W w1 w2 : World} {e : Ending} {xs ys : List Int} (h : Fresh ys w1 e w2) (hoW : Only w W []) (hB : w.heap.size ≤ B) (h1 : Only W w1 (B :: (Value.slice none 0 0).ownBlock.toList)) (he : ys = xs) : Fresh xs w e w2 := by
  subst he
  obtain ⟨v, rfl, g1, g2, g3⟩ := h
  have ho : Only w w1 [] := hoW.new h1 (by simp [Value.ownBlock]; omega)
  exact ⟨v, rfl, g1, g2.weaken ho.size, ho.trans g3⟩
set_option maxHeartbeats 1600000 in
theorem encinner_any (u n : Int) (vt : Value) (ts : List Int) (w : World) (ht : Rd w vt ts) (hn : U32 n) (hl : ts.length ≤ 400000) :
    Calls Tryz.prog 166 #[.agg #[.int .i64 u, .int .u32 n, vt]] w (Fresh (innerB u n ts) w) := by
  obtain ⟨az, ct, rfl⟩ := ht.slice
  obtain ⟨n0, n1⟩ := hn
  go_enter Tryz.func166, Tryz.ntmps166
  go_wp2_with fail
  obtain ⟨W1, X, hW, hX, hb0, hoW1, hX1, hX2⟩ := new_block w (.cells #[.int .i64 u, .int .u32 n, .slice az ts.length ct] 263)
  have hs1 : W1.heap.size = X + 1 := by rw [hW, hX]; simp
  rw [← hW, ← hX]
  clear hW hX
  obtain ⟨W, B, hW, hB, hbw, hoW2, hB1, hB2⟩ := new_block W1 (.cells #[.slice none 0 0] 298)
  rw [← hW, ← hs1, ← hB]
  clear hW hB hs1
  have hb := hoW2.at hb0 (by simp)
  have hoW := hoW1.trans hoW2
  have hBw : w.heap.size ≤ B := Nat.le_trans hoW1.size hB1
  have hXn : X ∉ B :: (Value.slice none 0 0).ownBlock.toList := by simp [Value.ownBlock]; omega
  have hw : IsW 298 5 B (.slice none 0 0) [] W := ⟨hbw, World.ownsRow_nil _ _ _ _⟩
  have Sk : ∀ w', Only W w' (B :: (Value.slice none 0 0).ownBlock.toList) → w'.cell? ⟨X, 0, none⟩ = some (.int .i64 u) ∧ w'.cell? ⟨X, 1, none⟩ = some (.int .u32 n) ∧ w'.cell? ⟨X, 2, none⟩ = some (.slice az ts.length ct) := fun w' ho => ⟨ho.cell_in hb hXn 0, ho.cell_in hb hXn 1, ho.cell_in hb hXn 2⟩
  have ft : Off (.slice az ts.length ct) (B :: (Value.slice none 0 0).ownBlock.toList) := Src.off_new ht (by decide) (by simp [Value.ownBlock]; omega)
  have nt := ht.new hoW
  have st0 := (StWr.start hw).drew
  have ho0 := st0.only
  have hl0 : ([] : List Int).length ≤ 0 := by simp
  have e1 : IntKind.u64.wrap (IntKind.u32.wrap u) = IntKind.u32.wrap u := u64_u32 u
  have e2 : IntKind.u64.wrap n = n := u64_in n n0 n1
  clear hb hb0 ht hbw
  go_region_held3 (fun w' => w'.cell? ⟨X, 0, none⟩ = some (.int .i64 u) ∧ w'.cell? ⟨X, 1, none⟩ = some (.int .u32 n) ∧ w'.cell? ⟨X, 2, none⟩ = some (.slice az ts.length ct)) (exact Sk _ (by assumption))
    (first
      | (go_at_call 179; (with_reducible refine (wnum4_st st0 (IntKind.u32.wrap u) (by omega) (u32_lo u) (u32_hi u)).mono fun e w1 hq => ?_); obtain ⟨rfl, st1⟩ := hq; have ho1 := st1.only; have hl1 : ([] ++ be (IntKind.u32.wrap u) 4).length ≤ 4 := by simp [be_len] <;> omega)
      | (go_at_call 179; (with_reducible refine (wnum4_st st1 (n) (by omega) n0 (by omega)).mono fun e w2 hq => ?_); obtain ⟨rfl, st2⟩ := hq; have ho2 := st2.only; have hl2 : ([] ++ be (IntKind.u32.wrap u) 4 ++ be (n) 4).length ≤ 8 := by simp [be_len] <;> omega)
      | (go_at_call 178; (with_reducible refine (wbytes_st st2 nt ft (by omega) (by omega)).mono fun e w3 hq => ?_); obtain ⟨rfl, st3⟩ := hq; have ho3 := st3.only; have hl3 : ([] ++ be (IntKind.u32.wrap u) 4 ++ be (n) 4 ++ be ts.length 4 ++ ts).length ≤ ts.length + 12 := by simp [be_len] <;> omega)
      | (go_at_call 180; (with_reducible refine (wdone_st st3 (by omega)).mono fun e w4 hq => ?_); have ho4 : Only W w4 (B :: (Value.slice none 0 0).ownBlock.toList) := ho3.trans (Only.mono hq.choose_spec.2.2.2 (by simp)); obtain ⟨ys, a4, c4, Hys, rfl, g1, g2, g3⟩ := hq.name))
  go_wp2_with fail
  go_ret
  exact fresh_done ⟨_, rfl, g1, g2, g3⟩ hoW hBw ho3 (by rw [Hys.out]; simp [innerB])
def isI : Sx.AV → Bool
  | .int .i64 _ => true
  | .vint .i64 _ _ _ _ _ => true
  | .tok .i64 _ _ _ => true
  | _ => false
def isU : Sx.AV → Bool
  | .int .u32 (.ofNat n) => Nat.blt n 4294967296
  | _ => false
def gE : List Sx.AV → Option ((Nat × Nat × Nat) × (Nat × Nat))
  | [.agg [a, b, .slcT id lo hi]] => match isI a && isU b && Nat.ble hi 300000 with
    | true => some ((id, lo, hi), (Nat.add lo 12, Nat.add hi 12))
    | false => none
  | _ => none
def gEU : List Sx.AV → Option (Nat × Nat)
  | [.agg [a, b, .slcU _]] => match isI a && isU b with
    | true => some (12, 12)
    | false => none
  | _ => none
theorem isI_den {σ : Sx.Env} {a : Sx.AV} {u : Value} (h : isI a = true) (hd : Sx.den σ a = some u) : ∃ n, u = .int .i64 n := by
  unfold isI at h
  split at h
  · simp only [Sx.den, Option.some.injEq] at hd
    exact ⟨_, hd.symm⟩
  · simp only [Sx.den, Option.map_eq_some_iff] at hd
    obtain ⟨n, _, rfl⟩ := hd
    exact ⟨_, rfl⟩
  · simp only [Sx.den, Option.map_eq_some_iff] at hd
    obtain ⟨n, _, rfl⟩ := hd
    exact ⟨_, rfl⟩
  · cases h
theorem isU_den {σ : Sx.Env} {a : Sx.AV} {u : Value} (h : isU a = true) (hd : Sx.den σ a = some u) : ∃ n, u = .int .u32 n ∧ U32 n := by
  unfold isU at h
  split at h
  · simp only [Sx.den, Option.some.injEq] at hd
    have := Nat.le_of_ble_eq_true h
    exact ⟨_, hd.symm, Int.natCast_nonneg _, by simp only [Int.ofNat_eq_natCast]; omega⟩
  · cases h
def Byt (xs : List Int) : Prop := ∀ x ∈ xs, ∃ b : Nat, b < 256 ∧ x = (b : Int)
theorem Byt.app {a b : List Int} (ha : Byt a) (hb : Byt b) : Byt (a ++ b) := fun x hx => by
  rcases List.mem_append.1 hx with h | h
  · exact ha x h
  · exact hb x h
theorem be_byt (n : Int) (k : Nat) : Byt (be n k) := by
  induction k with
  | zero => intro x hx; simp [be] at hx
  | succ k ih =>
    intro x hx
    simp only [be, List.mem_cons] at hx
    rcases hx with rfl | hx
    · have h1 := Int.emod_nonneg (n / 256 ^ k) (show (256 : Int) ≠ 0 by decide)
      have h2 := Int.emod_lt_of_pos (n / 256 ^ k) (show (0 : Int) < 256 by decide)
      exact ⟨((n / 256 ^ k) % 256).toNat, by omega, by omega⟩
    · exact ih x hx
theorem inner_byt (u n : Int) {ts : List Int} (h : Byt ts) : Byt (innerB u n ts) := ((be_byt _ _).app (be_byt _ _)).app (be_byt _ _) |>.app h
theorem inner_len (u n : Int) (ts : List Int) : (innerB u n ts).length = 12 + ts.length := by simp [innerB, be_len]; omega
theorem inner_args {σ : Sx.Env} {a b c : Sx.AV} {us : List Value} (hd : Sx.denL σ [.agg [a, b, c]] = some us) (ha : isI a = true) (hb : isU b = true) : ∃ u n v, us = [.agg #[.int .i64 u, .int .u32 n, v]] ∧ U32 n ∧ Sx.den σ c = some v := by
  obtain ⟨u, us', rfl, h1, h2⟩ := Sx.denL_cons hd
  obtain rfl := Sx.denL_nil h2
  simp only [Sx.den] at h1
  split at h1
  · rename_i l hl
    obtain rfl := Option.some.inj h1
    obtain ⟨x, l1, rfl, hx, hl⟩ := Sx.denL_cons hl
    obtain ⟨y, l2, rfl, hy, hl⟩ := Sx.denL_cons hl
    obtain ⟨z, l3, rfl, hz, hl⟩ := Sx.denL_cons hl
    obtain rfl := Sx.denL_nil hl
    obtain ⟨n, rfl⟩ := isI_den ha hx
    obtain ⟨m, rfl, hm⟩ := isU_den hb hy
    exact ⟨n, m, z, rfl, hm, hz⟩
  · cases h1
theorem inner_fn : Sx.fnOf Tryz.prog 166 = some (Sx.ntOf Tryz.prog 166, Sx.bodyOf Tryz.prog 166, Sx.resultsOf Tryz.prog 166) := by kernel_rfl
theorem inner_good : Sx.HkGood Tryz.prog (Sx.txHook 166 5 gE) := by
  obtain ⟨fn, hf1, _, hf3, _⟩ := Sx.fnOf_ok inner_fn
  refine Sx.txHook_good ⟨fn, _, hf1, hf3⟩ fun args id lo hi lo' hi' σ us l w hg hd hl ht => ?_
  unfold gE at hg
  split at hg
  · rename_i a b id lo hi
    split at hg
    · rename_i hb
      simp only [Bool.and_eq_true] at hb
      have hhi : hi ≤ 300000 := Nat.le_of_ble_eq_true hb.2
      simp only [Option.some.injEq, Prod.mk.injEq] at hg
      obtain ⟨⟨rfl, rfl, rfl⟩, rfl, rfl⟩ := hg
      obtain ⟨u, n, v, rfl, hn, hv⟩ := inner_args hd hb.1.1 hb.1.2
      simp only [Sx.den, Option.map_eq_some_iff] at hv
      obtain ⟨l', hl', rfl⟩ := hv
      obtain ⟨e1, e2, e3⟩ := Sx.denT_spec hl'
      obtain rfl : l = l' := Option.some.inj (hl.symm.trans e1)
      obtain ⟨xs, x1, x2, x3⟩ := src_of_txt ht
      have hL := inner_len u n xs
      refine Calls.mono (encinner_any u n _ xs w x3 hn (by omega)) fun e w' h => TxtNew.of_fresh h (by omega) (inner_byt u n x2) ?_ ?_
      · show lo + 12 ≤ _; omega
      · show _ ≤ hi + 12; omega
    · cases hg
  · cases hg
theorem innerU_good : Sx.HkGood Tryz.prog (Sx.nxHook 166 5 gEU) := by
  obtain ⟨fn, hf1, _, hf3, _⟩ := Sx.fnOf_ok inner_fn
  refine Sx.nxHook_good ⟨fn, _, hf1, hf3⟩ fun args lo' hi' σ us w hg hd => ?_
  unfold gEU at hg
  split at hg
  · rename_i a b id
    split at hg
    · rename_i hb
      simp only [Bool.and_eq_true] at hb
      simp only [Option.some.injEq, Prod.mk.injEq] at hg
      obtain ⟨rfl, rfl⟩ := hg
      obtain ⟨u, n, v, rfl, hn, hv⟩ := inner_args hd hb.1 hb.2
      simp only [Sx.den, Option.map_eq_some_iff] at hv
      obtain ⟨l, hl, rfl⟩ := hv
      obtain ⟨e1, e2⟩ := Sx.denU_spec hl
      have hL := inner_len u n []
      refine Calls.mono (encinner_any u n _ [] w ⟨l.at0, _, rfl, Nat.zero_le _, by unfold maxLen; exact e2, rfl, fun h => ⟨rfl, e1 h⟩, fun _ _ _ _ hj => by simp at hj⟩ hn (by simp)) fun e w' h => TxtNew.of_fresh h (by omega) (inner_byt u n fun x hx => by simp at hx) ?_ ?_
      · rw [hL]; simp
      · rw [hL]; simp
    · cases hg
  · cases hg
#print axioms inner_good
#print axioms innerU_good
end Go.Proofs.YtfkbookaceckhaaGreatDoor
end
section
open Go Go.Sx Go.Proofs
set_option linter.all false
namespace Go.Proofs.YtfkbookaceckhaaGreatDoor
set_option maxRecDepth 1000000
noncomputable def hT : Hk := hor (txHook 60 5 gTx) (hor (txHook 97 5 gTx) (hor (txHook 166 5 gE) (hor (uHook 60 gU) (hor (uHook 97 gU) (nxHook 166 5 gEU)))))
theorem hT_good : HkGood Tryz.prog hT := HkGood.or tx_s_good (HkGood.or tx_b_good (HkGood.or inner_good (HkGood.or u_s_good (HkGood.or u_b_good innerU_good))))
end Go.Proofs.YtfkbookaceckhaaGreatDoor
end
section
open Go Go.Sx Go.Proofs Go.RowKit
set_option linter.all false
namespace Go.Proofs.YtfkbookaceckhaaGreatDoor
set_option maxRecDepth 1000000
noncomputable def tblM : List ME := [m0, m1, m2, m3, m4, m5, m6, m7, m8, m9, m10, m11, m12, m13, m14, m15, m16, m17, m18, m19, m20, m21, m22, m23, m24]
theorem tblM_ok : ∀ e ∈ tblM, e.ok := by
  intro e he
  simp only [tblM, List.mem_cons, List.not_mem_nil, or_false] at he
  rcases he with rfl | rfl | rfl | rfl | rfl | rfl | rfl | rfl | rfl | rfl | rfl | rfl | rfl | rfl | rfl | rfl | rfl | rfl | rfl | rfl | rfl | rfl | rfl | rfl | rfl
  · exact m0_ok
  · exact m1_ok
  · exact m2_ok
  · exact m3_ok
  · exact m4_ok
  · exact m5_ok
  · exact m6_ok
  · exact m7_ok
  · exact m8_ok
  · exact m9_ok
  · exact m10_ok
  · exact m11_ok
  · exact m12_ok
  · exact m13_ok
  · exact m14_ok
  · exact m15_ok
  · exact m16_ok
  · exact m17_ok
  · exact m18_ok
  · exact m19_ok
  · exact m20_ok
  · exact m21_ok
  · exact m22_ok
  · exact m23_ok
  · exact m24_ok
noncomputable def hCM : Hk := hor (nsHook 256 5 (gLook tblM)) hCN
theorem hCM_good : HkGood Tryz.prog hCM := HkGood.or (look_good tblM_ok) hCN_good
end Go.Proofs.YtfkbookaceckhaaGreatDoor
end
section
open Go Go.Sx Go.Proofs
set_option linter.all false
namespace Go.Proofs.YtfkbookaceckhaaGreatDoor
set_option maxRecDepth 1000000
noncomputable def hk0 : Hk := hor (hooksL []) hCM
noncomputable def hk1 : Hk := hor (hooksL []) hCM
noncomputable def hk2 : Hk := hor (hooksL []) hCM
noncomputable def hk3 : Hk := hor (hooksL []) hCM
noncomputable def hk4 : Hk := hor (hooksL [q0,q1,q2,q3]) hCM
noncomputable def hk5 : Hk := hor (hooksL []) hCM
noncomputable def hk6 : Hk := hor (hooksL []) hCM
noncomputable def hk7 : Hk := hor (hooksL [q6]) hCM
noncomputable def hk8 : Hk := hor (hooksL []) hCM
noncomputable def hk9 : Hk := hor (hooksL []) hCM
noncomputable def hk10 : Hk := hor (hooksL [q9]) hCM
noncomputable def hk11 : Hk := hor (hooksL [q8,q10]) hCM
noncomputable def hk12 : Hk := hor (hooksL [q5,q7,q11]) hCM
noncomputable def hk13 : Hk := hor (hooksL []) hCM
noncomputable def hk14 : Hk := hor (hooksL [q13]) hCM
noncomputable def hk15 : Hk := hor (hooksL []) hCM
noncomputable def hk16 : Hk := hor (hooksL [q15]) hCM
noncomputable def hk17 : Hk := hor (hooksL []) hCM
noncomputable def hk18 : Hk := hor (hooksL [q17]) hCM
noncomputable def hk19 : Hk := hor (hooksL [q18]) hCM
noncomputable def hk20 : Hk := hor (hooksL [q19]) hCM
noncomputable def hk21 : Hk := hor (hooksL [q14,q16,q20]) hCM
noncomputable def hk22 : Hk := hor (hooksL []) hCM
noncomputable def hk23 : Hk := hor (hooksL []) hCM
noncomputable def hk24 : Hk := hor (hooksL []) hCM
noncomputable def hk25 : Hk := hor (hooksL []) hCM
noncomputable def hk26 : Hk := hor (hooksL [q22,q23,q24,q25]) hCM
noncomputable def hk27 : Hk := hor (hooksL []) hCM
noncomputable def hk28 : Hk := hor (hooksL [q27]) hCM
noncomputable def hk29 : Hk := hor (hooksL []) hCM
noncomputable def hk30 : Hk := hor (hooksL []) hCM
noncomputable def hk31 : Hk := hor (hooksL [q29,q30]) hCM
noncomputable def hk32 : Hk := hor (hooksL []) hCM
noncomputable def hk33 : Hk := hor (hooksL []) hCM
noncomputable def hk34 : Hk := hor (hooksL []) hCM
noncomputable def hk35 : Hk := hor (hooksL []) hCM
noncomputable def hk36 : Hk := hor (hooksL []) hCM
noncomputable def aK : Inst := q4
noncomputable def hP : Hk := hor (q28.parHook 2 1) (hor (q12.parHook 2 0) (hor (hooksL [q4,q21,q26,q31,q32,q33,q34,q35,q36]) hCM))
noncomputable def hW : Hk := hor hP (hor aK.closed hT)
end Go.Proofs.YtfkbookaceckhaaGreatDoor
end
section
open Go Go.Sx Go.Proofs
set_option linter.all false
namespace Go.Proofs.YtfkbookaceckhaaGreatDoor
set_option maxRecDepth 1000000
def okT2 (t : Nat) : Bool := memN t (372 :: [7, 8, 24, 25, 39, 40, 46, 47, 57, 58, 70, 71, 82, 83, 87, 88, 90, 91, 95, 96, 104, 105, 106, 107, 110, 111, 112, 113, 119, 120, 126, 127, 133, 134, 139, 140, 143, 144, 145, 146, 148, 149, 150, 151, 156, 157, 164, 165, 168, 169, 173, 174, 175, 176, 184, 185, 188, 189, 190, 191, 196, 197, 209, 210, 214, 215, 219, 220, 224, 225, 227, 228, 235, 236, 262, 263, 278, 279, 293, 294, 297, 298, 308, 309, 321, 322, 335, 336, 368, 369, 380, 381, 382, 472, 473, 550, 551])
theorem okt2 : OkT Tryz.prog okT2 := okT_of (by kernel_rfl)
end Go.Proofs.YtfkbookaceckhaaGreatDoor
end
section
open Go Go.Sx Go.Proofs
set_option linter.all false
namespace Go.Proofs.YtfkbookaceckhaaGreatDoor
set_option maxRecDepth 1000000
def Rn (q : Inst) (hk : Hk) : Prop := ∀ E, q.chk (xcall Tryz.prog okT2 hk dhC 100000 100 q.f q.args (q.st0 E)) = true
def qok (q : Inst) : Bool := Nat.ble roN q.n && q.ro.all fun p => Nat.blt p.1 roN
theorem hgI {q : Inst} {hk : Hk} (r : Rn q hk) (b : qok q = true) (H : HkGood Tryz.prog hk) : HkGood Tryz.prog q.hook := inst_good okt2 callsOK mixed H dhC_good q (Bool.and_eq_true _ _ ▸ b).1 (Bool.and_eq_true _ _ ▸ b).2 r
theorem nq : ∀ i ∈ ([] : List Inst), HkGood Tryz.prog i.hook := fun i hi => by cases hi
theorem cq {q : Inst} {l : List Inst} (a : HkGood Tryz.prog q.hook) (b : ∀ i ∈ l, HkGood Tryz.prog i.hook) : ∀ i ∈ q :: l, HkGood Tryz.prog i.hook := fun i hi => by
  rcases List.mem_cons.1 hi with rfl | h
  · exact a
  · exact b i h
end Go.Proofs.YtfkbookaceckhaaGreatDoor
end
section
open Go Go.Sx Go.Proofs Go.RowKit
set_option linter.all false
namespace Go.Proofs.YtfkbookaceckhaaGreatDoor
set_option maxRecDepth 1000000
def pows : List Int := [1, 10, 100, 1000, 10000, 100000, 1000000, 10000000, 100000000, 1000000000, 10000000000, 100000000000, 1000000000000, 10000000000000, 100000000000000, 1000000000000000, 10000000000000000, 100000000000000000, 1000000000000000000, 10000000000000000000]
def rnds : List Int := [1116352408, 1899447441, 3049323471, 3921009573, 961987163, 1508970993, 2453635748, 2870763221, 3624381080, 310598401, 607225278, 1426881987, 1925078388, 2162078206, 2614888103, 3248222580, 3835390401, 4022224774, 264347078, 604807628, 770255983, 1249150122, 1555081692, 1996064986, 2554220882, 2821834349, 2952996808, 3210313671, 3336571891, 3584528711, 113926993, 338241895, 666307205, 773529912, 1294757372, 1396182291, 1695183700, 1986661051, 2177026350, 2456956037, 2730485921, 2820302411, 3259730800, 3345764771, 3516065817, 3600352804, 4094571909, 275423344, 430227734, 506948616, 659060556, 883997877, 958139571, 1322822218, 1537002063, 1747873779, 1955562222, 2024104815, 2227730452, 2361852424, 2428436474, 2756734187, 3204031479, 3329325298]
def fsts : List Int := [1779033703, 3144134277, 1013904242, 2773480762, 1359893119, 2600822924, 528734635, 1541459225]
def roW : List (Nat × Cont) := [(1, Cont.cells (fsts.map fun z => AV.int .u32 z)), (2, Cont.cells (rnds.map fun z => AV.int .u32 z)), (3, Cont.cells (pows.map fun z => AV.int .u64 z))]
theorem tPow : (Tryz.prog.globals[3]?).map (·.type) = some 530 := by kernel_rfl
theorem tRnd : (Tryz.prog.globals[2]?).map (·.type) = some 495 := by kernel_rfl
theorem tFst : (Tryz.prog.globals[1]?).map (·.type) = some 361 := by kernel_rfl
theorem laid_ro {laid : List (String × DataW Unit)} {W : World} (h : laidMet Tryz.prog laid W) {n1 n2 n3 : String} {d1 d2 d3 : DataW Unit} (i1 : (n1, d1) ∈ laid) (i2 : (n2, d2) ∈ laid) (i3 : (n3, d3) ∈ laid)
    (e1 : d1 = Lib.tabData .u32 fsts) (e2 : d2 = Lib.tabData .u32 rnds) (e3 : d3 = Lib.tabData .u64 pows) (g1 : Tryz.prog.globalNamed n1 = some 1) (g2 : Tryz.prog.globalNamed n2 = some 2) (g3 : Tryz.prog.globalNamed n3 = some 3) :
    ∃ E : Nat → Nat, ∀ id c, (id, c) ∈ roW → BlkOK (env0 Tryz.prog) W id (.mk (E id) 0 c) := by
  subst e1 e2 e3
  obtain ⟨a1, b1⟩ := laid_tab_blk h i1 g1 tFst Tryz.underlying361 Tryz.underlying45 (by kernel_rfl) (by kernel_rfl) (by decide)
  obtain ⟨a2, b2⟩ := laid_tab_blk h i2 g2 tRnd Tryz.underlying495 Tryz.underlying45 (by kernel_rfl) (by kernel_rfl) (by decide)
  obtain ⟨a3, b3⟩ := laid_tab_blk h i3 g3 tPow Tryz.underlying530 Tryz.underlying68 (by kernel_rfl) (by kernel_rfl) (by decide)
  refine ⟨fun id => if id = 1 then a1 else if id = 2 then a2 else a3, fun id c hm => ?_⟩
  simp only [roW, List.mem_cons, List.not_mem_nil, or_false, Prod.mk.injEq] at hm
  rcases hm with ⟨rfl, rfl⟩ | ⟨rfl, rfl⟩ | ⟨rfl, rfl⟩
  · exact b1
  · exact b2
  · exact b3
end Go.Proofs.YtfkbookaceckhaaGreatDoor
end
section
open Go Go.Sx Go.Proofs Go.RowKit
set_option linter.all false
namespace Go.Proofs.YtfkbookaceckhaaGreatDoor
set_option maxRecDepth 1000000
noncomputable def cW : Code := bodyOf Tryz.prog 3
noncomputable def nW : Nat := ntOf Tryz.prog 3
noncomputable def rsW : List ResultVar := resultsOf Tryz.prog 3
theorem cW_fn : fnOf Tryz.prog 3 = some (nW, cW, rsW) := by kernel_rfl
noncomputable def clW : Nat → List AV → St → Ro := xcall Tryz.prog okT hW dhC 1000 60
noncomputable def rX (st : St) (md op : AV) : Ro := xleave Tryz.prog dhC rsW (xcode Tryz.prog okT clW nW 1000 cW (argsTr 0 [md, op] .lf) [] st)
def pre1 : List AV := [.tok .u8 201 0 255]
def pre2 : List AV := [.tok .u8 201 0 255, .tok .u8 202 0 255]
def pre3 : List AV := [.tok .u8 201 0 255, .tok .u8 202 0 255, .tok .u8 203 0 255]
end Go.Proofs.YtfkbookaceckhaaGreatDoor
end
