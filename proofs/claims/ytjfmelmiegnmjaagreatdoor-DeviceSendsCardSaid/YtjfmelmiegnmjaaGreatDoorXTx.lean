/- The copies of bytes, as the machine's hooks want them. -/
import Derived.Test.YtjfmelmiegnmjaaGreatDoorXSe
import Derived.Test.YtjfmelmiegnmjaaGreatDoorProg
import Derived.Test.YtjfmelmiegnmjaaGreatDoorSep
import Derived.KernelRfl
set_option linter.all false
namespace Go.Proofs.YtjfmelmiegnmjaaGreatDoor
open Go.RowKit Go.Pw Go.Sx
set_option linter.all false
theorem tx_info : (Tryz.prog.info? 5).map (fun i => (i.zero, i.size, i.bytes)) = some (some (.int .u8 0), 1, 1) := by kernel_rfl
/-- A copy of bytes: a row of the call's own. -/
def Fresh (xs : List Int) (w : World) (e : Ending) (w' : World) : Prop := ∃ v, e = .returned v ∧ w'.ownsRow 0 5 1 v xs.length (xs.map (Value.int .u8)) ∧ SoN w (.slice none 0 0) v ∧ Only w w' []

set_option maxHeartbeats 400000 in
theorem clone_any (p : Value) (xs : List Int) (w : World) (hp : Pw.Src w p 1 xs.length (xs.map (Value.int .u8))) (hl : xs.length ≤ 1000000000) :
    Calls Tryz.prog 63 #[p] w (Fresh xs w) := by
  obtain ⟨i0, hi, hz0, hz1, hz2⟩ := info_parts tx_info
  obtain ⟨ao, c, rfl, h1, h2, h3, h4, _⟩ := id hp
  have hn := Lib.run_eql_slice_nil (P := Tryz.prog) w 50 5 ao xs.length c 0 0 Tryz.underlying50
  cases ao with
  | none =>
    have h0 := (h4 rfl).1
    obtain rfl : xs = [] := List.eq_nil_of_length_eq_zero h0
    obtain rfl : c = 0 := (h4 rfl).2
    simp only [Option.isNone_none, List.length_nil] at hn ⊢
    clear hp h1 h2 h3 h4 h0 hl
    go_enter Tryz.func63, Tryz.ntmps63
    go_wp2
    go_ret
    exact ⟨_, rfl, World.ownsRow_nil _ _ _ _, SoN.refl _ _, Only.refl _ _⟩
  | some a =>
    simp only [Option.isNone_some] at hn
    have hs := hp.off (Only.alloc w (.cells #[] 5) []) (fun _ _ _ => by simp)
    have hown : (w.alloc (.cells #[] 5)).ownsRow 0 5 1 (.slice (some ⟨w.heap.size, 0, none⟩) 0 0) 0 [] := World.ownsRow_made w #[] 0 (Nat.zero_le _) (Nat.zero_le _) rfl
    go_enter Tryz.func63, Tryz.ntmps63
    go_wp2_with (at_builtin; refine wpList_append_src rfl _ _ 50 rfl 5 i0 (.int .u8 0) 1 1 Tryz.underlying50 hi hz0 hz1 hz2 rfl (by decide) (.slice (some ⟨w.heap.size, 0, none⟩) 0 0) 0 [] rfl hown _ xs.length _ rfl hs (one_ints _ _) (by unfold maxLen; omega) (by omega) ?_; intro v' w' g1 g2 g3; simp only [Nat.zero_add, List.nil_append] at g1)
    go_ret
    exact ⟨v', rfl, g1, fun k hk => by
      rcases g3 k hk with h | h
      · right; simp [Value.ownBlock] at h; omega
      · right; simp at h; omega, ((Only.alloc w _ []).step (Only.grown (L := [w.heap.size]) g2 (fun k hk => by simp [Value.ownBlock] at hk; simp; omega)) (fun i hi => .inr (by simp at hi; omega)))⟩

set_option maxHeartbeats 400000 in
theorem bclone_any (p : Value) (xs : List Int) (w : World) (hp : Pw.Src w p 1 xs.length (xs.map (Value.int .u8))) (hl : xs.length ≤ 1000000000) :
    Calls Tryz.prog 53 #[p] w (Fresh xs w) := by
  obtain ⟨i0, hi, hz0, hz1, hz2⟩ := info_parts tx_info
  obtain ⟨ao, c, rfl, h1, h2, h3, h4, _⟩ := id hp
  have hn := Lib.run_eql_slice_nil (P := Tryz.prog) w 50 5 ao xs.length c 0 0 Tryz.underlying50
  cases ao with
  | none =>
    have h0 := (h4 rfl).1
    obtain rfl : xs = [] := List.eq_nil_of_length_eq_zero h0
    obtain rfl : c = 0 := (h4 rfl).2
    simp only [Option.isNone_none, List.length_nil] at hn ⊢
    clear hp h1 h2 h3 h4 h0 hl
    go_enter Tryz.func53, Tryz.ntmps53
    go_wp2
    go_ret
    exact ⟨_, rfl, World.ownsRow_nil _ _ _ _, SoN.refl _ _, Only.refl _ _⟩
  | some a =>
    simp only [Option.isNone_some] at hn
    have hs := hp.off (Only.alloc w (.cells #[] 5) []) (fun _ _ _ => by simp)
    have hown : (w.alloc (.cells #[] 5)).ownsRow 0 5 1 (.slice (some ⟨w.heap.size, 0, none⟩) 0 0) 0 [] := World.ownsRow_made w #[] 0 (Nat.zero_le _) (Nat.zero_le _) rfl
    go_enter Tryz.func53, Tryz.ntmps53
    go_wp2_with (at_builtin; refine wpList_append_src rfl _ _ 50 rfl 5 i0 (.int .u8 0) 1 1 Tryz.underlying50 hi hz0 hz1 hz2 rfl (by decide) (.slice (some ⟨w.heap.size, 0, none⟩) 0 0) 0 [] rfl hown _ xs.length _ rfl hs (one_ints _ _) (by unfold maxLen; omega) (by omega) ?_; intro v' w' g1 g2 g3; simp only [Nat.zero_add, List.nil_append] at g1)
    go_ret
    exact ⟨v', rfl, g1, fun k hk => by
      rcases g3 k hk with h | h
      · right; simp [Value.ownBlock] at h; omega
      · right; simp at h; omega, ((Only.alloc w _ []).step (Only.grown (L := [w.heap.size]) g2 (fun k hk => by simp [Value.ownBlock] at hk; simp; omega)) (fun i hi => .inr (by simp at hi; omega)))⟩


/-- A row of the call's own is a new text. -/
theorem TxtNew.of_fresh {xs : List Int} {w w' : World} {e : Ending} (h : Fresh xs w e w') (h0 : 0 < xs.length) (hb : ∀ x ∈ xs, ∃ b : Nat, b < 256 ∧ x = (b : Int)) {lo hi : Nat} (hlo : lo ≤ xs.length) (hhi : xs.length ≤ hi) : TxtNew w 5 lo hi e w' := by
  obtain ⟨v, rfl, ⟨h1, h2⟩, h3, h4⟩ := h
  rcases h2 with ⟨_, hn⟩ | ⟨g, cap, cur, rfl, _, hg, hc1, hc2, hc3, hc4⟩
  · omega
  · have hgn : w.heap.size ≤ g := by
      rcases h3 g rfl with h | h
      · cases h
      · exact h
    rw [Nat.mul_one] at hc3 hc4
    refine ⟨g, 0, xs.length, cap, cur, (0, 0), rfl, hlo, hhi, ⟨hc1, by unfold maxLen at hc2; omega⟩, hgn, hg, Or.inl rfl, by omega, fun i hi => ?_, ⟨h4.os, h4.tape, h4.output, h4.size, fun k hk _ => h4.block k hk (by simp)⟩⟩
    have h5 : (cur.toList.take xs.length)[i]? = some (.int .u8 xs[i]) := by rw [hc4]; simp [hi]
    rw [List.getElem?_take, if_pos hi, Array.getElem?_toList] at h5
    obtain ⟨b, hb1, hb2⟩ := hb xs[i] (List.getElem_mem hi)
    exact ⟨b, hb1, by rw [Nat.zero_add, h5, hb2]⟩

/-- A text is a source of bytes. -/
theorem src_of_txt {w : World} {l : Sx.Loc} (h : TxtAt w l) : ∃ xs : List Int, xs.length = l.len ∧ (∀ x ∈ xs, ∃ b : Nat, b < 256 ∧ x = (b : Int)) ∧ Pw.Src w (.slice (some ⟨l.blk, l.base, none⟩) l.len l.room) 1 xs.length (xs.map (Value.int .u8)) := by
  obtain ⟨cs, el, fr, hb, _, hsz, hby, hr1, hr2⟩ := h
  have hall : ∀ i, ∃ b : Nat, i < l.len → b < 256 ∧ cs[l.base + i]? = some (.int .u8 b) := fun i => by
    by_cases hi : i < l.len
    · obtain ⟨b, h1, h2⟩ := hby i hi
      exact ⟨b, fun _ => ⟨h1, h2⟩⟩
    · exact ⟨0, fun h => absurd h hi⟩
  obtain ⟨f, hf⟩ := Classical.axiomOfChoice hall
  refine ⟨(List.range l.len).map fun i => (f i : Int), by simp, fun x hx => ?_, some ⟨l.blk, l.base, none⟩, l.room, by simp, by simpa using hr1, by unfold maxLen; omega, by simp, fun h => (by cases h), fun b hb2 j u hj => ?_⟩
  · obtain ⟨i, hi, rfl⟩ := List.mem_map.1 hx
    exact ⟨f i, (hf i (List.mem_range.1 hi)).1, rfl⟩
  · obtain rfl := Option.some.inj hb2
    have hj2 : j < l.len := by
      have := (List.getElem?_eq_some_iff.1 hj).1
      simpa using this
    rw [Go.WideShapes.add_plain, world_cell hb, (hf j hj2).2, ← hj]
    simp [hj2]

/-- Which copies are made out of texts: how long they are. -/
def gTx : List AV → Option ((Nat × Nat × Nat) × (Nat × Nat))
  | [.slcT id lo hi] => match Nat.blt 0 lo && Nat.ble hi 1000000 with
    | true => some ((id, lo, hi), (lo, hi))
    | false => none
  | _ => none

theorem copy_good {f : Nat} (hf : ∃ fn c, nthL Tryz.prog.funcs.toList f = some fn ∧ fn.body = some c)
    (hc : ∀ (p : Value) (xs : List Int) (w : World), Pw.Src w p 1 xs.length (xs.map (Value.int .u8)) → xs.length ≤ 1000000000 → Calls Tryz.prog f #[p] w (Fresh xs w)) : HkGood Tryz.prog (txHook f 5 gTx) := by
  refine txHook_good hf fun args id lo hi lo' hi' σ us l w hg hd hl ht => ?_
  unfold gTx at hg
  split at hg
  · rename_i id lo hi
    split at hg
    · rename_i hb
      simp only [Bool.and_eq_true] at hb
      have hlo : 0 < lo := Nat.le_of_ble_eq_true hb.1
      have hhi : hi ≤ 1000000 := Nat.le_of_ble_eq_true hb.2
      simp only [Option.some.injEq, Prod.mk.injEq] at hg
      obtain ⟨⟨rfl, rfl, rfl⟩, rfl, rfl⟩ := hg
      obtain ⟨u, us', rfl, h1, h2⟩ := denL_cons hd
      obtain rfl := denL_nil h2
      simp only [den, Option.map_eq_some_iff] at h1
      obtain ⟨l', hl', rfl⟩ := h1
      obtain ⟨e1, e2, e3⟩ := denT_spec hl'
      obtain rfl : l = l' := Option.some.inj (hl.symm.trans e1)
      obtain ⟨xs, x1, x2, x3⟩ := src_of_txt ht
      refine Calls.mono (hc _ xs w x3 (by omega)) fun e w' h => TxtNew.of_fresh h (by omega) x2 (by omega) (by omega)
    · cases hg
  · cases hg

theorem clones_fn : fnOf Tryz.prog 63 = some (ntOf Tryz.prog 63, bodyOf Tryz.prog 63, resultsOf Tryz.prog 63) := by kernel_rfl
theorem cloneb_fn : fnOf Tryz.prog 53 = some (ntOf Tryz.prog 53, bodyOf Tryz.prog 53, resultsOf Tryz.prog 53) := by kernel_rfl
theorem tx_s_good : HkGood Tryz.prog (txHook 63 5 gTx) := by
  obtain ⟨fn, h1, _, h3, _⟩ := fnOf_ok clones_fn
  exact copy_good ⟨fn, _, h1, h3⟩ clone_any
theorem tx_b_good : HkGood Tryz.prog (txHook 53 5 gTx) := by
  obtain ⟨fn, h1, _, h3, _⟩ := fnOf_ok cloneb_fn
  exact copy_good ⟨fn, _, h1, h3⟩ bclone_any

/-- Copies of empty slices. -/
def gU : List AV → Option Unit
  | [.slcU _] => some ()
  | _ => none

theorem copyU_good {f : Nat} (hf : ∃ fn c, nthL Tryz.prog.funcs.toList f = some fn ∧ fn.body = some c)
    (hc : ∀ (p : Value) (xs : List Int) (w : World), Pw.Src w p 1 xs.length (xs.map (Value.int .u8)) → xs.length ≤ 1000000000 → Calls Tryz.prog f #[p] w (Fresh xs w)) : HkGood Tryz.prog (uHook f gU) := by
  refine uHook_good hf fun args σ us w hg hd => ?_
  unfold gU at hg
  split at hg
  · rename_i id
    obtain ⟨u, us', rfl, h1, h2⟩ := denL_cons hd
    obtain rfl := denL_nil h2
    simp only [den, Option.map_eq_some_iff] at h1
    obtain ⟨l, hl, rfl⟩ := h1
    obtain ⟨e1, e2⟩ := denU_spec hl
    refine Calls.mono (hc _ [] w ⟨l.at0, _, rfl, Nat.zero_le _, by unfold maxLen; exact e2, rfl, fun h => ⟨rfl, e1 h⟩, fun _ _ _ _ hj => by simp at hj⟩ (by simp)) ?_
    rintro e w' ⟨v, rfl, ⟨h1, h2⟩, h3, h4⟩
    have ho : OnlyB w w' (fun _ => False) := ⟨h4.os, h4.tape, h4.output, h4.size, fun k hk _ => h4.block k hk (by simp)⟩
    rcases h2 with ⟨rfl, _⟩ | ⟨g, cap, cur, rfl, _, hg, hc1, hc2, hc3, hc4⟩
    · exact ⟨none, 0, ⟨fun _ => rfl, by omega⟩, rfl, ho⟩
    · exact ⟨_, cap, ⟨fun h => (by cases h), by unfold maxLen at hc2; omega⟩, rfl, ho⟩
  · cases hg
theorem u_s_good : HkGood Tryz.prog (uHook 63 gU) := by
  obtain ⟨fn, h1, _, h3, _⟩ := fnOf_ok clones_fn
  exact copyU_good ⟨fn, _, h1, h3⟩ clone_any
theorem u_b_good : HkGood Tryz.prog (uHook 53 gU) := by
  obtain ⟨fn, h1, _, h3, _⟩ := fnOf_ok cloneb_fn
  exact copyU_good ⟨fn, _, h1, h3⟩ bclone_any
end Go.Proofs.YtjfmelmiegnmjaaGreatDoor
