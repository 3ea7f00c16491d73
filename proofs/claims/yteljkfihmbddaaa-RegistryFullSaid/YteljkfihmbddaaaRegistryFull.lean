/- RegistryFull returns true for every sequence of bytes: of a user there are four devices at most at a time; numbers are never given again. No condition. -/
import Derived.Test.YteljkfihmbddaaaRgA
import Derived.Test.YteljkfihmbddaaaRgP
import Derived.Test.YteljkfihmbddaaaOpenS
import Derived.Test.YteljkfihmbddaaaSRegistryFull
namespace Go.Proofs.Yteljkfihmbddaaa
open Go.RowKit Go.Pw
set_option linter.unusedVariables false

/-- How many of a user are there, how many were. -/
def onC (l : List Li) (u : Nat) : Nat := (l.filter fun x => x.u == (u : Int) && x.on).length
def allC (l : List Li) (u : Nat) : Nat := (l.filter fun x => x.u == (u : Int)).length
def arrO (l : List Li) : List Value := (List.range 8).map fun u => .int .i64 (onC l u)
def arrC (l : List Li) : List Value := (List.range 8).map fun u => .int .i64 (allC l u)
def Inv (l : List Li) : Prop := Strict l ∧ ∀ x ∈ l, ∃ u : Nat, u < 8 ∧ x.u = u ∧ 1 ≤ x.d ∧ x.d ≤ allC l u

theorem arrO_at {l : List Li} {u : Nat} (h : u < 8) : (arrO l).toArray[u]? = some (.int .i64 (onC l u)) := by simp [arrO, h]
theorem arrC_at {l : List Li} {u : Nat} (h : u < 8) : (arrC l).toArray[u]? = some (.int .i64 (allC l u)) := by simp [arrC, h]
theorem arr_len (f : Nat → Value) : ((List.range 8).map f).length = 8 := by simp
theorem arr_set {f g : Nat → Value} {u : Nat} (h : u < 8) (hn : ∀ k, k < 8 → k ≠ u → g k = f k) : ((List.range 8).map f).set u (g u) = (List.range 8).map g := by
  apply List.ext_getElem
  · simp
  · intro i h1 h2
    simp only [List.length_map, List.length_range] at h2
    rw [List.getElem_set]
    split
    · rename_i e; subst e; simp
    · simp only [List.getElem_map, List.getElem_range]
      exact (hn i h2 (by omega)).symm

theorem on_listL {l : List Li} (h : Strict l) (u : Nat) : (listL l u).length = onC l u := by
  rw [listL_eq h, List.length_map]
  rfl
theorem all_cntL (l : List Li) (u : Nat) : cntL l u = allC l u := cntL_eq l u
theorem inv_nf {l : List Li} (h : Inv l) (u : Nat) : ∀ x ∈ l, ¬ (x.u = (u : Int) ∧ x.d = (allC l u : Int) + 1) := fun x hx ⟨h1, h2⟩ => by
  obtain ⟨u', h3, h4, h5, h6⟩ := h.2 x hx
  obtain rfl : u = u' := by omega
  omega
/-- A device is added. -/
theorem inv_add {l : List Li} (h : Inv l) {u : Nat} (hu : u < 8) {x : Li} (h1 : x.u = u) (h2 : x.d = (allC l u : Int) + 1) (h3 : x.on = true) :
    let l' := (insL l (newL u ((allC l u : Int) + 1))).set (placeL l u ((allC l u : Int) + 1)) x
    Inv l' ∧ l'.length = l.length + 1 ∧ (arrO l).set u (.int .i64 ((onC l u : Int) + 1)) = arrO l' ∧ (arrC l).set u (.int .i64 ((allC l u : Int) + 1)) = arrC l' := by
  intro l'
  have hset : l' = l.take (placeL l u ((allC l u : Int) + 1)) ++ x :: l.drop (placeL l u ((allC l u : Int) + 1)) := insL_set l (newL u ((allC l u : Int) + 1)) x
  have hO : ∀ k : Nat, onC l' k = onC l k + (if k = u then 1 else 0) := fun k => by
    unfold onC
    rw [hset, filter_put, h1, h3]
    congr 1
    by_cases e : k = u
    · subst e; simp
    · rw [if_neg e, if_neg]
      simp
      omega
  have hC : ∀ k : Nat, allC l' k = allC l k + (if k = u then 1 else 0) := fun k => by
    unfold allC
    rw [hset, filter_put, h1]
    congr 1
    by_cases e : k = u
    · subst e; simp
    · rw [if_neg e, if_neg]
      simp
      omega
  have hlen : l'.length = l.length + 1 := by
    show ((insL l _).set _ _).length = _
    rw [List.length_set, insL_len]
  obtain ⟨hk, hat⟩ := ins_at l (newL u ((allC l u : Int) + 1))
  refine ⟨⟨?_, fun y hy => ?_⟩, hlen, ?_, ?_⟩
  · refine strict_set (strict_ins h.1 (inv_nf h u)) hk ?_ ?_
    · rw [hat]; exact h1
    · rw [hat]; exact h2
  · rw [hset, mem_put] at hy
    rcases hy with rfl | hy
    · exact ⟨u, hu, h1, by omega, by rw [hC, if_pos rfl]; omega⟩
    · obtain ⟨u', q1, q2, q3, q4⟩ := h.2 y hy
      exact ⟨u', q1, q2, q3, by rw [hC]; omega⟩
  · unfold arrO
    have := arr_set (f := fun u => Value.int .i64 (onC l u)) (g := fun u => Value.int .i64 (onC l' u)) hu (fun k _ hk => by rw [hO, if_neg hk]; rfl)
    rw [← this]
    congr 1
    rw [hO, if_pos rfl]
    simp
  · unfold arrC
    have := arr_set (f := fun u => Value.int .i64 (allC l u)) (g := fun u => Value.int .i64 (allC l' u)) hu (fun k _ hk => by rw [hC, if_neg hk]; rfl)
    rw [← this]
    congr 1
    rw [hC, if_pos rfl]
    simp
/-- A device is removed. -/
theorem inv_rem {l : List Li} (h : Inv l) {u : Nat} (hu : u < 8) {p : Int × Int} (hp : (listL l u)[0]? = some p) :
    isL l p.1 p.2 = true ∧ Inv (remL l p.1 p.2) ∧ (remL l p.1 p.2).length = l.length ∧ (arrO l).set u (.int .i64 ((onC l u : Int) - 1)) = arrO (remL l p.1 p.2) ∧ arrC l = arrC (remL l p.1 p.2) := by
  have hm : p ∈ listL l u := List.mem_of_getElem? hp
  rw [listL_eq h.1, List.mem_map] at hm
  obtain ⟨x, hx, rfl⟩ := hm
  rw [List.mem_filter, Bool.and_eq_true] at hx
  obtain ⟨hx, hxu, hxo⟩ := hx
  have hxu : x.u = u := by simpa using hxu
  obtain ⟨k, hk, rfl⟩ := List.mem_iff_getElem.1 hx
  simp only [key]
  have hI : isL l l[k].u l[k].d = true := by rw [isL_self h.1 hk]; exact hxo
  have er : remL l l[k].u l[k].d = l.set k (gone l[k]) := by
    unfold remL
    rw [if_pos hI, place_self h.1 hk, modify_set _ _ hk]
  rw [er]
  have hO : ∀ j : Nat, onC (l.set k (gone l[k])) j + (if j = u then 1 else 0) = onC l j := fun j => by
    have q := filter_set (fun x => x.u == (j : Int) && x.on) hk (gone l[k])
    have a1 : ((gone l[k]).u == (j : Int) && (gone l[k]).on) = false := by rw [show (gone l[k]).on = false from rfl, Bool.and_false]
    have a2 : (l[k].u == (j : Int) && l[k].on) = decide (j = u) := by
      rw [hxo, hxu, Bool.and_true]
      by_cases e : j = u
      · subst e; simp
      · rw [decide_eq_false e]; simp; omega
    simp only [a1, a2, Bool.false_eq_true, if_false, Nat.add_zero, decide_eq_true_eq] at q
    exact q
  have hC : ∀ j : Nat, allC (l.set k (gone l[k])) j = allC l j := fun j => by
    have q := filter_set (fun x => x.u == (j : Int)) hk (gone l[k])
    have a1 : ((gone l[k]).u == (j : Int)) = (l[k].u == (j : Int)) := rfl
    simp only [a1] at q
    unfold allC
    omega
  refine ⟨hI, ⟨strict_set h.1 hk rfl rfl, fun y hy => ?_⟩, by simp, ?_, ?_⟩
  · rcases List.mem_or_eq_of_mem_set hy with hy | rfl
    · obtain ⟨u', q1, q2, q3, q4⟩ := h.2 y hy
      exact ⟨u', q1, q2, q3, by rw [hC]; exact q4⟩
    · obtain ⟨u', q1, q2, q3, q4⟩ := h.2 l[k] (List.getElem_mem hk)
      exact ⟨u', q1, q2, q3, by rw [hC]; exact q4⟩
  · unfold arrO
    have := arr_set (f := fun u => Value.int .i64 (onC l u)) (g := fun u => Value.int .i64 (onC (l.set k (gone l[k])) u)) hu (fun j _ hj => by have := hO j; rw [if_neg hj] at this; rw [← this]; rfl)
    rw [← this]
    congr 1
    have := hO u
    rw [if_pos rfl] at this
    simp only [Value.int.injEq, true_and]
    omega
  · unfold arrC
    apply List.map_congr_left
    intro j _
    rw [hC]

theorem full_next {l : List Li} (h : Inv l) {u : Nat} (hu : u < 8) : nextD l u = if 4 ≤ onC l u then ((0, 0), 3) else (((u : Int), (allC l u : Int) + 1), 0) := by
  unfold nextD
  rw [if_neg (by omega), on_listL h.1, all_cntL]

set_option maxRecDepth 100000 in
set_option maxHeartbeats 3200000 in
theorem full_walk (ao : Option Addr) (c : Nat) (xs : List Int) (w0 : World) (hsrc : Pw.Src w0 (.slice ao xs.length c) 1 xs.length (xs.map (Value.int .u8))) (hb : ∀ x ∈ xs, 0 ≤ x ∧ x < 256) :
    Calls Try.prog 3 #[.slice ao xs.length c] w0 fun e w' => e = .returned (.bool true) ∧ Below w0.heap.size w0 w' := by
  by_cases hl60 : 60 < xs.length
  · have d : decide ((60 : Int) < xs.length) = true := by simp; omega
    clear hsrc hb
    go_enter Try.func3, Try.ntmps3
    go_wp2_with fail
    refine (awake_any _).mono ?_
    rintro e w1 ⟨rfl, o1⟩
    go_wp2_with fail
    refine (awake_any _).mono ?_
    rintro e w2 ⟨rfl, o2⟩
    go_wp2_with fail
    go_ret
    exact ⟨rfl, (o1.trans o2).below (Nat.le_refl _) (by simp)⟩
  · have d : decide ((60 : Int) < xs.length) = false := by simp; omega
    obtain ⟨i0, hi, hz0, hz1, hz2⟩ := info_parts bun_info
    go_enter Try.func3, Try.ntmps3
    go_wp2_with fail
    refine (awake_any _).mono ?_
    rintro e w ⟨rfl, oA⟩
    go_wp2_with fail
    refine (new_any _).mono ?_
    rintro e w1 ⟨rfl, rfl⟩
    have s1 := regs_nil ((Sep.nil w).box [.slice none 0 0] 72)
    generalize w.heap.size = B at *
    generalize w.alloc (.cells [Value.slice none 0 0].toArray 72) = w1 at *
    go_wp2_with (first
      | (have hQ := hT4; refine wpList_alloc_new rfl 26 rfl (.agg #[.int .i64 0, .int .i64 0, .int .i64 0, .int .i64 0, .int .i64 0, .int .i64 0, .int .i64 0, .int .i64 0]) (fun _ => by kernel_rfl) ?_; intro T5 wT5 oT5 hT5l hT5; clear hQ; have s3 := s2.add (b := blk T5 (arrC []) 26) oT5 hT5 (fun k hk => by simp [blk] at hk; omega); clear s2 hT5 oT5)
      | (refine wpList_alloc_new rfl 26 rfl (.agg #[.int .i64 0, .int .i64 0, .int .i64 0, .int .i64 0, .int .i64 0, .int .i64 0, .int .i64 0, .int .i64 0]) (fun _ => by kernel_rfl) ?_; intro T4 wT4 oT4 hT4l hT4; have s2 := s1.add (b := blk T4 (arrO []) 26) oT4 hT4 (fun k hk => by simp [blk] at hk; omega); clear s1 oT4))
    have sA : Pw.Sep w wT5 (regR B (.slice none 0 0) [] (blk T4 (arrO []) 26 :: blk T5 (arrC []) 26 :: [])) := s3.sel 5 [2, 3, 4, 1, 0]
    clear s3 hT4
    go_loopw [6] (fun y wr => ∃ (i : Nat) (l : List Li) (v : Value), y = .int .i64 i ∧ i ≤ xs.length ∧ Inv l ∧ l.length ≤ i ∧ Pw.Sep w wr (regR B v l (blk T4 (arrO l) 26 :: blk T5 (arrC l) 26 :: []))) (fun y _ => xs.length - (intOf y).toNat)
    case atStart => exact ⟨0, [], _, rfl, Nat.zero_le _, ⟨strict_nil, by simp⟩, Nat.le_refl _, sA⟩
    case round =>
      clear sA
      obtain ⟨i, l, v, rfl, hil, hinv, hll, hs⟩ := hrel
      have hI := Lib.hid hinv
      by_cases hlt : i < xs.length
      · have dl : decide ((i : Int) < xs.length) = true := by simpa using hlt
        obtain ⟨bX, oX, rfl, hX⟩ := src_new hsrc hlt
        have hcx := hX wr (oA.trans hs.only) i (.int .u8 xs[i]) (by rw [List.getElem?_map, List.getElem?_eq_getElem hlt]; rfl)
        obtain ⟨hx0, hx1⟩ := hb xs[i] (List.getElem_mem hlt)
        generalize xs[i] = x at *
        obtain ⟨u, hu, hu8⟩ : ∃ u : Nat, x % 8 = (u : Int) ∧ u < 8 := ⟨(x % 8).toNat, by omega, by omega⟩
        have e1 : x.tmod 8 = (u : Int) := by rw [Int.tmod_eq_emod_of_nonneg hx0]; exact hu
        have e2 : IntKind.u8.wrap (u : Int) = u := by rw [IntKind.wrap_u8]; omega
        have hc4v := arrO_at (l := l) hu8
        have hc5 := arrC_at (l := l) hu8
        have hc4 := (cell_in (show wr.heap[T4]? = _ from (hs.sel 4 [3]).head) u).trans hc4v
        have hon : onC l u ≤ 60 := by have := List.length_filter_le (fun x : Li => x.u == (u : Int) && x.on) l; unfold onC; omega
        have hal : allC l u ≤ 60 := by have := List.length_filter_le (fun x : Li => x.u == (u : Int)) l; unfold allC; omega
        have hui : (u : Int) < 8 := by omega
        have ew : IntKind.i64.wrap ((allC l u : Int) + 1) = (allC l u : Int) + 1 := by rw [IntKind.wrap_i64]; omega
        have ewo : IntKind.i64.wrap ((onC l u : Int) + 1) = (onC l u : Int) + 1 := by rw [IntKind.wrap_i64]; omega
        clear hu hX
        have hc5' := (cell_in (show wr.heap[T5]? = _ from (hs.sel 5 [4]).head) u).trans hc5
        have ht45 : T4 ≠ T5 := fun e => hs.two_at (i := 3) (j := 4) rfl rfl (by decide) T4 (by simp [blk]) (by simp [blk, e])
        by_cases hrem : 192 ≤ x ∧ 0 < onC l u
        · have d192 : decide (192 ≤ x) = true := by simpa using hrem.1
          have d0 : decide ((0 : Int) < onC l u) = true := by simp; omega
          obtain ⟨p, hp⟩ : ∃ p, (listL l u)[0]? = some p := ⟨_, List.getElem?_eq_getElem (by rw [on_listL hinv.1]; omega)⟩
          obtain ⟨r1, r2, r3, r4, r5⟩ := inv_rem hinv hu8 hp
          have hr := hinv.1.rise
          have HR := Lib.hid (And.intro r2 r3)
          have hll' : (listL l u).length = onC l u := on_listL hinv.1 u
          have Hlist := list_any B l v u wr hs (by omega) hr
          have hp0 : 0 < (listL l u).length := by omega
          have hpe : (listL l u)[0] = p := by have := List.getElem?_eq_getElem hp0; rw [this] at hp; exact Option.some.inj hp
          generalize listL l u = q at *
          clear hrem r2 r3 hinv hp
          go_wp2_with fail
          refine Hlist.mono ?_
          rintro e w2 ⟨aQ, cQ, rfl, sQ⟩
          obtain ⟨gQ, rfl, _⟩ := own_some (show w2.ownsRow 0 30 2 (.slice aQ q.length cQ) q.length (fl wc q) from sQ.head) hp0
          have k0 := rec_cell wc_len (show w2.ownsRow 0 30 2 (.slice (some ⟨gQ, 0, none⟩) q.length cQ) q.length (fl wc q) from sQ.head) hp0 0 (v := .int .i64 p.1) (by rw [hpe]; rfl)
          have k1 := rec_cell wc_len (show w2.ownsRow 0 30 2 (.slice (some ⟨gQ, 0, none⟩) q.length cQ) q.length (fl wc q) from sQ.head) hp0 1 (v := .int .i64 p.2) (by rw [hpe]; rfl)
          simp only [Nat.zero_mul, Nat.zero_add, Nat.add_zero] at k0 k1
          have s2 := hs.quiet sQ.only
          have hqI : (0 : Int) < q.length := by omega
          clear hs sQ Hlist hcx hc4 hc5' hpe
          go_wp2_with fail
          refine (remove_ok B l v p.1 p.2 _ s2 (by omega) hr r1).mono ?_
          rintro e w3 ⟨rfl, s3⟩
          have hB4 : w3.heap[T4]? = some (.cells (arrO l).toArray 26 (0, 0)) := (s3.sel 4 [3]).head
          have hc4 := (cell_in hB4 u).trans hc4v
          have hf4 := free_in hB4 u
          have s4 := (s3.sel 5 [3, 0, 1, 2, 4]).put u (.int .i64 ((onC l u : Int) - 1))
          rw [r4, r5] at s4
          have s5 := s4.sel 5 [1, 2, 3, 0, 4]
          clear s2 s3 k0 k1 hB4 r4 r5 s4
          go_wp2_with fail
          exact ⟨⟨i + 1, _, v, by simp, by omega, HR.out.1, by have := HR.out.2; omega, s5⟩, by simp [intOf]; omega⟩
        · by_cases h192 : 192 ≤ x
          · have d192 : decide (192 ≤ x) = true := by simpa using h192
            have d0 : decide ((0 : Int) < onC l u) = false := by simp; omega
            have d0n : decide (0 < onC l u) = false := by simp; omega
            clear hrem h192
            have hinx := full_next hinv hu8
            have hr := hinv.1.rise
            have Hnext := next_any B l v u wr hs (by omega) hr
            have hnf := not_found (inv_nf hinv u)
            by_cases h4 : 4 ≤ onC l u
            · rw [if_pos h4] at hinx
              rw [hinx] at Hnext
              simp only [wv] at Hnext
              have d4 : decide ((onC l u : Int) < 4) = false := by simp; omega
              have d4n : decide (onC l u < 4) = false := by simp; omega
              clear hinx hinv h4 hr hnf
              go_wp2_with fail
              refine Hnext.mono ?_
              rintro e w2 ⟨rfl, o2⟩
              have s3 := hs.quiet o2
              clear hs o2 Hnext hcx hc4 hc5'
              go_wp2_with (first
            | (refine wpList_alloc_new rfl 30 rfl (.agg #[.int .i64 0, .int .i64 0]) (fun _ => by kernel_rfl) ?_; intro Z wZ oZ hZl hZ)
            | (refine wpList_store_blk rfl 30 _ _ rfl Z [.int .i64 0, .int .i64 0] rfl rfl hZ rfl (by kernel_rfl) (by simp [Value.oneCell']) ?_; intro wU oU hU; have s4 := s3.add (b := blk Z [.int .i64 0, .int .i64 0] 30) (oZ.new oU (fun i hi => by simp only [List.mem_singleton] at hi; omega)) hU (fun k hk => by simp [blk] at hk; omega); have hc4 := (cell_in (show wU.heap[T4]? = _ from (s4.sel 5 [4]).head) u).trans hc4v; have hz0' := cell_two0 hU; have hz1' := cell_two1 hU; clear s3 hZ oZ oU hU))
              exact ⟨⟨i + 1, l, v, by simp, by omega, hI.out, by omega, s4.sel 6 [1, 2, 3, 4, 5]⟩, by simp [intOf]; omega⟩
            · rw [if_neg h4] at hinx
              rw [hinx] at Hnext
              have d4 : decide ((onC l u : Int) < 4) = true := by simp; omega
              have d4n : decide (onC l u < 4) = true := by simp; omega
              simp only [wv] at Hnext
              have hnx := Lib.hid hinx
              have hnf := Lib.hid hnf
              clear hinx hinv h4 hr
              go_wp2_with fail
              refine Hnext.mono ?_
              rintro e w2 ⟨rfl, o2⟩
              have s3 := hs.quiet o2
              clear hs o2 Hnext hcx hc4 hc5'
              go_wp2_with (first
            | (refine wpList_alloc_new rfl 30 rfl (.agg #[.int .i64 0, .int .i64 0]) (fun _ => by kernel_rfl) ?_; intro Z wZ oZ hZl hZ)
            | (refine wpList_store_blk rfl 30 _ _ rfl Z [.int .i64 u, .int .i64 ((allC l u : Int) + 1)] rfl rfl hZ rfl (by kernel_rfl) (by simp [Value.oneCell']) ?_; intro wU oU hU; have s4 := s3.add (b := blk Z [.int .i64 u, .int .i64 ((allC l u : Int) + 1)] 30) (oZ.new oU (fun i hi => by simp only [List.mem_singleton] at hi; omega)) hU (fun k hk => by simp [blk] at hk; omega); have hc4 := (cell_in (show wU.heap[T4]? = _ from (s4.sel 5 [4]).head) u).trans hc4v; have hz0' := cell_two0 hU; have hz1' := cell_two1 hU; clear s3 hZ oZ oU hU))
              have sB : Pw.Sep w wU (regR B v l (blk T4 (arrO l) 26 :: blk T5 (arrC l) 26 :: blk Z [.int .i64 u, .int .i64 ((allC l u : Int) + 1)] 30 :: [])) := s4.sel 6 [1, 2, 3, 4, 5, 0]
              have hZ2 : wU.drew.heap[Z]? = some (.cells #[.int .i64 u, .int .i64 ((allC l u : Int) + 1)] 30 (0, 0)) := s4.head
              have hT5 : wU.drew.heap[T5]? = some (.cells (arrC l).toArray 26 (0, 0)) := (s4.sel 6 [5]).head
              have sD := sB.quiet (Only.drew wU [])
              clear sB s4 hc4 hz0' hz1'
              refine wp_region_held_drew (S := fun w' => w'.heap[Z]? = some (.cells #[.int .i64 u, .int .i64 ((allC l u : Int) + 1)] 30 (0, 0)) ∧ w'.heap[T5]? = some (.cells (arrC l).toArray 26 (0, 0))) (by kernel_rfl) ⟨hZ2, hT5⟩ (fun hHeld => ?_)
              refine' wpAnyH_take (i := 0) (v := _) (op_at rfl) (by kernel_rfl) (by kernel_rfl) (by kernel_rfl) (fun _ _ _ h => h) (Or.inl ⟨by rfl, ?hy1⟩) (by assumption) ?rest1
              case hy1 =>
                intro w' hS
                go_simp
                try with_reducible rfl
              try simp only [Act.put, List.setIfInBounds_toArray, List.set_cons_zero, List.set_cons_succ]
              refine' wpAnyH_take (i := 1) (v := _) (op_at rfl) (by kernel_rfl) (by kernel_rfl) (by kernel_rfl) (fun _ _ _ h => h) (Or.inl ⟨by rfl, ?hy2⟩) (by assumption) ?rest2
              case hy2 =>
                intro w' hS
                have q0 := cell_two0 hS.1
                have q1 := cell_two1 hS.1
                go_simp
                try with_reducible rfl
              try simp only [Act.put, List.setIfInBounds_toArray, List.set_cons_zero, List.set_cons_succ]
              refine' wpAnyH_take (i := 2) (v := _) (op_at rfl) (by kernel_rfl) (by kernel_rfl) (by kernel_rfl) (fun _ _ _ h => h) (Or.inl ⟨by rfl, ?hy3⟩) (by assumption) ?rest3
              case hy3 =>
                intro w' hS
                go_simp
                try with_reducible rfl
              try simp only [Act.put, List.setIfInBounds_toArray, List.set_cons_zero, List.set_cons_succ]
              refine' wpAnyH_take (i := 3) (v := _) (op_at rfl) (by kernel_rfl) (by kernel_rfl) (by kernel_rfl) (fun _ _ _ h => h) (Or.inl ⟨by rfl, ?hy4⟩) (by assumption) ?rest4
              case hy4 =>
                intro w' hS
                go_simp
                try with_reducible rfl
              try simp only [Act.put, List.setIfInBounds_toArray, List.set_cons_zero, List.set_cons_succ]
              refine' wpAnyH_take (i := 4) (v := _) (op_at rfl) (by kernel_rfl) (by kernel_rfl) (by kernel_rfl) (fun _ _ _ h => h) (Or.inl ⟨by rfl, ?hy5⟩) (by assumption) ?rest5
              case hy5 =>
                intro w' hS
                have q := (cell_in hS.2 u).trans hc5
                go_simp
                try with_reducible rfl
              try simp only [Act.put, List.setIfInBounds_toArray, List.set_cons_zero, List.set_cons_succ]
              refine' wpAnyH_take (i := 5) (v := _) (op_at rfl) (by kernel_rfl) (by kernel_rfl) (by kernel_rfl) (fun _ _ _ h => h) (Or.inl ⟨by rfl, ?hy6⟩) (by assumption) ?rest6
              case hy6 =>
                intro w' hS
                go_simp
                try with_reducible rfl
              try simp only [Act.put, List.setIfInBounds_toArray, List.set_cons_zero, List.set_cons_succ]
              refine' wpAnyH_take (i := 6) (v := _) (op_at rfl) (by kernel_rfl) (by kernel_rfl) (by kernel_rfl) (fun _ _ _ h => h) (Or.inl ⟨by rfl, ?hy7⟩) (by assumption) ?rest7
              case hy7 =>
                intro w' hS
                go_simp
                try with_reducible rfl
              try simp only [Act.put, List.setIfInBounds_toArray, List.set_cons_zero, List.set_cons_succ]
              refine' wpAnyH_take (i := 7) (v := _) (op_at rfl) (by kernel_rfl) (by kernel_rfl) (by kernel_rfl) (fun _ _ _ h => h) (Or.inl ⟨by rfl, ?hy8⟩) (by assumption) ?rest8
              case hy8 =>
                intro w' hS
                go_simp
                try with_reducible rfl
              try simp only [Act.put, List.setIfInBounds_toArray, List.set_cons_zero, List.set_cons_succ]
              refine' wpAnyH_take (i := 8) (v := _) (op_at rfl) (by kernel_rfl) (by kernel_rfl) (by kernel_rfl) (fun _ _ _ h => h) (Or.inl ⟨by rfl, ?hy9⟩) (by assumption) ?rest9
              case hy9 =>
                intro w' hS
                go_simp
                try with_reducible rfl
              try simp only [Act.put, List.setIfInBounds_toArray, List.set_cons_zero, List.set_cons_succ]
              refine' wpAnyH_take (i := 9) (v := _) (op_at rfl) (by kernel_rfl) (by kernel_rfl) (by kernel_rfl) (fun _ _ _ h => h) (Or.inl ⟨by rfl, ?hy10⟩) (by assumption) ?rest10
              case hy10 =>
                intro w' hS
                have q0 := cell_two0 hS.1
                have q1 := cell_two1 hS.1
                go_simp
                try with_reducible rfl
              try simp only [Act.put, List.setIfInBounds_toArray, List.set_cons_zero, List.set_cons_succ]
              refine' wpAnyH_take (i := 10) (v := _) (op_at rfl) (by kernel_rfl) (by kernel_rfl) (by kernel_rfl) (fun _ _ _ h => h) (Or.inl ⟨by rfl, ?hy11⟩) (by assumption) ?rest11
              case hy11 =>
                intro w' hS
                have q0 := cell_two0 hS.1
                have q1 := cell_two1 hS.1
                go_simp
                try with_reducible rfl
              try simp only [Act.put, List.setIfInBounds_toArray, List.set_cons_zero, List.set_cons_succ]
              refine wpAnyH_ready (rs := [11]) (by kernel_rfl) (by simp) (AllReadyH.cons (op_at rfl) (fun K hK => ?_) AllReadyH.nil)
              go_simp
              refine (bundle_no u ((allC l u : Int) + 1) 1 (by decide) (by decide) _).mono fun e w3 hq => ?_
              obtain ⟨b1, rfl, o3, f1, f2, f3, f4, f5⟩ := hq
              go_wp2_with fail
              refine hK.out _ _ ⟨o3.at hHeld.1 (by simp), o3.at hHeld.2 (by simp)⟩ (fun hHeld => ?_)
              clear hK K
              try simp only [Act.put, List.setIfInBounds_toArray, List.set_cons_zero, List.set_cons_succ]
              have s3 := sD.quiet o3
              clear o3 sD
              refine wpAnyH_ready (rs := [12]) (by kernel_rfl) (by simp) (AllReadyH.cons (op_at rfl) (fun K hK => ?_) AllReadyH.nil)
              refine step_buildSlice_got (by rfl) 42 _ (by rfl) 40 i0 _ (bc b1) (by rfl) Try.underlying42 hi hz0 (by rw [hz1, bc_len]) (by rw [bc_len]; rfl) (by rw [bc_len]; decide) (by rw [bc_len]; decide) (fun Y4 w4 o4 hY4l hY4 => ?_)
              go_wp2_with fail
              refine hK.out _ _ ⟨o4.at hHeld.1 (by simp), o4.at hHeld.2 (by simp)⟩ (fun hHeld => ?_)
              clear hK K
              try simp only [Act.put, List.setIfInBounds_toArray, List.set_cons_zero, List.set_cons_succ]
              have s4 : Pw.Sep w w4 (regR B v l (row 40 10 (.slice (some ⟨Y4, 0, none⟩) 1 1) [b1].length (fl bc [b1]) :: blk T4 (arrO l) 26 :: blk T5 (arrC l) 26 :: blk Z [.int .i64 u, .int .i64 ((allC l u : Int) + 1)] 30 :: [])) := (s3.add (b := row 40 10 (.slice (some ⟨Y4, 0, none⟩) 1 1) [b1].length (fl bc [b1])) o4 (blk_row (cs := fl bc [b1]) (by simpa [fl] using hY4) (by simp [fl, bc_len]) (by simp [maxLen])) (fun k hk => by simp [row, Value.ownBlock] at hk; omega)).sel 7 [1, 2, 3, 0, 4, 5, 6]
              clear s3 o4 hY4
              refine wpAnyH_ready (rs := [13]) (by kernel_rfl) (by simp) (AllReadyH.cons (op_at rfl) (fun K hK => ?_) AllReadyH.nil)
              go_simp
              refine (add_ok B l v u ((allC l u : Int) + 1) _ [b1] _ s4 (by omega) (by simp) hI.out.1.rise hnx.out (by simp [f4]) (by simp [other, f1, f2]) hnf.out).mono fun e w5 hq => ?_
              obtain ⟨rfl, v5, x1, g1, g2, g3, g4, g5, s5⟩ := hq
              go_wp2_with fail
              refine hK.out _ _ ⟨(s5.sel 7 [6]).head, (s5.sel 6 [5]).head⟩ (fun hHeld => ?_)
              clear hK K
              try simp only [Act.put, List.setIfInBounds_toArray, List.set_cons_zero, List.set_cons_succ]
              clear s4 g4
              refine' wpAnyH_take (i := 14) (v := _) (op_at rfl) (by kernel_rfl) (by kernel_rfl) (by kernel_rfl) (fun _ _ _ h => h) (Or.inl ⟨by rfl, ?hy12⟩) (by assumption) ?rest12
              case hy12 =>
                intro w' hS
                go_simp
                try with_reducible rfl
              try simp only [Act.put, List.setIfInBounds_toArray, List.set_cons_zero, List.set_cons_succ]
              refine' wpAnyH_take (i := 15) (v := _) (op_at rfl) (by kernel_rfl) (by kernel_rfl) (by kernel_rfl) (fun _ _ _ h => h) (Or.inl ⟨by rfl, ?hy13⟩) (by assumption) ?rest13
              case hy13 =>
                intro w' hS
                go_simp
                try with_reducible rfl
              try simp only [Act.put, List.setIfInBounds_toArray, List.set_cons_zero, List.set_cons_succ]
              refine wpAnyH_done (by kernel_rfl) ?_ _
              obtain ⟨a1, a2, a3, a4⟩ := inv_add hI.out hu8 g1 g2 g3
              have s6 : Pw.Sep w w5 (regR B v5 ((insL l (newL u ((allC l u : Int) + 1))).set (placeL l u ((allC l u : Int) + 1)) x1) (blk T4 (arrO l) 26 :: blk T5 (arrC l) 26 :: [])) := s5.sel 7 [0, 1, 2, 4, 5]
              have hB4 : w5.heap[T4]? = some (.cells (arrO l).toArray 26 (0, 0)) := (s6.sel 4 [3]).head
              have hB5 : w5.heap[T5]? = some (.cells (arrC l).toArray 26 (0, 0)) := (s6.sel 5 [4]).head
              have hc4 := (cell_in hB4 u).trans hc4v
              have hf4 := free_in hB4 u
              have hc5' := (cell_in hB5 u).trans hc5
              have hf5 := free_in hB5 u
              have ht54 : T5 ≠ T4 := fun e => ht45 e.symm
              have s7 := (s6.sel 5 [3, 0, 1, 2, 4]).put u (.int .i64 ((onC l u : Int) + 1))
              rw [a3] at s7
              have s8 := (s7.sel 5 [4, 0, 1, 2, 3]).put u (.int .i64 ((allC l u : Int) + 1))
              rw [a4] at s8
              have s9 := s8.sel 5 [2, 3, 4, 1, 0]
              have HA := Lib.hid (And.intro a1 a2)
              clear s5 s6 s7 s8 hB4 hB5 a1 a2 a3 a4 hHeld hZ2 hT5
              generalize (insL l (newL u ((allC l u : Int) + 1))).set (placeL l u ((allC l u : Int) + 1)) x1 = l' at *
              go_wp2_with fail
              exact ⟨⟨i + 1, l', v5, by simp, by omega, HA.out.1, by have := HA.out.2; omega, s9⟩, by simp [intOf]; omega⟩
          · have d192 : decide (192 ≤ x) = false := by simpa using h192
            clear hrem h192
            have hinx := full_next hinv hu8
            have hr := hinv.1.rise
            have Hnext := next_any B l v u wr hs (by omega) hr
            have hnf := not_found (inv_nf hinv u)
            by_cases h4 : 4 ≤ onC l u
            · rw [if_pos h4] at hinx
              rw [hinx] at Hnext
              simp only [wv] at Hnext
              have d4 : decide ((onC l u : Int) < 4) = false := by simp; omega
              have d4n : decide (onC l u < 4) = false := by simp; omega
              clear hinx hinv h4 hr hnf
              go_wp2_with fail
              refine Hnext.mono ?_
              rintro e w2 ⟨rfl, o2⟩
              have s3 := hs.quiet o2
              clear hs o2 Hnext hcx hc4 hc5'
              go_wp2_with (first
            | (refine wpList_alloc_new rfl 30 rfl (.agg #[.int .i64 0, .int .i64 0]) (fun _ => by kernel_rfl) ?_; intro Z wZ oZ hZl hZ)
            | (refine wpList_store_blk rfl 30 _ _ rfl Z [.int .i64 0, .int .i64 0] rfl rfl hZ rfl (by kernel_rfl) (by simp [Value.oneCell']) ?_; intro wU oU hU; have s4 := s3.add (b := blk Z [.int .i64 0, .int .i64 0] 30) (oZ.new oU (fun i hi => by simp only [List.mem_singleton] at hi; omega)) hU (fun k hk => by simp [blk] at hk; omega); have hc4 := (cell_in (show wU.heap[T4]? = _ from (s4.sel 5 [4]).head) u).trans hc4v; have hz0' := cell_two0 hU; have hz1' := cell_two1 hU; clear s3 hZ oZ oU hU))
              exact ⟨⟨i + 1, l, v, by simp, by omega, hI.out, by omega, s4.sel 6 [1, 2, 3, 4, 5]⟩, by simp [intOf]; omega⟩
            · rw [if_neg h4] at hinx
              rw [hinx] at Hnext
              have d4 : decide ((onC l u : Int) < 4) = true := by simp; omega
              have d4n : decide (onC l u < 4) = true := by simp; omega
              simp only [wv] at Hnext
              have hnx := Lib.hid hinx
              have hnf := Lib.hid hnf
              clear hinx hinv h4 hr
              go_wp2_with fail
              refine Hnext.mono ?_
              rintro e w2 ⟨rfl, o2⟩
              have s3 := hs.quiet o2
              clear hs o2 Hnext hcx hc4 hc5'
              go_wp2_with (first
            | (refine wpList_alloc_new rfl 30 rfl (.agg #[.int .i64 0, .int .i64 0]) (fun _ => by kernel_rfl) ?_; intro Z wZ oZ hZl hZ)
            | (refine wpList_store_blk rfl 30 _ _ rfl Z [.int .i64 u, .int .i64 ((allC l u : Int) + 1)] rfl rfl hZ rfl (by kernel_rfl) (by simp [Value.oneCell']) ?_; intro wU oU hU; have s4 := s3.add (b := blk Z [.int .i64 u, .int .i64 ((allC l u : Int) + 1)] 30) (oZ.new oU (fun i hi => by simp only [List.mem_singleton] at hi; omega)) hU (fun k hk => by simp [blk] at hk; omega); have hc4 := (cell_in (show wU.heap[T4]? = _ from (s4.sel 5 [4]).head) u).trans hc4v; have hz0' := cell_two0 hU; have hz1' := cell_two1 hU; clear s3 hZ oZ oU hU))
              have sB : Pw.Sep w wU (regR B v l (blk T4 (arrO l) 26 :: blk T5 (arrC l) 26 :: blk Z [.int .i64 u, .int .i64 ((allC l u : Int) + 1)] 30 :: [])) := s4.sel 6 [1, 2, 3, 4, 5, 0]
              have hZ2 : wU.drew.heap[Z]? = some (.cells #[.int .i64 u, .int .i64 ((allC l u : Int) + 1)] 30 (0, 0)) := s4.head
              have hT5 : wU.drew.heap[T5]? = some (.cells (arrC l).toArray 26 (0, 0)) := (s4.sel 6 [5]).head
              have sD := sB.quiet (Only.drew wU [])
              clear sB s4 hc4 hz0' hz1'
              refine wp_region_held_drew (S := fun w' => w'.heap[Z]? = some (.cells #[.int .i64 u, .int .i64 ((allC l u : Int) + 1)] 30 (0, 0)) ∧ w'.heap[T5]? = some (.cells (arrC l).toArray 26 (0, 0))) (by kernel_rfl) ⟨hZ2, hT5⟩ (fun hHeld => ?_)
              refine' wpAnyH_take (i := 0) (v := _) (op_at rfl) (by kernel_rfl) (by kernel_rfl) (by kernel_rfl) (fun _ _ _ h => h) (Or.inl ⟨by rfl, ?hy14⟩) (by assumption) ?rest14
              case hy14 =>
                intro w' hS
                go_simp
                try with_reducible rfl
              try simp only [Act.put, List.setIfInBounds_toArray, List.set_cons_zero, List.set_cons_succ]
              refine' wpAnyH_take (i := 1) (v := _) (op_at rfl) (by kernel_rfl) (by kernel_rfl) (by kernel_rfl) (fun _ _ _ h => h) (Or.inl ⟨by rfl, ?hy15⟩) (by assumption) ?rest15
              case hy15 =>
                intro w' hS
                have q0 := cell_two0 hS.1
                have q1 := cell_two1 hS.1
                go_simp
                try with_reducible rfl
              try simp only [Act.put, List.setIfInBounds_toArray, List.set_cons_zero, List.set_cons_succ]
              refine' wpAnyH_take (i := 2) (v := _) (op_at rfl) (by kernel_rfl) (by kernel_rfl) (by kernel_rfl) (fun _ _ _ h => h) (Or.inl ⟨by rfl, ?hy16⟩) (by assumption) ?rest16
              case hy16 =>
                intro w' hS
                go_simp
                try with_reducible rfl
              try simp only [Act.put, List.setIfInBounds_toArray, List.set_cons_zero, List.set_cons_succ]
              refine' wpAnyH_take (i := 3) (v := _) (op_at rfl) (by kernel_rfl) (by kernel_rfl) (by kernel_rfl) (fun _ _ _ h => h) (Or.inl ⟨by rfl, ?hy17⟩) (by assumption) ?rest17
              case hy17 =>
                intro w' hS
                go_simp
                try with_reducible rfl
              try simp only [Act.put, List.setIfInBounds_toArray, List.set_cons_zero, List.set_cons_succ]
              refine' wpAnyH_take (i := 4) (v := _) (op_at rfl) (by kernel_rfl) (by kernel_rfl) (by kernel_rfl) (fun _ _ _ h => h) (Or.inl ⟨by rfl, ?hy18⟩) (by assumption) ?rest18
              case hy18 =>
                intro w' hS
                have q := (cell_in hS.2 u).trans hc5
                go_simp
                try with_reducible rfl
              try simp only [Act.put, List.setIfInBounds_toArray, List.set_cons_zero, List.set_cons_succ]
              refine' wpAnyH_take (i := 5) (v := _) (op_at rfl) (by kernel_rfl) (by kernel_rfl) (by kernel_rfl) (fun _ _ _ h => h) (Or.inl ⟨by rfl, ?hy19⟩) (by assumption) ?rest19
              case hy19 =>
                intro w' hS
                go_simp
                try with_reducible rfl
              try simp only [Act.put, List.setIfInBounds_toArray, List.set_cons_zero, List.set_cons_succ]
              refine' wpAnyH_take (i := 6) (v := _) (op_at rfl) (by kernel_rfl) (by kernel_rfl) (by kernel_rfl) (fun _ _ _ h => h) (Or.inl ⟨by rfl, ?hy20⟩) (by assumption) ?rest20
              case hy20 =>
                intro w' hS
                go_simp
                try with_reducible rfl
              try simp only [Act.put, List.setIfInBounds_toArray, List.set_cons_zero, List.set_cons_succ]
              refine' wpAnyH_take (i := 7) (v := _) (op_at rfl) (by kernel_rfl) (by kernel_rfl) (by kernel_rfl) (fun _ _ _ h => h) (Or.inl ⟨by rfl, ?hy21⟩) (by assumption) ?rest21
              case hy21 =>
                intro w' hS
                go_simp
                try with_reducible rfl
              try simp only [Act.put, List.setIfInBounds_toArray, List.set_cons_zero, List.set_cons_succ]
              refine' wpAnyH_take (i := 8) (v := _) (op_at rfl) (by kernel_rfl) (by kernel_rfl) (by kernel_rfl) (fun _ _ _ h => h) (Or.inl ⟨by rfl, ?hy22⟩) (by assumption) ?rest22
              case hy22 =>
                intro w' hS
                go_simp
                try with_reducible rfl
              try simp only [Act.put, List.setIfInBounds_toArray, List.set_cons_zero, List.set_cons_succ]
              refine' wpAnyH_take (i := 9) (v := _) (op_at rfl) (by kernel_rfl) (by kernel_rfl) (by kernel_rfl) (fun _ _ _ h => h) (Or.inl ⟨by rfl, ?hy23⟩) (by assumption) ?rest23
              case hy23 =>
                intro w' hS
                have q0 := cell_two0 hS.1
                have q1 := cell_two1 hS.1
                go_simp
                try with_reducible rfl
              try simp only [Act.put, List.setIfInBounds_toArray, List.set_cons_zero, List.set_cons_succ]
              refine' wpAnyH_take (i := 10) (v := _) (op_at rfl) (by kernel_rfl) (by kernel_rfl) (by kernel_rfl) (fun _ _ _ h => h) (Or.inl ⟨by rfl, ?hy24⟩) (by assumption) ?rest24
              case hy24 =>
                intro w' hS
                have q0 := cell_two0 hS.1
                have q1 := cell_two1 hS.1
                go_simp
                try with_reducible rfl
              try simp only [Act.put, List.setIfInBounds_toArray, List.set_cons_zero, List.set_cons_succ]
              refine wpAnyH_ready (rs := [11]) (by kernel_rfl) (by simp) (AllReadyH.cons (op_at rfl) (fun K hK => ?_) AllReadyH.nil)
              go_simp
              refine (bundle_no u ((allC l u : Int) + 1) 1 (by decide) (by decide) _).mono fun e w3 hq => ?_
              obtain ⟨b1, rfl, o3, f1, f2, f3, f4, f5⟩ := hq
              go_wp2_with fail
              refine hK.out _ _ ⟨o3.at hHeld.1 (by simp), o3.at hHeld.2 (by simp)⟩ (fun hHeld => ?_)
              clear hK K
              try simp only [Act.put, List.setIfInBounds_toArray, List.set_cons_zero, List.set_cons_succ]
              have s3 := sD.quiet o3
              clear o3 sD
              refine wpAnyH_ready (rs := [12]) (by kernel_rfl) (by simp) (AllReadyH.cons (op_at rfl) (fun K hK => ?_) AllReadyH.nil)
              refine step_buildSlice_got (by rfl) 42 _ (by rfl) 40 i0 _ (bc b1) (by rfl) Try.underlying42 hi hz0 (by rw [hz1, bc_len]) (by rw [bc_len]; rfl) (by rw [bc_len]; decide) (by rw [bc_len]; decide) (fun Y4 w4 o4 hY4l hY4 => ?_)
              go_wp2_with fail
              refine hK.out _ _ ⟨o4.at hHeld.1 (by simp), o4.at hHeld.2 (by simp)⟩ (fun hHeld => ?_)
              clear hK K
              try simp only [Act.put, List.setIfInBounds_toArray, List.set_cons_zero, List.set_cons_succ]
              have s4 : Pw.Sep w w4 (regR B v l (row 40 10 (.slice (some ⟨Y4, 0, none⟩) 1 1) [b1].length (fl bc [b1]) :: blk T4 (arrO l) 26 :: blk T5 (arrC l) 26 :: blk Z [.int .i64 u, .int .i64 ((allC l u : Int) + 1)] 30 :: [])) := (s3.add (b := row 40 10 (.slice (some ⟨Y4, 0, none⟩) 1 1) [b1].length (fl bc [b1])) o4 (blk_row (cs := fl bc [b1]) (by simpa [fl] using hY4) (by simp [fl, bc_len]) (by simp [maxLen])) (fun k hk => by simp [row, Value.ownBlock] at hk; omega)).sel 7 [1, 2, 3, 0, 4, 5, 6]
              clear s3 o4 hY4
              refine wpAnyH_ready (rs := [13]) (by kernel_rfl) (by simp) (AllReadyH.cons (op_at rfl) (fun K hK => ?_) AllReadyH.nil)
              go_simp
              refine (add_ok B l v u ((allC l u : Int) + 1) _ [b1] _ s4 (by omega) (by simp) hI.out.1.rise hnx.out (by simp [f4]) (by simp [other, f1, f2]) hnf.out).mono fun e w5 hq => ?_
              obtain ⟨rfl, v5, x1, g1, g2, g3, g4, g5, s5⟩ := hq
              go_wp2_with fail
              refine hK.out _ _ ⟨(s5.sel 7 [6]).head, (s5.sel 6 [5]).head⟩ (fun hHeld => ?_)
              clear hK K
              try simp only [Act.put, List.setIfInBounds_toArray, List.set_cons_zero, List.set_cons_succ]
              clear s4 g4
              refine' wpAnyH_take (i := 14) (v := _) (op_at rfl) (by kernel_rfl) (by kernel_rfl) (by kernel_rfl) (fun _ _ _ h => h) (Or.inl ⟨by rfl, ?hy25⟩) (by assumption) ?rest25
              case hy25 =>
                intro w' hS
                go_simp
                try with_reducible rfl
              try simp only [Act.put, List.setIfInBounds_toArray, List.set_cons_zero, List.set_cons_succ]
              refine' wpAnyH_take (i := 15) (v := _) (op_at rfl) (by kernel_rfl) (by kernel_rfl) (by kernel_rfl) (fun _ _ _ h => h) (Or.inl ⟨by rfl, ?hy26⟩) (by assumption) ?rest26
              case hy26 =>
                intro w' hS
                go_simp
                try with_reducible rfl
              try simp only [Act.put, List.setIfInBounds_toArray, List.set_cons_zero, List.set_cons_succ]
              refine wpAnyH_done (by kernel_rfl) ?_ _
              obtain ⟨a1, a2, a3, a4⟩ := inv_add hI.out hu8 g1 g2 g3
              have s6 : Pw.Sep w w5 (regR B v5 ((insL l (newL u ((allC l u : Int) + 1))).set (placeL l u ((allC l u : Int) + 1)) x1) (blk T4 (arrO l) 26 :: blk T5 (arrC l) 26 :: [])) := s5.sel 7 [0, 1, 2, 4, 5]
              have hB4 : w5.heap[T4]? = some (.cells (arrO l).toArray 26 (0, 0)) := (s6.sel 4 [3]).head
              have hB5 : w5.heap[T5]? = some (.cells (arrC l).toArray 26 (0, 0)) := (s6.sel 5 [4]).head
              have hc4 := (cell_in hB4 u).trans hc4v
              have hf4 := free_in hB4 u
              have hc5' := (cell_in hB5 u).trans hc5
              have hf5 := free_in hB5 u
              have ht54 : T5 ≠ T4 := fun e => ht45 e.symm
              have s7 := (s6.sel 5 [3, 0, 1, 2, 4]).put u (.int .i64 ((onC l u : Int) + 1))
              rw [a3] at s7
              have s8 := (s7.sel 5 [4, 0, 1, 2, 3]).put u (.int .i64 ((allC l u : Int) + 1))
              rw [a4] at s8
              have s9 := s8.sel 5 [2, 3, 4, 1, 0]
              have HA := Lib.hid (And.intro a1 a2)
              clear s5 s6 s7 s8 hB4 hB5 a1 a2 a3 a4 hHeld hZ2 hT5
              generalize (insL l (newL u ((allC l u : Int) + 1))).set (placeL l u ((allC l u : Int) + 1)) x1 = l' at *
              go_wp2_with fail
              exact ⟨⟨i + 1, l', v5, by simp, by omega, HA.out.1, by have := HA.out.2; omega, s9⟩, by simp [intOf]; omega⟩
      · obtain rfl : i = xs.length := by omega
        have dl : decide ((xs.length : Int) < xs.length) = false := by simp
        have oF := oA.trans hs.only
        go_wp2_with fail
        go_ret
        exact ⟨rfl, oF.below (Nat.le_refl _) (by simp)⟩

set_option maxRecDepth 100000 in
theorem registryFull_holds : Rows.RegistryFullSaid := registryFull.said fun H enc base W v0 d0 p0 h0 h1 => by
  obtain ⟨ao, c, xs, rfl, hs, hb⟩ := open_bytes Try.underlying22 Try.underlying5 (by kernel_rfl) h0 h1
  exact full_walk ao c xs W hs hb
end Go.Proofs.Yteljkfihmbddaaa
