/- Plain laws of layer 16's book against the reference's lines: what is known, what an act turns. No walk. -/
import Derived.Test.YtdlbkdnpbcpjfaaBq2
import Derived.Test.YtdlbkdnpbcpjfaaPe
set_option linter.unusedSimpArgs false
set_option linter.unusedVariables false
namespace Go.Proofs.Ytdlbkdnpbcpjfaa
open Go.RowKit Go.Pw Go.Pw.Fl
set_option linter.unusedVariables false

/-- A record of ours: whose, its ident's blocks and byte, its queue, the sessions in it, is it stale, since when. -/
structure Rcd where
  u : Int
  d : Int
  A1 : Nat
  A2 : Nat
  x : Int
  Q : Nat
  v : Value
  ss : List (Nat × Int)
  st : Bool
  t : Nat
/-- A line of the reference. -/
structure Ln where
  u : Int
  d : Int
  i : Int
  st : Bool
  t : Nat
  n : Nat
def re (r : Rcd) : Re := ⟨r.u, r.d, some ⟨r.A1, 0, none⟩, 1, 1, some ⟨r.A2, 0, none⟩, 1, 1, some ⟨r.Q, 0, none⟩, r.st, r.t⟩
def recR (r : Rcd) : Res := many [cst r.A1 5 (0, 0) [.int .u8 r.x], cst r.A2 5 (1, 2) [.int .u8 115], row 97 18 r.v r.ss.length (fl sc r.ss), blk r.Q [r.v] 74, many (r.ss.map idR)]
def lnc (y : Ln) : List Value := [.int .i64 y.u, .int .i64 y.d, .int .u8 y.i, .bool y.st, .float .f64 y.t, .int .i64 y.n]
theorem lnc_len (y : Ln) : (lnc y).length = 6 := rfl
theorem lnc_one (y : Ln) : ∀ u ∈ lnc y, u.oneCell' = true := by simp [lnc, Value.oneCell']

/-- What both tell of a device. -/
structure Ent where
  u : Int
  d : Int
  x : Int
  st : Bool
  t : Nat
  n : Nat
def entR (r : Rcd) : Ent := ⟨r.u, r.d, r.x, r.st, r.t, r.ss.length⟩
def entL (y : Ln) : Ent := ⟨y.u, y.d, y.i % 3, y.st, y.t, y.n⟩

def Asc (L : List Rcd) : Prop := L.Pairwise fun a b => a.u < b.u ∨ a.u = b.u ∧ a.d < b.d
/-- What stands of records and lines behind the first i acts. -/
structure Inv (i : Nat) (L : List Rcd) (M : List Ln) : Prop where
  perm : (L.map entR).Perm (M.map entL)
  asc : Asc L
  len : L.length ≤ i
  rx : ∀ r ∈ L, (0 ≤ r.x ∧ r.x < 256) ∧ r.t < 18446744073709551616 ∧ r.ss.length ≤ 4 ∧ ∀ p ∈ r.ss, 0 ≤ p.2 ∧ p.2 < i
  lx : ∀ y ∈ M, (0 ≤ y.i ∧ y.i < 256) ∧ y.t < 18446744073709551616
  nx : ∀ r ∈ L, (r.ss.map (·.2)).Nodup ∧ (0 ≤ r.u ∧ r.u < 65536) ∧ (0 ≤ r.d ∧ r.d < 65536)

theorem Inv.mlen {i : Nat} {L : List Rcd} {M : List Ln} (h : Inv i L M) : M.length = L.length := by
  simpa using h.perm.length_eq.symm
theorem Asc.rise {L : List Rcd} (h : Asc L) : Rise (L.map re) := fun u d i j hi hj hlt => by
  have hj' : j < L.length := by simpa using hj
  have hp := List.pairwise_iff_getElem.1 h i j (by omega) hj' hi
  rw [cmpW_neg] at *
  simp only [List.getElem_map, re] at *
  omega
theorem place_self {L : List Rcd} (h : Asc L) {k : Nat} (hk : k < L.length) : placeL (L.map re) L[k].u L[k].d = k := by
  show List.findIdx _ _ = _
  rw [List.findIdx_eq (by simpa using hk)]
  refine ⟨?_, fun j hj => ?_⟩
  · have h0 := (cmpW_zero L[k].u L[k].d L[k].u L[k].d).2 ⟨rfl, rfl⟩
    simp only [List.getElem_map, re, decide_eq_true_eq]
    omega
  · have hp := List.pairwise_iff_getElem.1 h j k (by omega) hk hj
    have hn := (cmpW_neg L[j].u L[j].d L[k].u L[k].d).2 hp
    simp only [List.getElem_map, re, decide_eq_false_iff_not]
    omega
theorem found_self {L : List Rcd} (h : Asc L) {k : Nat} (hk : k < L.length) : foundL (L.map re) L[k].u L[k].d = true := by
  unfold foundL
  rw [place_self h hk, List.getElem?_eq_getElem (by simpa using hk)]
  simp only [List.getElem_map, re, beq_iff_eq]
  exact (cmpW_zero _ _ _ _).2 ⟨rfl, rfl⟩
theorem not_found {L : List Rcd} {u d : Int} (h : ∀ r ∈ L, ¬ (r.u = u ∧ r.d = d)) : foundL (L.map re) u d = false := by
  cases hf : foundL (L.map re) u d with
  | false => rfl
  | true =>
    obtain ⟨hk, h0⟩ := found_at hf
    have hk' : placeL (L.map re) u d < L.length := by simpa using hk
    have h1 := (cmpW_zero _ _ _ _).1 h0
    simp only [List.getElem_map, re] at h1
    exact absurd h1 (h _ (List.getElem_mem hk'))
theorem asc_key {L : List Rcd} (h : Asc L) {j k : Nat} (hj : j < L.length) (hk : k < L.length) (e : L[j].u = L[k].u ∧ L[j].d = L[k].d) : j = k := by
  have h1 := List.pairwise_iff_getElem.1 h
  rcases Nat.lt_trichotomy j k with c | c | c
  · have := h1 j k hj hk c; omega
  · exact c
  · have := h1 k j hk hj c; omega
theorem asc_set {L : List Rcd} (h : Asc L) {k : Nat} (hk : k < L.length) {r : Rcd} (hu : r.u = L[k].u) (hd : r.d = L[k].d) : Asc (L.set k r) := by
  refine List.pairwise_iff_getElem.2 fun i j hi hj hij => ?_
  rw [List.length_set] at hi hj
  have h1 := List.pairwise_iff_getElem.1 h i j hi hj hij
  rw [List.getElem_set, List.getElem_set]
  split
  · rename_i e
    subst e
    rw [if_neg (by omega), hu, hd]
    exact h1
  · split
    · rename_i e
      subst e
      rw [hu, hd]
      exact h1
    · exact h1
theorem asc_ins {L : List Rcd} (h : Asc L) {r : Rcd} (hn : ∀ x ∈ L, ¬ (x.u = r.u ∧ x.d = r.d)) : Asc (L.take (placeL (L.map re) r.u r.d) ++ r :: L.drop (placeL (L.map re) r.u r.d)) := by
  obtain ⟨p, hp⟩ : ∃ p, p = placeL (L.map re) r.u r.d := ⟨_, rfl⟩
  rw [← hp]
  have hlo : ∀ j (hj : j < L.length), j < p → (L[j].u < r.u ∨ L[j].u = r.u ∧ L[j].d < r.d) := fun j hj hlt => by
    rw [hp] at hlt
    have := List.not_of_lt_findIdx hlt
    simp only [List.getElem_map, re, decide_eq_true_eq, decide_eq_false_iff_not] at this
    exact (cmpW_neg _ _ _ _).1 (by omega)
  have hhi : ∀ j (hj : j < L.length), p ≤ j → (r.u < L[j].u ∨ r.u = L[j].u ∧ r.d < L[j].d) := fun j hj hle => by
    have hpl : p < L.length := by omega
    have hg : 0 ≤ cmpW L[p].u L[p].d r.u r.d := by
      have hw : placeL (L.map re) r.u r.d < (L.map re).length := by simpa [← hp] using hpl
      have := List.findIdx_getElem (w := hw)
      have e : (L.map re)[placeL (L.map re) r.u r.d]'hw = re L[p] := by simp [← hp]
      have t2 : decide (0 ≤ cmpW ((L.map re)[placeL (L.map re) r.u r.d]'hw).u ((L.map re)[placeL (L.map re) r.u r.d]'hw).d r.u r.d) = true := this
      rw [e] at t2
      exact of_decide_eq_true t2
    have hne := hn L[p] (List.getElem_mem hpl)
    have hz := (cmpW_zero L[p].u L[p].d r.u r.d)
    have hpp := (cmpW_pos L[p].u L[p].d r.u r.d).1 (by
      rcases Int.lt_or_eq_of_le hg with c | c
      · exact c
      · exact absurd (hz.1 c.symm) hne)
    rcases Nat.lt_or_ge p j with c | c
    · have := List.pairwise_iff_getElem.1 h p j hpl hj c
      omega
    · obtain rfl : j = p := by omega
      exact hpp
  refine List.pairwise_append.2 ⟨h.sublist (List.take_sublist _ _), List.pairwise_cons.2 ⟨fun b hb => ?_, h.sublist (List.drop_sublist _ _)⟩, fun a ha b hb => ?_⟩
  · obtain ⟨j, hj, rfl⟩ := List.mem_iff_getElem.1 hb
    rw [List.length_drop] at hj
    rw [List.getElem_drop]
    exact hhi _ (by omega) (by omega)
  · obtain ⟨j, hj, rfl⟩ := List.mem_iff_getElem.1 ha
    rw [List.length_take] at hj
    rw [List.getElem_take]
    have h1 := hlo j (by omega) (by omega)
    rcases List.mem_cons.1 hb with rfl | hb
    · exact h1
    · obtain ⟨m, hm, rfl⟩ := List.mem_iff_getElem.1 hb
      rw [List.length_drop] at hm
      rw [List.getElem_drop]
      exact List.pairwise_iff_getElem.1 h j (p + m) (by omega) (by omega) (by omega)

/-- The place of the last line of a device among the first k; −1: there is none. -/
def atL (M : List Ln) (u d : Int) : Nat → Int
  | 0 => -1
  | k + 1 => match M[k]? with
    | none => atL M u d k
    | some y => if y.u = u ∧ y.d = d then k else atL M u d k
theorem atL_or (M : List Ln) (u d : Int) : ∀ k, k ≤ M.length → (atL M u d k = -1 ∧ ∀ j (hj : j < M.length), j < k → ¬ (M[j].u = u ∧ M[j].d = d)) ∨ (∃ j : Nat, ∃ hj : j < M.length, atL M u d k = j ∧ M[j].u = u ∧ M[j].d = d)
  | 0, _ => .inl ⟨rfl, fun j hj h => by omega⟩
  | k + 1, hk => by
    have hkl : k < M.length := by omega
    have e : atL M u d (k + 1) = if M[k].u = u ∧ M[k].d = d then (k : Int) else atL M u d k := by
      show (match M[k]? with | none => atL M u d k | some y => if y.u = u ∧ y.d = d then (k : Int) else atL M u d k) = _
      rw [List.getElem?_eq_getElem hkl]
    by_cases h : M[k].u = u ∧ M[k].d = d
    · rw [if_pos h] at e
      exact .inr ⟨k, hkl, e, h⟩
    · rw [if_neg h] at e
      rcases atL_or M u d k (by omega) with ⟨h1, h2⟩ | h1
      · refine .inl ⟨by rw [e, h1], fun j hj hlt => ?_⟩
        by_cases c : j = k
        · subst c; exact h
        · exact h2 j hj (by omega)
      · rw [e]; exact .inr h1
theorem atL_step {M : List Ln} (u d : Int) {k : Nat} (hk : k < M.length) : atL M u d (k + 1) = if M[k].u = u ∧ M[k].d = d then (k : Int) else atL M u d k := by
  show (match M[k]? with | none => atL M u d k | some y => if y.u = u ∧ y.d = d then (k : Int) else atL M u d k) = _
  rw [List.getElem?_eq_getElem hk]

theorem Inv.key_of {i : Nat} {L : List Rcd} {M : List Ln} (h : Inv i L M) {j : Nat} (hj : j < M.length) : ∃ k, ∃ hk : k < L.length, entR L[k] = entL M[j] := by
  have : entL M[j] ∈ L.map entR := h.perm.mem_iff.2 (List.mem_map.2 ⟨_, List.getElem_mem hj, rfl⟩)
  obtain ⟨r, hr, e⟩ := List.mem_map.1 this
  obtain ⟨k, hk, rfl⟩ := List.mem_iff_getElem.1 hr
  exact ⟨k, hk, e⟩
theorem Inv.line_of {i : Nat} {L : List Rcd} {M : List Ln} (h : Inv i L M) {k : Nat} (hk : k < L.length) : ∃ j, ∃ hj : j < M.length, entR L[k] = entL M[j] := by
  have : entR L[k] ∈ M.map entL := h.perm.mem_iff.1 (List.mem_map.2 ⟨_, List.getElem_mem hk, rfl⟩)
  obtain ⟨y, hy, e⟩ := List.mem_map.1 this
  obtain ⟨j, hj, rfl⟩ := List.mem_iff_getElem.1 hy
  exact ⟨j, hj, e.symm⟩
/-- A line of a record's device tells what the record tells. -/
theorem Inv.same {i : Nat} {L : List Rcd} {M : List Ln} (h : Inv i L M) {k j : Nat} (hk : k < L.length) (hj : j < M.length) (e : M[j].u = L[k].u ∧ M[j].d = L[k].d) : entR L[k] = entL M[j] := by
  obtain ⟨k', hk', e'⟩ := h.key_of hj
  have e1 : L[k'].u = M[j].u := congrArg Ent.u e'
  have e2 : L[k'].d = M[j].d := congrArg Ent.d e'
  obtain rfl := asc_key h.asc hk' hk ⟨by omega, by omega⟩
  exact e'
theorem Inv.none {i : Nat} {L : List Rcd} {M : List Ln} (h : Inv i L M) {u d : Int} (hn : atL M u d M.length = -1) : ∀ r ∈ L, ¬ (r.u = u ∧ r.d = d) := fun r hr he => by
  obtain ⟨k, hk, rfl⟩ := List.mem_iff_getElem.1 hr
  obtain ⟨j, hj, e⟩ := h.line_of hk
  have e1 : L[k].u = M[j].u := congrArg Ent.u e
  have e2 : L[k].d = M[j].d := congrArg Ent.d e
  rcases atL_or M u d M.length (Nat.le_refl _) with ⟨_, h2⟩ | ⟨j', hj', h2, _⟩
  · exact h2 j hj hj ⟨by omega, by omega⟩
  · omega
theorem perm_set {L : List Rcd} {M : List Ln} (h : (L.map entR).Perm (M.map entL)) {k j : Nat} (hk : k < L.length) (hj : j < M.length) (e : entR L[k] = entL M[j]) {r : Rcd} {y : Ln} (e' : entR r = entL y) : ((L.set k r).map entR).Perm ((M.set j y).map entL) := by
  have hk' : k < (L.map entR).length := by simpa using hk
  have hj' : j < (M.map entL).length := by simpa using hj
  rw [List.map_set, List.map_set, ← e']
  have p1 := up_perm (L.map entR) k hk'
  have p2 := up_perm (M.map entL) j hj'
  have ek : (L.map entR)[k] = (M.map entL)[j] := by simpa using e
  rw [ek] at p1
  have p3 := (p1.symm.trans (h.trans p2)).cons_inv
  exact (set_perm (L.map entR) k (entR r) hk').symm.trans ((p3.cons _).trans (set_perm (M.map entL) j (entR r) hj'))

theorem set_mem {α : Type} {l : List α} {k : Nat} {x : α} {P : α → Prop} (h : ∀ y ∈ l, P y) (hx : P x) : ∀ y ∈ l.set k x, P y := fun y hy => by
  rcases List.mem_or_eq_of_mem_set hy with h1 | rfl
  · exact h y h1
  · exact hx
/-- One device's record and line turn. -/
theorem Inv.turn {i : Nat} {L : List Rcd} {M : List Ln} (h : Inv i L M) {k j : Nat} (hk : k < L.length) (hj : j < M.length) (e : entR L[k] = entL M[j]) {r : Rcd} {y : Ln} (e' : entR r = entL y) (hu : r.u = L[k].u) (hd : r.d = L[k].d)
    (hr : (0 ≤ r.x ∧ r.x < 256) ∧ r.t < 18446744073709551616 ∧ r.ss.length ≤ 4 ∧ ∀ p ∈ r.ss, 0 ≤ p.2 ∧ p.2 < ((i + 1 : Nat) : Int)) (hy : (0 ≤ y.i ∧ y.i < 256) ∧ y.t < 18446744073709551616) (hnd : (r.ss.map (·.2)).Nodup) : Inv (i + 1) (L.set k r) (M.set j y) where
  perm := perm_set h.perm hk hj e e'
  asc := asc_set h.asc hk hu hd
  len := by rw [List.length_set]; have := h.len; omega
  rx := set_mem (fun q hq => by
    obtain ⟨h1, h2, h3, h4⟩ := h.rx q hq
    exact ⟨h1, h2, h3, fun p hp => by have := h4 p hp; omega⟩) hr
  lx := set_mem h.lx hy
  nx := set_mem h.nx (by have h0 := (h.nx _ (List.getElem_mem hk)).2; rw [hu, hd]; exact ⟨hnd, h0⟩)
theorem Inv.next {i : Nat} {L : List Rcd} {M : List Ln} (h : Inv i L M) : Inv (i + 1) L M where
  perm := h.perm
  asc := h.asc
  len := by have := h.len; omega
  rx := fun q hq => by
    obtain ⟨h1, h2, h3, h4⟩ := h.rx q hq
    exact ⟨h1, h2, h3, fun p hp => by have := h4 p hp; omega⟩
  lx := h.lx
  nx := h.nx
/-- A device comes. -/
theorem Inv.ins {i : Nat} {L : List Rcd} {M : List Ln} (h : Inv i L M) {r : Rcd} {y : Ln} (hn : ∀ x ∈ L, ¬ (x.u = r.u ∧ x.d = r.d)) (e' : entR r = entL y)
    (hr : (0 ≤ r.x ∧ r.x < 256) ∧ r.t < 18446744073709551616 ∧ r.ss = []) (hy : (0 ≤ y.i ∧ y.i < 256) ∧ y.t < 18446744073709551616) (hud : (0 ≤ r.u ∧ r.u < 65536) ∧ (0 ≤ r.d ∧ r.d < 65536)) : Inv (i + 1) (L.take (placeL (L.map re) r.u r.d) ++ r :: L.drop (placeL (L.map re) r.u r.d)) (M ++ [y]) where
  perm := by
    rw [List.map_append, List.map_cons, List.map_append, List.map_cons, List.map_nil, e']
    refine (List.perm_middle).trans ?_
    rw [← List.map_append, List.take_append_drop]
    exact (h.perm.cons _).trans (List.perm_append_singleton _ _).symm
  asc := asc_ins h.asc hn
  len := by
    have := h.len
    rw [List.length_append, List.length_cons, List.length_take, List.length_drop]
    omega
  rx := fun q hq => by
    rcases List.mem_append.1 hq with hq | hq
    · exact h.next.rx q (List.mem_of_mem_take hq)
    · rcases List.mem_cons.1 hq with rfl | hq
      · refine ⟨hr.1, hr.2.1, ?_, ?_⟩
        · rw [hr.2.2]; simp
        · rw [hr.2.2]; simp
      · exact h.next.rx q (List.mem_of_mem_drop hq)
  lx := fun q hq => by
    rcases List.mem_append.1 hq with hq | hq
    · exact h.lx q hq
    · obtain rfl : q = y := by simpa using hq
      exact hy
  nx := fun q hq => by
    rcases List.mem_append.1 hq with hq | hq
    · exact h.nx q (List.mem_of_mem_take hq)
    · rcases List.mem_cons.1 hq with rfl | hq
      · refine ⟨?_, hud⟩
        rw [hr.2.2]
        simp
      · exact h.nx q (List.mem_of_mem_drop hq)
/-- Who is kept. -/
def keepE (now long : Nat) (e : Ent) : Bool := !e.st || !overV now e.t long
theorem rkp_map (now long : Nat) (L : List Rcd) : rkp now long (L.map re) = (L.filter fun r => keepE now long (entR r)).map re := by
  unfold rkp
  rw [List.filter_map]
  congr 1
  apply List.filter_congr
  intro r _
  show (!stale now long (re r)) = _
  simp [stale, keepE, entR, re]
theorem Inv.drop {i : Nat} {L : List Rcd} {M : List Ln} (h : Inv i L M) (now long : Nat) : Inv (i + 1) (L.filter fun r => keepE now long (entR r)) (M.filter fun y => keepE now long (entL y)) where
  perm := by
    have := h.perm.filter (keepE now long)
    rwa [List.filter_map, List.filter_map] at this
  asc := h.asc.sublist List.filter_sublist
  len := by have := h.len; have := List.length_filter_le (fun r => keepE now long (entR r)) L; omega
  rx := fun q hq => h.next.rx q (List.mem_filter.1 hq).1
  lx := fun q hq => h.lx q (List.mem_filter.1 hq).1
  nx := fun q hq => h.nx q (List.mem_filter.1 hq).1
theorem inv_nil : Inv 0 [] [] where
  perm := List.Perm.refl _
  asc := List.Pairwise.nil
  len := Nat.le_refl _
  rx := by simp
  lx := by simp
  nx := by simp
/-- A new session's number is none of the old ones. -/
theorem ids_put {l : List (Nat × Int)} (Y : Nat) (i : Int) (h : (l.map (·.2)).Nodup) (hl : ∀ p ∈ l, p.2 < i) : ((((Y, i) :: l).take 4).map (·.2)).Nodup := by
  rw [List.map_take]
  refine List.Nodup.sublist (List.take_sublist _ _) ?_
  rw [List.map_cons]
  refine List.nodup_cons.2 ⟨fun hm => ?_, h⟩
  obtain ⟨p, hp, e⟩ := List.mem_map.1 hm
  have := hl p hp
  simp only at e
  omega
end Go.Proofs.Ytdlbkdnpbcpjfaa
