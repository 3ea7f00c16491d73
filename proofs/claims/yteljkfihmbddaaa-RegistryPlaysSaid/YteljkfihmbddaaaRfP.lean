/- Plain laws: the registry's lines and the reference's tell the same (layer 17). No walk. -/
import Derived.Test.YteljkfihmbddaaaRf4
import Derived.Test.YteljkfihmbddaaaRf5
set_option linter.unusedSimpArgs false
set_option linter.unusedVariables false
namespace Go.Proofs.Yteljkfihmbddaaa
open Go.RowKit Go.Pw
set_option linter.unusedVariables false

/-- Strictly rising devices. -/
def SrtW (l : List (Int × Int)) : Prop := l.Pairwise fun p q => p.1 < q.1 ∨ p.1 = q.1 ∧ p.2 < q.2
theorem srt_eq : ∀ {l m : List (Int × Int)}, SrtW l → SrtW m → (∀ p, p ∈ l ↔ p ∈ m) → l = m
  | [], [], _, _, _ => rfl
  | [], q :: m, _, _, h => absurd ((h q).2 (by simp)) (by simp)
  | p :: l, [], _, _, h => absurd ((h p).1 (by simp)) (by simp)
  | p :: l, q :: m, hl, hm, h => by
    have hl' := List.pairwise_cons.1 hl
    have hm' := List.pairwise_cons.1 hm
    have e : p = q := by
      rcases List.mem_cons.1 ((h p).1 (by simp)) with e | e
      · exact e
      · rcases List.mem_cons.1 ((h q).2 (by simp)) with e' | e'
        · exact e'.symm
        · have h1 := hm'.1 p e
          have h2 := hl'.1 q e'
          omega
    subst e
    have : l = m := srt_eq hl'.2 hm'.2 fun r => by
      constructor
      · intro hr
        rcases List.mem_cons.1 ((h r).1 (by simp [hr])) with e | e
        · subst e
          have := hl'.1 r hr
          omega
        · exact e
      · intro hr
        rcases List.mem_cons.1 ((h r).2 (by simp [hr])) with e | e
        · subst e
          have := hm'.1 r hr
          omega
        · exact e
    rw [this]
theorem insW_mem (l : List (Int × Int)) (p q : Int × Int) : q ∈ insW l p ↔ q = p ∨ q ∈ l := by
  unfold insW
  rw [List.mem_append, List.mem_cons]
  constructor
  · rintro (h | h | h)
    · exact .inr (List.mem_of_mem_take h)
    · exact .inl h
    · exact .inr (List.mem_of_mem_drop h)
  · rintro (h | h)
    · exact .inr (.inl h)
    · rw [← List.take_append_drop (plW l p) l] at h
      rcases List.mem_append.1 h with h | h
      · exact .inl h
      · exact .inr (.inr h)
theorem insW_srt {l : List (Int × Int)} (h : SrtW l) {p : Int × Int} (hp : p ∉ l) : SrtW (insW l p) := by
  have hlo : ∀ j (hj : j < l.length), j < plW l p → (l[j].1 < p.1 ∨ l[j].1 = p.1 ∧ l[j].2 < p.2) := fun j hj hlt => by
    have := plW_lt hlt hj
    simpa [ahW] using this
  have hhi : ∀ j (hj : j < l.length), plW l p ≤ j → (p.1 < l[j].1 ∨ p.1 = l[j].1 ∧ p.2 < l[j].2) := fun j hj hle => by
    have hpl : plW l p < l.length := by omega
    have h1 := plW_at hpl
    have h2 : l[plW l p] ≠ p := fun e => hp (e ▸ List.getElem_mem hpl)
    have h3 : ¬ (l[plW l p].1 < p.1 ∨ l[plW l p].1 = p.1 ∧ l[plW l p].2 < p.2) := by simpa [ahW] using h1
    have h4 : ¬ (l[plW l p].1 = p.1 ∧ l[plW l p].2 = p.2) := fun e => h2 (Prod.ext e.1 e.2)
    rcases Nat.lt_or_ge (plW l p) j with c | c
    · have := List.pairwise_iff_getElem.1 h (plW l p) j hpl hj c
      omega
    · obtain rfl : j = plW l p := by omega
      omega
  unfold insW
  refine List.pairwise_append.2 ⟨h.sublist (List.take_sublist _ _), List.pairwise_cons.2 ⟨fun b hb => ?_, h.sublist (List.drop_sublist _ _)⟩, fun a ha b hb => ?_⟩
  · obtain ⟨j, hj, rfl⟩ := List.mem_iff_getElem.1 hb
    rw [List.length_drop] at hj
    rw [List.getElem_drop]
    exact hhi _ (by omega) (by omega)
  · obtain ⟨j, hj, rfl⟩ := List.mem_iff_getElem.1 ha
    rw [List.length_take] at hj
    rw [List.getElem_take]
    have h1 := hlo j (by omega) (by omega)
    rcases List.mem_cons.1 hb with rfl | hb
    · exact h1
    · obtain ⟨m, hm, rfl⟩ := List.mem_iff_getElem.1 hb
      rw [List.length_drop] at hm
      rw [List.getElem_drop]
      exact List.pairwise_iff_getElem.1 h j (plW l p + m) (by omega) (by omega) (by omega)
theorem fold_srt : ∀ (l acc : List (Int × Int)), SrtW acc → l.Nodup → (∀ p ∈ l, p ∉ acc) → SrtW (l.foldl insW acc) ∧ ∀ q, q ∈ l.foldl insW acc ↔ q ∈ acc ∨ q ∈ l
  | [], acc, h, _, _ => ⟨h, fun q => by simp⟩
  | p :: l, acc, h, hn, hd => by
    have hn' := List.nodup_cons.1 hn
    have h1 := insW_srt h (hd p (by simp))
    obtain ⟨h2, h3⟩ := fold_srt l (insW acc p) h1 hn'.2 fun q hq hq2 => by
      rcases (insW_mem _ _ _).1 hq2 with rfl | hq3
      · exact hn'.1 hq
      · exact hd q (by simp [hq]) hq3
    refine ⟨h2, fun q => ?_⟩
    rw [List.foldl_cons, h3, insW_mem, List.mem_cons]
    constructor
    · rintro ((h | h) | h)
      · exact .inr (.inl h)
      · exact .inl h
      · exact .inr (.inr h)
    · rintro (h | h | h)
      · exact .inl (.inr h)
      · exact .inl (.inl h)
      · exact .inr h
theorem srt_nodup {l : List (Int × Int)} (h : SrtW l) : l.Nodup := List.Pairwise.imp (fun hab e => by subst e; omega) h
/-- Devices in any order, made rising. -/
theorem rise_eq {ws vs : List (Int × Int)} (hp : ws.Perm vs) (hs : SrtW vs) : riseL ws = vs := by
  have hn : ws.Nodup := hp.symm.nodup (srt_nodup hs)
  obtain ⟨h1, h2⟩ := fold_srt ws [] List.Pairwise.nil hn (by simp)
  exact srt_eq h1 hs fun q => by
    show q ∈ ws.foldl insW [] ↔ _
    rw [h2]
    simp [hp.mem_iff]

/-- What both sides tell of a device. -/
structure En where
  u : Int
  d : Int
  on : Bool
  b : Bu
  os : List Bu
def enL (x : Li) : En := ⟨x.u, x.d, x.on, x.b, x.os⟩
def enR (y : Rl) : En := ⟨y.u, y.d, y.on, y.b, y.os⟩
def ekey (e : En) : Int × Int := (e.u, e.d)
structure RInv (l : List Li) (ms : List Rl) : Prop where
  perm : (l.map enL).Perm (ms.map enR)
  strict : Strict l
theorem strict_srt {l : List Li} (h : Strict l) : SrtW (l.map key) := by
  refine List.pairwise_map.2 (List.pairwise_iff_getElem.2 fun i j hi hj hij => ?_)
  have := h i j hij hj
  rw [cmpW_neg] at this
  exact this
theorem RInv.len {l : List Li} {ms : List Rl} (h : RInv l ms) : ms.length = l.length := by simpa using h.perm.length_eq.symm
theorem RInv.filt {l : List Li} {ms : List Rl} (h : RInv l ms) (p : En → Bool) : ((ms.filter fun y => p (enR y)).map rkey).Perm ((l.filter fun x => p (enL x)).map key) := by
  have h1 := (h.perm.filter p).map ekey
  rw [List.filter_map, List.filter_map, List.map_map, List.map_map] at h1
  exact h1.symm
theorem RInv.rise {l : List Li} {ms : List Rl} (h : RInv l ms) (p : En → Bool) : riseL ((ms.filter fun y => p (enR y)).map rkey) = (l.filter fun x => p (enL x)).map key :=
  rise_eq (h.filt p) ((strict_srt h.strict).sublist (List.filter_sublist.map _))
theorem RInv.list {l : List Li} {ms : List Rl} (h : RInv l ms) (user : Int) : riseL (rkl ms user) = listL l user := by
  rw [listL_eq h.strict]
  have h1 := h.rise fun e => e.on && e.u == user
  have e : (l.filter fun x => x.u == user && x.on) = (l.filter fun x => (enL x).on && (enL x).u == user) := by
    apply List.filter_congr
    intro x _
    show (x.u == user && x.on) = (x.on && x.u == user)
    rw [Bool.and_comm]
  rw [e]
  exact h1
theorem RInv.all {l : List Li} {ms : List Rl} (h : RInv l ms) : riseL (ms.map rkey) = keys l := by
  have h1 := h.rise fun _ => true
  rw [List.filter_eq_self.2 (by simp), List.filter_eq_self.2 (by simp)] at h1
  exact h1
theorem RInv.aud {l : List Li} {ms : List Rl} (h : RInv l ms) (fu fd tu : Int) : riseL (rau ms fu fd tu) = audL l fu fd tu := by
  have h1 := h.rise fun e => e.on && !(e.u == fu && e.d == fd) && (e.u == tu || e.u == fu)
  refine Eq.trans h1 ?_
  show _ = (l.map key).filter (audF l fu fd tu)
  rw [List.filter_map]
  congr 1
  apply List.filter_congr
  intro x hx
  obtain ⟨i, hi, rfl⟩ := List.mem_iff_getElem.1 hx
  show _ = (isL l l[i].u l[i].d && (!(l[i].u == fu && l[i].d == fd) && (l[i].u == tu || l[i].u == fu)))
  rw [isL_self h.strict hi, Bool.and_assoc]
  rfl
theorem RInv.cnt {l : List Li} {ms : List Rl} (h : RInv l ms) (user : Int) : rcn ms user = cntL l user := by
  rw [cntL_eq]
  have h1 := (h.filt fun e => e.u == user).length_eq
  rw [List.length_map, List.length_map] at h1
  exact h1
theorem RInv.next {l : List Li} {ms : List Rl} (h : RInv l ms) (user : Int) : rnx ms user = nextD l user := by
  unfold rnx nextD
  rw [h.list, h.cnt]
/-- Where a device stands on both sides. -/
theorem rfp_at {ms : List Rl} (hn : (ms.map rkey).Nodup) {j : Nat} (hj : j < ms.length) : rfp ms ms[j].u ms[j].d = j ∧ ris ms ms[j].u ms[j].d = ms[j].on := by
  have h1 := rfi_hit hj ⟨rfl, rfl⟩ (fun i hi hij e => by
    have h2 := List.pairwise_iff_getElem.1 hn i j (by simpa using hi) (by simpa using hj) hij
    simp only [List.getElem_map, rkey] at h2
    exact h2 (Prod.ext e.1 e.2))
  refine ⟨h1.1, ?_⟩
  unfold ris
  rw [h1.1, List.getElem?_eq_getElem hj]
theorem RInv.nodup {l : List Li} {ms : List Rl} (h : RInv l ms) : (ms.map rkey).Nodup := by
  have h1 := h.filt fun _ => true
  rw [List.filter_eq_self.2 (by simp), List.filter_eq_self.2 (by simp)] at h1
  exact h1.symm.nodup (srt_nodup (strict_srt h.strict))
theorem RInv.both {l : List Li} {ms : List Rl} (h : RInv l ms) {k : Nat} (hk : k < l.length) : ∃ j, ∃ hj : j < ms.length, enL l[k] = enR ms[j] := by
  have : enL l[k] ∈ ms.map enR := h.perm.mem_iff.1 (List.mem_map.2 ⟨_, List.getElem_mem hk, rfl⟩)
  obtain ⟨y, hy, e⟩ := List.mem_map.1 this
  obtain ⟨j, hj, rfl⟩ := List.mem_iff_getElem.1 hy
  exact ⟨j, hj, e.symm⟩
theorem RInv.back {l : List Li} {ms : List Rl} (h : RInv l ms) {j : Nat} (hj : j < ms.length) : ∃ k, ∃ hk : k < l.length, enL l[k] = enR ms[j] := by
  have : enR ms[j] ∈ l.map enL := h.perm.mem_iff.2 (List.mem_map.2 ⟨_, List.getElem_mem hj, rfl⟩)
  obtain ⟨y, hy, e⟩ := List.mem_map.1 this
  obtain ⟨k, hk, rfl⟩ := List.mem_iff_getElem.1 hy
  exact ⟨k, hk, e⟩
theorem RInv.is {l : List Li} {ms : List Rl} (h : RInv l ms) (u d : Int) : ris ms u d = isL l u d := by
  by_cases hf : rfp ms u d < ms.length
  · have h1 := of_decide_eq_true (List.findIdx_getElem (w := hf))
    obtain ⟨hu, hd⟩ := h1
    obtain ⟨k, hk, e⟩ := h.back hf
    have e1 : l[k].u = (ms[rfp ms u d]'hf).u := congrArg En.u e
    have e2 : l[k].d = (ms[rfp ms u d]'hf).d := congrArg En.d e
    have e3 : l[k].on = (ms[rfp ms u d]'hf).on := congrArg En.on e
    have h2 := isL_self h.strict hk
    have h3 := (rfp_at h.nodup hf).2
    have eu : (ms[rfp ms u d]'hf).u = u := hu
    have ed : (ms[rfp ms u d]'hf).d = d := hd
    rw [eu] at h3 e1
    rw [ed] at h3 e2
    rw [e1, e2, e3] at h2
    rw [h2, h3]
  · have hr : ris ms u d = false := by unfold ris; rw [List.getElem?_eq_none (by omega)]
    rw [hr]
    have hn : ∀ x ∈ l, ¬ (x.u = u ∧ x.d = d) := fun x hx e => by
      obtain ⟨k, hk, rfl⟩ := List.mem_iff_getElem.1 hx
      obtain ⟨j, hj, e'⟩ := h.both hk
      have e1 : l[k].u = ms[j].u := congrArg En.u e'
      have e2 : l[k].d = ms[j].d := congrArg En.d e'
      have h1 := (rfp_at h.nodup hj).1
      rw [← e1, ← e2, e.1, e.2] at h1
      omega
    unfold isL
    rw [not_found hn]
    rfl
/-- One device's lines turn on both sides. -/
theorem RInv.turn {l : List Li} {ms : List Rl} (h : RInv l ms) {k j : Nat} (hk : k < l.length) (hj : j < ms.length) (e : enL l[k] = enR ms[j]) {x : Li} {y : Rl} (e' : enL x = enR y) (hu : x.u = l[k].u) (hd : x.d = l[k].d) : RInv (l.set k x) (ms.set j y) where
  perm := by
    have hk' : k < (l.map enL).length := by simpa using hk
    have hj' : j < (ms.map enR).length := by simpa using hj
    rw [List.map_set, List.map_set, ← e']
    have p1 := up_perm (l.map enL) k hk'
    have p2 := up_perm (ms.map enR) j hj'
    have ek : (l.map enL)[k] = (ms.map enR)[j] := by simpa using e
    rw [ek] at p1
    have p3 := (p1.symm.trans (h.perm.trans p2)).cons_inv
    exact (set_perm (l.map enL) k (enL x) hk').symm.trans ((p3.cons _).trans (set_perm (ms.map enR) j (enL x) hj'))
  strict := strict_set h.strict hk hu hd
/-- A device comes on both sides. -/
theorem RInv.ins {l : List Li} {ms : List Rl} (h : RInv l ms) {x : Li} {y : Rl} (e' : enL x = enR y) (hn : ∀ z ∈ l, ¬ (z.u = x.u ∧ z.d = x.d)) : RInv (insL l x) (ms ++ [y]) where
  perm := by
    unfold insL
    rw [List.map_append, List.map_cons, List.map_append, List.map_cons, List.map_nil, e']
    refine (List.perm_middle).trans ?_
    rw [← List.map_append, List.take_append_drop]
    exact (h.perm.cons _).trans (List.perm_append_singleton _ _).symm
  strict := strict_ins h.strict hn
end Go.Proofs.Yteljkfihmbddaaa
