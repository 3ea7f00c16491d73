/- Several texts in one: Bk, Bk2, Bk3, Bk4. -/
import Derived.Test.YtdlbkdnpbcpjfaaCmp
import Derived.Test.YtdlbkdnpbcpjfaaPa
import Derived.Deep.Cut
set_option linter.unusedSimpArgs false
set_option linter.unusedVariables false
/- The book of layer 16 (record): its records, the search. -/
namespace Go.Proofs.Ytdlbkdnpbcpjfaa
open Go.RowKit Go.Pw
set_option linter.unusedVariables false

/-- A record as it lies. -/
structure Re where
  u : Int
  d : Int
  a1 : Option Addr
  n1 : Nat
  c1 : Nat
  a2 : Option Addr
  n2 : Nat
  c2 : Nat
  q : Option Addr
  st : Bool
  t : Nat
def rc (r : Re) : List Value := [.int .i64 r.u, .int .i64 r.d, .slice r.a1 r.n1 r.c1, .slice r.a2 r.n2 r.c2, .pointer r.q, .bool r.st, .float .f64 r.t]
def rv (r : Re) : Value := .agg #[.int .i64 r.u, .int .i64 r.d, .slice r.a1 r.n1 r.c1, .slice r.a2 r.n2 r.c2, .pointer r.q, .bool r.st, .float .f64 r.t]
def wv (u d : Int) : Value := .agg #[.int .i64 u, .int .i64 d]

set_option maxRecDepth 100000 in
set_option maxHeartbeats 800000 in
theorem finds_any (r : Re) (u d : Int) (w : World) :
    Calls Try.prog 57 #[rv r, wv u d] w fun e w' => e = .returned (.int .i64 (cmpW r.u r.d u d)) ∧ Only w w' [] := by
  obtain ⟨ru, rd, a1, n1, c1, a2, n2, c2, q, st, t⟩ := r
  simp only [rv, wv]
  go_enter Try.func57, Try.ntmps57
  go_wp2_with fail
  refine (compare_any ru rd u d _).mono ?_
  rintro e w1 ⟨rfl, ho⟩
  go_wp2_with fail
  go_ret
  exact ⟨rfl, ((Only.alloc _ _ _).trans (Only.alloc _ _ _)).trans ho⟩

theorem rc_len (r : Re) : (rc r).length = 7 := rfl
theorem rec_at {w : World} {g c : Nat} {l : List Re} (h : w.ownsRow 0 36 7 (.slice (some ⟨g, 0, none⟩) l.length c) l.length (fl rc l)) {k : Nat} (hk : k < l.length) :
    w.cell? ⟨g, k * 7, none⟩ = some (.int .i64 l[k].u) ∧ w.cell? ⟨g, k * 7 + 1, none⟩ = some (.int .i64 l[k].d) ∧ w.cell? ⟨g, k * 7 + 2, none⟩ = some (.slice l[k].a1 l[k].n1 l[k].c1) ∧ w.cell? ⟨g, k * 7 + 3, none⟩ = some (.slice l[k].a2 l[k].n2 l[k].c2) ∧ w.cell? ⟨g, k * 7 + 4, none⟩ = some (.pointer l[k].q) ∧ w.cell? ⟨g, k * 7 + 5, none⟩ = some (.bool l[k].st) ∧ w.cell? ⟨g, k * 7 + 6, none⟩ = some (.float .f64 l[k].t) := by
  have H := fun j (hj : j < 7) => (h.cellAt (k * 7 + j) (by omega)).trans (fl_at (enc := rc) rc_len hk hj)
  exact ⟨H 0 (by omega), H 1 (by omega), H 2 (by omega), H 3 (by omega), H 4 (by omega), H 5 (by omega), H 6 (by omega)⟩

/-- Rising: whoever stands ahead stands ahead. -/
def Rise (l : List Re) : Prop := ∀ (u d : Int) (i j : Nat) (hi : i < j) (hj : j < l.length), cmpW l[j].u l[j].d u d < 0 → cmpW (l[i]'(by omega)).u (l[i]'(by omega)).d u d < 0

def placeL (l : List Re) (u d : Int) : Nat := l.findIdx fun r => decide (0 ≤ cmpW r.u r.d u d)
def foundL (l : List Re) (u d : Int) : Bool := match l[placeL l u d]? with
  | none => false
  | some r => cmpW r.u r.d u d == 0

set_option maxRecDepth 100000 in
set_option maxHeartbeats 3200000 in
theorem search_any {w0 : World} {rs : List Res} (l : List Re) (v : Value) (u d : Int) (w : World) (h : Sep w0 w (row 36 7 v l.length (fl rc l) :: rs)) (hl : l.length ≤ 1000000) (hr : Rise l) :
    Calls Try.prog 56 #[v, wv u d, .func (.func 57) #[] #[]] w fun e w' => e = .returned (.tuple #[.int .i64 (placeL l u d), .bool (foundL l u d)]) ∧ Only w w' [] := by
  obtain ⟨ao, c, rfl⟩ := own_slice (show w.ownsRow 0 _ 7 v l.length (fl rc l) from h.head)
  simp only [wv]
  have hW : (w.alloc (.cells #[.int .i64 u, .int .i64 d] 26)).heap[w.heap.size]? = some (.cells #[.int .i64 u, .int .i64 d] 26 (0, 0)) := heap_alloc_new w _
  have s1 := h.quiet (Only.alloc w (.cells #[.int .i64 u, .int .i64 d] 26) [])
  have o1 := Only.alloc w (.cells #[.int .i64 u, .int .i64 d] 26) []
  have HR := Lib.hid hr
  clear h hr
  go_enter Try.func56, Try.ntmps56
  go_wp2_with fail
  generalize w.alloc (.cells #[.int .i64 u, .int .i64 d] 26) = W at *
  generalize w.heap.size = A at *
  go_loopw [9, 10] (fun x y wr => ∃ i j : Nat, x = .int .i64 i ∧ y = .int .i64 j ∧ i ≤ j ∧ j ≤ l.length ∧ Hid (∀ k (hk : k < l.length), k < i → cmpW l[k].u l[k].d u d < 0) ∧ Hid (∀ k (hk : k < l.length), j ≤ k → 0 ≤ cmpW l[k].u l[k].d u d) ∧ Only W wr []) (fun x y _ => (intOf y).toNat - (intOf x).toNat)
  case atStart => exact ⟨0, l.length, rfl, rfl, Nat.zero_le _, Nat.le_refl _, fun k hk h => by omega, fun k hk h => by omega, Only.refl _ _⟩
  case round =>
    obtain ⟨i, j, rfl, rfl, hij, hj, hlo, hhi, ho⟩ := hrel
    by_cases hlt : i < j
    · have d1 : decide ((i : Int) < j) = true := by simpa using hlt
      obtain ⟨m, hm⟩ : ∃ m, m = (i + j) / 2 := ⟨_, rfl⟩
      have em : ((i : Int) + j) / 2 = m := by omega
      have him : i ≤ m := by omega
      have hmj : m < j := by omega
      have hml : m < l.length := by omega
      obtain ⟨g, rfl, _⟩ := own_some (show W.ownsRow 0 _ 7 (.slice ao l.length c) l.length (fl rc l) from s1.head) (by omega)
      have hcell : ∀ w', Only wr.drew w' [] → w'.cell? ⟨g, m * 7, none⟩ = some (.int .i64 l[m].u) ∧ w'.cell? ⟨g, m * 7 + 1, none⟩ = some (.int .i64 l[m].d) ∧ w'.cell? ⟨g, m * 7 + 2, none⟩ = some (.slice l[m].a1 l[m].n1 l[m].c1) ∧ w'.cell? ⟨g, m * 7 + 3, none⟩ = some (.slice l[m].a2 l[m].n2 l[m].c2) ∧ w'.cell? ⟨g, m * 7 + 4, none⟩ = some (.pointer l[m].q) ∧ w'.cell? ⟨g, m * 7 + 5, none⟩ = some (.bool l[m].st) ∧ w'.cell? ⟨g, m * 7 + 6, none⟩ = some (.float .f64 l[m].t) :=
        fun w' hS => rec_at (s1.quiet (ho.trans ((Only.drew wr []).trans hS))).head hml
      have htar : ∀ w', Only wr.drew w' [] → w'.cell? ⟨A, 0, none⟩ = some (.int .i64 u) ∧ w'.cell? ⟨A, 1, none⟩ = some (.int .i64 d) := fun w' hS => by
        have := (ho.trans ((Only.drew wr []).trans hS)).at hW (by simp)
        exact ⟨cell_two0 this, cell_two1 this⟩
      have hup : Hid (cmpW l[m].u l[m].d u d < 0 → ∀ k (hk : k < l.length), k < m + 1 → cmpW l[k].u l[k].d u d < 0) := fun hx k hk hkm => by
        by_cases e : k = m
        · subst e; exact hx
        · exact HR.out u d k m (by omega) hml hx
      have hdn : Hid (0 ≤ cmpW l[m].u l[m].d u d → ∀ k (hk : k < l.length), m ≤ k → 0 ≤ cmpW l[k].u l[k].d u d) := fun hx k hk hkm => by
        by_cases e : k = m
        · subst e; exact hx
        · by_cases h0 : cmpW l[k].u l[k].d u d < 0
          · exact absurd (HR.out u d m k (by omega) hk h0) (by omega)
          · omega
      generalize l[m] = x at *
      obtain ⟨xu, xd, a1, n1, c1, a2, n2, c2, q, st, t⟩ := x
      simp only at hcell hup hdn
      have HE := Lib.hid em
      clear em hm
      go_upto_region 5 with fail
      rw [HE.out]
      refine wp_region_held_drew (S := fun w' => Only wr.drew w' []) (by kernel_rfl) (Only.refl _ _) (fun hHeld => ?_)
      refine' wpAnyH_take (i := 0) (v := _) (op_at rfl) (by kernel_rfl) (by kernel_rfl) (by kernel_rfl) (fun _ _ _ h => h) (Or.inl ⟨by rfl, ?hy1⟩) (by assumption) ?rest1
      case hy1 =>
        intro w' hS
        go_simp
        try with_reducible rfl
      try simp only [Act.put, List.setIfInBounds_toArray, List.set_cons_zero, List.set_cons_succ]
      refine' wpAnyH_take (i := 1) (v := _) (op_at rfl) (by kernel_rfl) (by kernel_rfl) (by kernel_rfl) (fun _ _ _ h => h) (Or.inl ⟨by rfl, ?hy2⟩) (by assumption) ?rest2
      case hy2 =>
        intro w' hS
        go_simp
        try with_reducible rfl
      try simp only [Act.put, List.setIfInBounds_toArray, List.set_cons_zero, List.set_cons_succ]
      refine' wpAnyH_take (i := 2) (v := _) (op_at rfl) (by kernel_rfl) (by kernel_rfl) (by kernel_rfl) (fun _ _ _ h => h) (Or.inl ⟨by rfl, ?hy3⟩) (by assumption) ?rest3
      case hy3 =>
        intro w' hS
        go_simp
        try with_reducible rfl
      try simp only [Act.put, List.setIfInBounds_toArray, List.set_cons_zero, List.set_cons_succ]
      refine' wpAnyH_take (i := 3) (v := _) (op_at rfl) (by kernel_rfl) (by kernel_rfl) (by kernel_rfl) (fun _ _ _ h => h) (Or.inl ⟨by rfl, ?hy4⟩) (by assumption) ?rest4
      case hy4 =>
        intro w' hS
        go_simp
        try with_reducible rfl
      try simp only [Act.put, List.setIfInBounds_toArray, List.set_cons_zero, List.set_cons_succ]
      refine' wpAnyH_take (i := 4) (v := _) (op_at rfl) (by kernel_rfl) (by kernel_rfl) (by kernel_rfl) (fun _ _ _ h => h) (Or.inl ⟨by rfl, ?hy5⟩) (by assumption) ?rest5
      case hy5 =>
        intro w' hS
        obtain ⟨hc0, hc1, hc2, hc3, hc4, hc5, hc6⟩ := hcell w' hS
        go_simp
        try with_reducible rfl
      try simp only [Act.put, List.setIfInBounds_toArray, List.set_cons_zero, List.set_cons_succ]
      refine' wpAnyH_take (i := 5) (v := _) (op_at rfl) (by kernel_rfl) (by kernel_rfl) (by kernel_rfl) (fun _ _ _ h => h) (Or.inl ⟨by rfl, ?hy6⟩) (by assumption) ?rest6
      case hy6 =>
        intro w' hS
        obtain ⟨ht0, ht1⟩ := htar w' hS
        go_simp
        try with_reducible rfl
      try simp only [Act.put, List.setIfInBounds_toArray, List.set_cons_zero, List.set_cons_succ]
      refine wpAnyH_ready (rs := [6]) (by kernel_rfl) (by simp) (AllReadyH.cons (op_at rfl) (fun K hK => ?_) AllReadyH.nil)
      go_simp
      refine (finds_any ⟨xu, xd, a1, n1, c1, a2, n2, c2, q, st, t⟩ u d _).mono fun e w3 hq => ?_
      obtain ⟨rfl, o3⟩ := hq
      go_wp2_with fail
      refine hK.out _ _ o3 (fun hHeld => ?_)
      clear hK K
      try simp only [Act.put, List.setIfInBounds_toArray, List.set_cons_zero, List.set_cons_succ]
      refine wpAnyH_more (S' := fun w' => Only w3 w' []) (fun w' h => Only.trans o3 h) _ _ _ _ ?_
      clear hHeld
      have hHeld : Only w3 w3 [] := Only.refl _ _
      refine' wpAnyH_take (i := 7) (v := _) (op_at rfl) (by kernel_rfl) (by kernel_rfl) (by kernel_rfl) (fun _ _ _ h => h) (Or.inl ⟨by rfl, ?hy7⟩) (by assumption) ?rest7
      case hy7 =>
        intro w' hS
        go_simp
        try with_reducible rfl
      try simp only [Act.put, List.setIfInBounds_toArray, List.set_cons_zero, List.set_cons_succ]
      refine wpAnyH_done (by kernel_rfl) ?_ _
      by_cases hx : cmpW xu xd u d < 0
      · have d2 : decide (cmpW xu xd u d < 0) = true := by simpa using hx
        have HU := Lib.hid (hup.out hx)
        clear hup hdn
        go_wp2_with fail
        refine ⟨⟨m + 1, j, by simp, rfl, by omega, hj, HU.out, hhi, (ho.trans (Only.drew wr [])).trans (o3.trans hHeld)⟩, by simp [intOf]; omega⟩
      · have d2 : decide (cmpW xu xd u d < 0) = false := by simpa using hx
        have HU := Lib.hid (hdn.out (by omega))
        clear hup hdn
        go_wp2_with fail
        refine ⟨⟨i, m, rfl, rfl, him, by omega, hlo, HU.out, (ho.trans (Only.drew wr [])).trans (o3.trans hHeld)⟩, by simp [intOf]; omega⟩
    · obtain rfl : i = j := by omega
      have d1 : decide ((i : Int) < i) = false := by simp
      have hpl : Hid (placeL l u d = i) := by
        show placeL l u d = i
        unfold placeL
        by_cases h : i < l.length
        · rw [List.findIdx_eq h]
          refine ⟨by simpa using hhi.out i h (Nat.le_refl _), fun k hk => ?_⟩
          have := hlo.out k (by omega) hk
          simp only [decide_eq_false_iff_not]
          omega
        · obtain rfl : i = l.length := by omega
          rw [List.findIdx_eq_length]
          intro r hr
          obtain ⟨k, hk, rfl⟩ := List.mem_iff_getElem.1 hr
          have := hlo.out k hk hk
          simp only [decide_eq_false_iff_not]
          omega
      by_cases hml : i < l.length
      · have d2 : decide ((i : Int) < l.length) = true := by simpa using hml
        obtain ⟨g, rfl, _⟩ := own_some (show W.ownsRow 0 _ 7 (.slice ao l.length c) l.length (fl rc l) from s1.head) (by omega)
        have hcell : ∀ w', Only wr.drew w' [] → w'.cell? ⟨g, i * 7, none⟩ = some (.int .i64 l[i].u) ∧ w'.cell? ⟨g, i * 7 + 1, none⟩ = some (.int .i64 l[i].d) ∧ w'.cell? ⟨g, i * 7 + 2, none⟩ = some (.slice l[i].a1 l[i].n1 l[i].c1) ∧ w'.cell? ⟨g, i * 7 + 3, none⟩ = some (.slice l[i].a2 l[i].n2 l[i].c2) ∧ w'.cell? ⟨g, i * 7 + 4, none⟩ = some (.pointer l[i].q) ∧ w'.cell? ⟨g, i * 7 + 5, none⟩ = some (.bool l[i].st) ∧ w'.cell? ⟨g, i * 7 + 6, none⟩ = some (.float .f64 l[i].t) :=
          fun w' hS => rec_at (s1.quiet (ho.trans ((Only.drew wr []).trans hS))).head hml
        have htar : ∀ w', Only wr.drew w' [] → w'.cell? ⟨A, 0, none⟩ = some (.int .i64 u) ∧ w'.cell? ⟨A, 1, none⟩ = some (.int .i64 d) := fun w' hS => by
          have := (ho.trans ((Only.drew wr []).trans hS)).at hW (by simp)
          exact ⟨cell_two0 this, cell_two1 this⟩
        have hfd : Hid (foundL l u d = (cmpW l[i].u l[i].d u d == 0)) := by
          show foundL l u d = _
          unfold foundL
          rw [hpl.out, List.getElem?_eq_getElem hml]
        generalize l[i] = x at *
        obtain ⟨xu, xd, a1, n1, c1, a2, n2, c2, q, st, t⟩ := x
        simp only at hcell hfd
        go_upto_region 8 with fail
        refine wp_region_held_drew (S := fun w' => Only wr.drew w' []) (by kernel_rfl) (Only.refl _ _) (fun hHeld => ?_)
        refine' wpAnyH_take (i := 0) (v := _) (op_at rfl) (by kernel_rfl) (by kernel_rfl) (by kernel_rfl) (fun _ _ _ h => h) (Or.inl ⟨by rfl, ?hy8⟩) (by assumption) ?rest8
        case hy8 =>
          intro w' hS
          go_simp
          try with_reducible rfl
        try simp only [Act.put, List.setIfInBounds_toArray, List.set_cons_zero, List.set_cons_succ]
        refine' wpAnyH_take (i := 1) (v := _) (op_at rfl) (by kernel_rfl) (by kernel_rfl) (by kernel_rfl) (fun _ _ _ h => h) (Or.inl ⟨by rfl, ?hy9⟩) (by assumption) ?rest9
        case hy9 =>
          intro w' hS
          go_simp
          try with_reducible rfl
        try simp only [Act.put, List.setIfInBounds_toArray, List.set_cons_zero, List.set_cons_succ]
        refine' wpAnyH_take (i := 2) (v := _) (op_at rfl) (by kernel_rfl) (by kernel_rfl) (by kernel_rfl) (fun _ _ _ h => h) (Or.inl ⟨by rfl, ?hy10⟩) (by assumption) ?rest10
        case hy10 =>
          intro w' hS
          go_simp
          try with_reducible rfl
        try simp only [Act.put, List.setIfInBounds_toArray, List.set_cons_zero, List.set_cons_succ]
        refine' wpAnyH_take (i := 3) (v := _) (op_at rfl) (by kernel_rfl) (by kernel_rfl) (by kernel_rfl) (fun _ _ _ h => h) (Or.inl ⟨by rfl, ?hy11⟩) (by assumption) ?rest11
        case hy11 =>
          intro w' hS
          go_simp
          try with_reducible rfl
        try simp only [Act.put, List.setIfInBounds_toArray, List.set_cons_zero, List.set_cons_succ]
        refine' wpAnyH_take (i := 4) (v := _) (op_at rfl) (by kernel_rfl) (by kernel_rfl) (by kernel_rfl) (fun _ _ _ h => h) (Or.inl ⟨by rfl, ?hy12⟩) (by assumption) ?rest12
        case hy12 =>
          intro w' hS
          go_simp
          try with_reducible rfl
        try simp only [Act.put, List.setIfInBounds_toArray, List.set_cons_zero, List.set_cons_succ]
        refine' wpAnyH_take (i := 5) (v := _) (op_at rfl) (by kernel_rfl) (by kernel_rfl) (by kernel_rfl) (fun _ _ _ h => h) (Or.inl ⟨by rfl, ?hy13⟩) (by assumption) ?rest13
        case hy13 =>
          intro w' hS
          go_simp
          try with_reducible rfl
        try simp only [Act.put, List.setIfInBounds_toArray, List.set_cons_zero, List.set_cons_succ]
        refine' wpAnyH_take (i := 6) (v := _) (op_at rfl) (by kernel_rfl) (by kernel_rfl) (by kernel_rfl) (fun _ _ _ h => h) (Or.inl ⟨by rfl, ?hy14⟩) (by assumption) ?rest14
        case hy14 =>
          intro w' hS
          go_simp
          try with_reducible rfl
        try simp only [Act.put, List.setIfInBounds_toArray, List.set_cons_zero, List.set_cons_succ]
        refine' wpAnyH_take (i := 7) (v := _) (op_at rfl) (by kernel_rfl) (by kernel_rfl) (by kernel_rfl) (fun _ _ _ h => h) (Or.inl ⟨by rfl, ?hy15⟩) (by assumption) ?rest15
        case hy15 =>
          intro w' hS
          go_simp
          try with_reducible rfl
        try simp only [Act.put, List.setIfInBounds_toArray, List.set_cons_zero, List.set_cons_succ]
        refine' wpAnyH_take (i := 8) (v := _) (op_at rfl) (by kernel_rfl) (by kernel_rfl) (by kernel_rfl) (fun _ _ _ h => h) (Or.inl ⟨by rfl, ?hy16⟩) (by assumption) ?rest16
        case hy16 =>
          intro w' hS
          go_simp
          try with_reducible rfl
        try simp only [Act.put, List.setIfInBounds_toArray, List.set_cons_zero, List.set_cons_succ]
        refine' wpAnyH_take (i := 9) (v := _) (op_at rfl) (by kernel_rfl) (by kernel_rfl) (by kernel_rfl) (fun _ _ _ h => h) (Or.inl ⟨by rfl, ?hy17⟩) (by assumption) ?rest17
        case hy17 =>
          intro w' hS
          obtain ⟨hc0, hc1, hc2, hc3, hc4, hc5, hc6⟩ := hcell w' hS
          go_simp
          try with_reducible rfl
        try simp only [Act.put, List.setIfInBounds_toArray, List.set_cons_zero, List.set_cons_succ]
        refine' wpAnyH_take (i := 10) (v := _) (op_at rfl) (by kernel_rfl) (by kernel_rfl) (by kernel_rfl) (fun _ _ _ h => h) (Or.inl ⟨by rfl, ?hy18⟩) (by assumption) ?rest18
        case hy18 =>
          intro w' hS
          obtain ⟨ht0, ht1⟩ := htar w' hS
          go_simp
          try with_reducible rfl
        try simp only [Act.put, List.setIfInBounds_toArray, List.set_cons_zero, List.set_cons_succ]
        refine wpAnyH_ready (rs := [11]) (by kernel_rfl) (by simp) (AllReadyH.cons (op_at rfl) (fun K hK => ?_) AllReadyH.nil)
        go_simp
        refine (finds_any ⟨xu, xd, a1, n1, c1, a2, n2, c2, q, st, t⟩ u d _).mono fun e w3 hq => ?_
        obtain ⟨rfl, o3⟩ := hq
        go_wp2_with fail
        refine hK.out _ _ o3 (fun hHeld => ?_)
        clear hK K
        try simp only [Act.put, List.setIfInBounds_toArray, List.set_cons_zero, List.set_cons_succ]
        refine wpAnyH_more (S' := fun w' => Only w3 w' []) (fun w' h => Only.trans o3 h) _ _ _ _ ?_
        clear hHeld
        have hHeld : Only w3 w3 [] := Only.refl _ _
        refine' wpAnyH_take (i := 12) (v := _) (op_at rfl) (by kernel_rfl) (by kernel_rfl) (by kernel_rfl) (fun _ _ _ h => h) (Or.inl ⟨by rfl, ?hy19⟩) (by assumption) ?rest19
        case hy19 =>
          intro w' hS
          go_simp
          try with_reducible rfl
        try simp only [Act.put, List.setIfInBounds_toArray, List.set_cons_zero, List.set_cons_succ]
        refine' wpAnyH_take (i := 13) (v := _) (op_at rfl) (by kernel_rfl) (by kernel_rfl) (by kernel_rfl) (fun _ _ _ h => h) (Or.inl ⟨by rfl, ?hy20⟩) (by assumption) ?rest20
        case hy20 =>
          intro w' hS
          go_simp
          try with_reducible rfl
        try simp only [Act.put, List.setIfInBounds_toArray, List.set_cons_zero, List.set_cons_succ]
        refine' wpAnyH_take (i := 14) (v := _) (op_at rfl) (by kernel_rfl) (by kernel_rfl) (by kernel_rfl) (fun _ _ _ h => h) (Or.inl ⟨by rfl, ?hy21⟩) (by assumption) ?rest21
        case hy21 =>
          intro w' hS
          go_simp
          try with_reducible rfl
        try simp only [Act.put, List.setIfInBounds_toArray, List.set_cons_zero, List.set_cons_succ]
        refine' wpAnyH_take (i := 15) (v := _) (op_at rfl) (by kernel_rfl) (by kernel_rfl) (by kernel_rfl) (fun _ _ _ h => h) (Or.inl ⟨by rfl, ?hy22⟩) (by assumption) ?rest22
        case hy22 =>
          intro w' hS
          go_simp
          try with_reducible rfl
        try simp only [Act.put, List.setIfInBounds_toArray, List.set_cons_zero, List.set_cons_succ]
        refine wpAnyH_done (by kernel_rfl) ?_ _
        go_wp2_with fail
        refine bodyPost_ret (v := .tuple #[.int .i64 i, .bool (cmpW xu xd u d == 0)]) (by simp [results, Try.results56, go_sem]) rfl ?_
        exact ⟨by rw [hpl.out, hfd.out], o1.trans ((ho.trans (Only.drew wr [])).trans (o3.trans hHeld))⟩
      · have d2 : decide ((i : Int) < l.length) = false := by simpa using hml
        have hfd : Hid (foundL l u d = false) := by
          show foundL l u d = _
          unfold foundL
          rw [hpl.out, List.getElem?_eq_none (by omega)]
        go_upto_region 8 with fail
        refine wp_region_held_drew (S := fun w' => Only wr.drew w' []) (by kernel_rfl) (Only.refl _ _) (fun hHeld => ?_)
        refine' wpAnyH_take (i := 0) (v := _) (op_at rfl) (by kernel_rfl) (by kernel_rfl) (by kernel_rfl) (fun _ _ _ h => h) (Or.inl ⟨by rfl, ?hy23⟩) (by assumption) ?rest23
        case hy23 =>
          intro w' hS
          go_simp
          try with_reducible rfl
        try simp only [Act.put, List.setIfInBounds_toArray, List.set_cons_zero, List.set_cons_succ]
        refine' wpAnyH_take (i := 1) (v := _) (op_at rfl) (by kernel_rfl) (by kernel_rfl) (by kernel_rfl) (fun _ _ _ h => h) (Or.inl ⟨by rfl, ?hy24⟩) (by assumption) ?rest24
        case hy24 =>
          intro w' hS
          go_simp
          try with_reducible rfl
        try simp only [Act.put, List.setIfInBounds_toArray, List.set_cons_zero, List.set_cons_succ]
        refine' wpAnyH_take (i := 2) (v := _) (op_at rfl) (by kernel_rfl) (by kernel_rfl) (by kernel_rfl) (fun _ _ _ h => h) (Or.inl ⟨by rfl, ?hy25⟩) (by assumption) ?rest25
        case hy25 =>
          intro w' hS
          go_simp
          try with_reducible rfl
        try simp only [Act.put, List.setIfInBounds_toArray, List.set_cons_zero, List.set_cons_succ]
        refine' wpAnyH_take (i := 3) (v := _) (op_at rfl) (by kernel_rfl) (by kernel_rfl) (by kernel_rfl) (fun _ _ _ h => h) (Or.inl ⟨by rfl, ?hy26⟩) (by assumption) ?rest26
        case hy26 =>
          intro w' hS
          go_simp
          try with_reducible rfl
        try simp only [Act.put, List.setIfInBounds_toArray, List.set_cons_zero, List.set_cons_succ]
        refine' wpAnyH_take (i := 4) (v := _) (op_at rfl) (by kernel_rfl) (by kernel_rfl) (by kernel_rfl) (fun _ _ _ h => h) (Or.inl ⟨by rfl, ?hy27⟩) (by assumption) ?rest27
        case hy27 =>
          intro w' hS
          go_simp
          try with_reducible rfl
        try simp only [Act.put, List.setIfInBounds_toArray, List.set_cons_zero, List.set_cons_succ]
        refine wpAnyH_take (i := 5) (v := undef) (op_at rfl) (by kernel_rfl) (by kernel_rfl) (by kernel_rfl) (fun _ _ _ h => h) (Or.inr ⟨by rfl, rfl⟩) (by assumption) ?_
        try simp only [Act.put, List.setIfInBounds_toArray, List.set_cons_zero, List.set_cons_succ]
        refine wpAnyH_take (i := 6) (v := undef) (op_at rfl) (by kernel_rfl) (by kernel_rfl) (by kernel_rfl) (fun _ _ _ h => h) (Or.inr ⟨by rfl, rfl⟩) (by assumption) ?_
        try simp only [Act.put, List.setIfInBounds_toArray, List.set_cons_zero, List.set_cons_succ]
        refine wpAnyH_take (i := 7) (v := undef) (op_at rfl) (by kernel_rfl) (by kernel_rfl) (by kernel_rfl) (fun _ _ _ h => h) (Or.inr ⟨by rfl, rfl⟩) (by assumption) ?_
        try simp only [Act.put, List.setIfInBounds_toArray, List.set_cons_zero, List.set_cons_succ]
        refine wpAnyH_take (i := 8) (v := undef) (op_at rfl) (by kernel_rfl) (by kernel_rfl) (by kernel_rfl) (fun _ _ _ h => h) (Or.inr ⟨by rfl, rfl⟩) (by assumption) ?_
        try simp only [Act.put, List.setIfInBounds_toArray, List.set_cons_zero, List.set_cons_succ]
        refine wpAnyH_take (i := 9) (v := undef) (op_at rfl) (by kernel_rfl) (by kernel_rfl) (by kernel_rfl) (fun _ _ _ h => h) (Or.inr ⟨by rfl, rfl⟩) (by assumption) ?_
        try simp only [Act.put, List.setIfInBounds_toArray, List.set_cons_zero, List.set_cons_succ]
        refine wpAnyH_take (i := 10) (v := undef) (op_at rfl) (by kernel_rfl) (by kernel_rfl) (by kernel_rfl) (fun _ _ _ h => h) (Or.inr ⟨by rfl, rfl⟩) (by assumption) ?_
        try simp only [Act.put, List.setIfInBounds_toArray, List.set_cons_zero, List.set_cons_succ]
        refine wpAnyH_take (i := 11) (v := undef) (op_at rfl) (by kernel_rfl) (by kernel_rfl) (by kernel_rfl) (fun _ _ _ h => h) (Or.inr ⟨by rfl, rfl⟩) (by assumption) ?_
        try simp only [Act.put, List.setIfInBounds_toArray, List.set_cons_zero, List.set_cons_succ]
        refine wpAnyH_take (i := 12) (v := undef) (op_at rfl) (by kernel_rfl) (by kernel_rfl) (by kernel_rfl) (fun _ _ _ h => h) (Or.inr ⟨by rfl, rfl⟩) (by assumption) ?_
        try simp only [Act.put, List.setIfInBounds_toArray, List.set_cons_zero, List.set_cons_succ]
        refine' wpAnyH_take (i := 13) (v := _) (op_at rfl) (by kernel_rfl) (by kernel_rfl) (by kernel_rfl) (fun _ _ _ h => h) (Or.inl ⟨by rfl, ?hy36⟩) (by assumption) ?rest36
        case hy36 =>
          intro w' hS
          go_simp
          try with_reducible rfl
        try simp only [Act.put, List.setIfInBounds_toArray, List.set_cons_zero, List.set_cons_succ]
        refine' wpAnyH_take (i := 14) (v := _) (op_at rfl) (by kernel_rfl) (by kernel_rfl) (by kernel_rfl) (fun _ _ _ h => h) (Or.inl ⟨by rfl, ?hy37⟩) (by assumption) ?rest37
        case hy37 =>
          intro w' hS
          go_simp
          try with_reducible rfl
        try simp only [Act.put, List.setIfInBounds_toArray, List.set_cons_zero, List.set_cons_succ]
        refine' wpAnyH_take (i := 15) (v := _) (op_at rfl) (by kernel_rfl) (by kernel_rfl) (by kernel_rfl) (fun _ _ _ h => h) (Or.inl ⟨by rfl, ?hy38⟩) (by assumption) ?rest38
        case hy38 =>
          intro w' hS
          go_simp
          try with_reducible rfl
        try simp only [Act.put, List.setIfInBounds_toArray, List.set_cons_zero, List.set_cons_succ]
        refine wpAnyH_done (by kernel_rfl) ?_ _
        go_wp2_with fail
        refine bodyPost_ret (v := .tuple #[.int .i64 i, .bool (false)]) (by simp [results, Try.results56, go_sem]) rfl ?_
        exact ⟨by rw [hpl.out, hfd.out], o1.trans ((ho.trans (Only.drew wr [])).trans hHeld)⟩
end Go.Proofs.Ytdlbkdnpbcpjfaa

/- find of layer 16 (record). -/
namespace Go.Proofs.Ytdlbkdnpbcpjfaa
open Go.RowKit Go.Pw
set_option linter.unusedVariables false

set_option maxRecDepth 100000 in
set_option maxHeartbeats 1600000 in
theorem find_nil (u d : Int) (w : World) :
    Calls Try.prog 27 #[.pointer none, wv u d] w fun e w' => e = .returned (.tuple #[.int .i64 0, .bool false]) ∧ Only w w' [] := by
  simp only [wv]
  go_enter Try.func27, Try.ntmps27
  go_wp2_with fail
  refine bodyPost_ret (v := .tuple #[.int .i64 0, .bool false]) (by simp [results, Try.results27, go_sem]) rfl ?_
  exact ⟨rfl, Only.alloc _ _ _⟩

set_option maxRecDepth 100000 in
set_option maxHeartbeats 1600000 in
theorem find_any {w0 : World} {rs : List Res} (B : Nat) (l : List Re) (v : Value) (u d : Int) (w : World) (h : Sep w0 w (row 36 7 v l.length (fl rc l) :: blk B [v] 68 :: rs)) (hl : l.length ≤ 1000000) (hr : Rise l) :
    Calls Try.prog 27 #[.pointer (some ⟨B, 0, none⟩), wv u d] w fun e w' => e = .returned (.tuple #[.int .i64 (placeL l u d), .bool (foundL l u d)]) ∧ Only w w' [] := by
  obtain ⟨ao, c, rfl⟩ := own_slice (show w.ownsRow 0 _ 7 v l.length (fl rc l) from h.head)
  simp only [wv]
  have hW : (w.alloc (.cells #[.int .i64 u, .int .i64 d] 26)).heap[w.heap.size]? = some (.cells #[.int .i64 u, .int .i64 d] 26 (0, 0)) := heap_alloc_new w _
  have sB := h.quiet (Only.alloc w (.cells #[.int .i64 u, .int .i64 d] 26) [])
  have o1 := Only.alloc w (.cells #[.int .i64 u, .int .i64 d] 26) []
  clear h
  go_enter Try.func27, Try.ntmps27
  go_upto_region 3 with fail
  generalize w.alloc (.cells #[.int .i64 u, .int .i64 d] 26) = W at *
  generalize w.heap.size = A at *
  refine wp_region_held_drew (S := fun w' => Only W.drew w' []) (by kernel_rfl) (Only.refl _ _) (fun hHeld => ?_)
  refine' wpAnyH_take (i := 0) (v := _) (op_at rfl) (by kernel_rfl) (by kernel_rfl) (by kernel_rfl) (fun _ _ _ h => h) (Or.inl ⟨by rfl, ?hy1⟩) (by assumption) ?rest1
  case hy1 =>
    intro w' hS
    go_simp
    try with_reducible rfl
  try simp only [Act.put, List.setIfInBounds_toArray, List.set_cons_zero, List.set_cons_succ]
  refine' wpAnyH_take (i := 1) (v := _) (op_at rfl) (by kernel_rfl) (by kernel_rfl) (by kernel_rfl) (fun _ _ _ h => h) (Or.inl ⟨by rfl, ?hy2⟩) (by assumption) ?rest2
  case hy2 =>
    intro w' hS
    go_simp
    try with_reducible rfl
  try simp only [Act.put, List.setIfInBounds_toArray, List.set_cons_zero, List.set_cons_succ]
  refine' wpAnyH_take (i := 2) (v := _) (op_at rfl) (by kernel_rfl) (by kernel_rfl) (by kernel_rfl) (fun _ _ _ h => h) (Or.inl ⟨by rfl, ?hy3⟩) (by assumption) ?rest3
  case hy3 =>
    intro w' hS
    go_simp
    try with_reducible rfl
  try simp only [Act.put, List.setIfInBounds_toArray, List.set_cons_zero, List.set_cons_succ]
  refine' wpAnyH_take (i := 3) (v := _) (op_at rfl) (by kernel_rfl) (by kernel_rfl) (by kernel_rfl) (fun _ _ _ h => h) (Or.inl ⟨by rfl, ?hy4⟩) (by assumption) ?rest4
  case hy4 =>
    intro w' hS
    have hc0 := cell_of_one ((sB.quiet ((Only.drew W []).trans hS)).tail.head)
    go_simp
    try with_reducible rfl
  try simp only [Act.put, List.setIfInBounds_toArray, List.set_cons_zero, List.set_cons_succ]
  refine' wpAnyH_take (i := 4) (v := _) (op_at rfl) (by kernel_rfl) (by kernel_rfl) (by kernel_rfl) (fun _ _ _ h => h) (Or.inl ⟨by rfl, ?hy5⟩) (by assumption) ?rest5
  case hy5 =>
    intro w' hS
    have ht := ((Only.drew W []).trans hS).at hW (by simp)
    have ht0 := cell_two0 ht
    have ht1 := cell_two1 ht
    go_simp
    try with_reducible rfl
  try simp only [Act.put, List.setIfInBounds_toArray, List.set_cons_zero, List.set_cons_succ]
  refine wpAnyH_ready (rs := [5]) (by kernel_rfl) (by simp) (AllReadyH.cons (op_at rfl) (fun K hK => ?_) AllReadyH.nil)
  go_simp
  refine (search_any l _ u d _ (sB.quiet ((Only.drew W []).trans hHeld)) hl hr).mono fun e w3 hq => ?_
  obtain ⟨rfl, o3⟩ := hq
  go_wp2_with fail
  refine hK.out _ _ o3 (fun hHeld => ?_)
  clear hK K
  try simp only [Act.put, List.setIfInBounds_toArray, List.set_cons_zero, List.set_cons_succ]
  refine' wpAnyH_take (i := 6) (v := _) (op_at rfl) (by kernel_rfl) (by kernel_rfl) (by kernel_rfl) (fun _ _ _ h => h) (Or.inl ⟨by rfl, ?hy6⟩) (by assumption) ?rest6
  case hy6 =>
    intro w' hS
    go_simp
    try with_reducible rfl
  try simp only [Act.put, List.setIfInBounds_toArray, List.set_cons_zero, List.set_cons_succ]
  refine' wpAnyH_take (i := 7) (v := _) (op_at rfl) (by kernel_rfl) (by kernel_rfl) (by kernel_rfl) (fun _ _ _ h => h) (Or.inl ⟨by rfl, ?hy7⟩) (by assumption) ?rest7
  case hy7 =>
    intro w' hS
    go_simp
    try with_reducible rfl
  try simp only [Act.put, List.setIfInBounds_toArray, List.set_cons_zero, List.set_cons_succ]
  refine' wpAnyH_take (i := 8) (v := _) (op_at rfl) (by kernel_rfl) (by kernel_rfl) (by kernel_rfl) (fun _ _ _ h => h) (Or.inl ⟨by rfl, ?hy8⟩) (by assumption) ?rest8
  case hy8 =>
    intro w' hS
    go_simp
    try with_reducible rfl
  try simp only [Act.put, List.setIfInBounds_toArray, List.set_cons_zero, List.set_cons_succ]
  refine' wpAnyH_take (i := 9) (v := _) (op_at rfl) (by kernel_rfl) (by kernel_rfl) (by kernel_rfl) (fun _ _ _ h => h) (Or.inl ⟨by rfl, ?hy9⟩) (by assumption) ?rest9
  case hy9 =>
    intro w' hS
    go_simp
    try with_reducible rfl
  try simp only [Act.put, List.setIfInBounds_toArray, List.set_cons_zero, List.set_cons_succ]
  refine wpAnyH_done (by kernel_rfl) ?_ _
  go_wp2_with fail
  refine bodyPost_ret (v := .tuple #[.int .i64 (placeL l u d), .bool (foundL l u d)]) (by simp [results, Try.results27, go_sem]) rfl ?_
  exact ⟨rfl, o1.trans ((Only.drew W []).trans hHeld)⟩
end Go.Proofs.Ytdlbkdnpbcpjfaa

/- Get, Len, New of layer 16 (record). -/
namespace Go.Proofs.Ytdlbkdnpbcpjfaa
open Go.RowKit Go.Pw
set_option linter.unusedVariables false

theorem new_any (w : World) : Calls Try.prog 7 #[] w fun e w' => e = .returned (.pointer (some ⟨w.heap.size, 0, none⟩)) ∧ w' = w.alloc (.cells #[.slice none 0 0] 68) := by
  go_enter Try.func7, Try.ntmps7
  go_wp2
  go_ret
  exact ⟨rfl, rfl⟩

theorem len_nil (w : World) : Calls Try.prog 16 #[.pointer none] w fun e w' => e = .returned (.int .i64 0) ∧ w' = w := by
  go_enter Try.func16, Try.ntmps16
  go_wp2
  go_ret
  exact ⟨rfl, rfl⟩

theorem len_any (B : Nat) (ao : Option Addr) (n c : Nat) (w : World) (h : w.heap[B]? = some (.cells #[.slice ao n c] 68 (0, 0))) : Calls Try.prog 16 #[.pointer (some ⟨B, 0, none⟩)] w fun e w' => e = .returned (.int .i64 n) ∧ w' = w := by
  have hc0 := cell_of_one h
  go_enter Try.func16, Try.ntmps16
  go_wp2
  go_ret
  exact ⟨rfl, rfl⟩

def rv0 : Value := .agg #[.int .i64 0, .int .i64 0, .slice none 0 0, .slice none 0 0, .pointer none, .bool false, .float .f64 0]

set_option maxRecDepth 100000 in
set_option maxHeartbeats 1600000 in
theorem get_nil (u d : Int) (w : World) :
    Calls Try.prog 12 #[.pointer none, wv u d] w fun e w' => e = .returned (.tuple #[rv0, .bool false]) ∧ Only w w' [] := by
  simp only [wv, rv0]
  have hW : (w.alloc (.cells #[.int .i64 u, .int .i64 d] 26)).heap[w.heap.size]? = some (.cells #[.int .i64 u, .int .i64 d] 26 (0, 0)) := heap_alloc_new w _
  go_enter Try.func12, Try.ntmps12
  go_wp2_with fail
  refine (find_nil u d _).mono ?_
  rintro e w1 ⟨rfl, o1⟩
  have eS : (w.alloc (.cells #[.int .i64 u, .int .i64 d] 26)).heap.size = w.heap.size + 1 := by simp
  have hX := o1.at (heap_alloc_new (w.alloc (.cells #[.int .i64 u, .int .i64 d] 26)) (.cells #[.int .i64 0, .int .i64 0, .slice none 0 0, .slice none 0 0, .pointer none, .bool false, .float .f64 0] 36)) (by simp)
  rw [eS] at hX
  have oA : Only w w1 [] := ((Only.alloc _ _ _).trans (Only.alloc _ _ _)).trans o1
  have hth : w1.there (w.heap.size + 1) 0 7 := fun j hj => by
    have : j < 7 := hj
    rw [Nat.zero_add]
    refine ⟨?_, free_in hX j⟩
    rw [cell_in hX j]
    simp
    omega
  have hN : w.heap.size ≤ w.heap.size + 1 := by omega
  generalize w.heap.size + 1 = X at *
  clear o1 eS hW hX
  have h1c : (#[.int .i64 0, .int .i64 0, .slice none 0 0, .slice none 0 0, .pointer none, .bool false, .float .f64 0] : Array Value).all (·.oneCell') = true := by simp [Value.oneCell']
  go_wp2_with (refine wpList_store_mid rfl 36 _ _ rfl X 0 #[.int .i64 0, .int .i64 0, .slice none 0 0, .slice none 0 0, .pointer none, .bool false, .float .f64 0] rfl rfl hth (by kernel_rfl) h1c ?_)
  have hr := World.rangeAt_setCells_same w1 X 0 [.int .i64 0, .int .i64 0, .slice none 0 0, .slice none 0 0, .pointer none, .bool false, .float .f64 0] hth
  have hoS : Only w1 (w1.setCells X 0 [.int .i64 0, .int .i64 0, .slice none 0 0, .slice none 0 0, .pointer none, .bool false, .float .f64 0]) [X] := only_setCells _ _ _
  have oF : Only w (w1.setCells X 0 [.int .i64 0, .int .i64 0, .slice none 0 0, .slice none 0 0, .pointer none, .bool false, .float .f64 0]) [] := oA.new hoS (fun i hi => by simp only [List.mem_singleton] at hi; rw [hi]; exact hN)
  generalize w1.setCells X 0 [.int .i64 0, .int .i64 0, .slice none 0 0, .slice none 0 0, .pointer none, .bool false, .float .f64 0] = wE at *
  have d0 := hr 0 _ rfl
  have d1 := hr 1 _ rfl
  have d2 := hr 2 _ rfl
  have d3 := hr 3 _ rfl
  have d4 := hr 4 _ rfl
  have d5 := hr 5 _ rfl
  have d6 := hr 6 _ rfl
  simp only [Nat.zero_add, Nat.add_zero] at d0 d1 d2 d3 d4 d5 d6
  refine bodyPost_ret (v := .tuple #[.agg #[.int .i64 0, .int .i64 0, .slice none 0 0, .slice none 0 0, .pointer none, .bool false, .float .f64 0], .bool false]) (by simp [results, Try.results12, go_sem, d0, d1, d2, d3, d4, d5, d6]) rfl ?_
  exact ⟨rfl, oF⟩
end Go.Proofs.Ytdlbkdnpbcpjfaa

/- Get of layer 16 (record). -/
namespace Go.Proofs.Ytdlbkdnpbcpjfaa
open Go.RowKit Go.Pw
set_option linter.unusedVariables false

/-- What Get tells. -/
def gotL (l : List Re) (u d : Int) : Value := if foundL l u d = true then match l[placeL l u d]? with
  | some r => rv r
  | none => rv0
 else rv0

theorem found_at {l : List Re} {u d : Int} (h : foundL l u d = true) : ∃ hk : placeL l u d < l.length, cmpW (l[placeL l u d]).u (l[placeL l u d]).d u d = 0 := by
  unfold foundL at h
  by_cases hk : placeL l u d < l.length
  · rw [List.getElem?_eq_getElem hk] at h
    exact ⟨hk, by simpa using h⟩
  · rw [List.getElem?_eq_none (by omega)] at h
    simp at h

set_option maxRecDepth 100000 in
set_option maxHeartbeats 1600000 in
theorem get_any {w0 : World} {rs : List Res} (B : Nat) (l : List Re) (v : Value) (u d : Int) (w : World) (h : Sep w0 w (row 36 7 v l.length (fl rc l) :: blk B [v] 68 :: rs)) (hl : l.length ≤ 1000000) (hr : Rise l) :
    Calls Try.prog 12 #[.pointer (some ⟨B, 0, none⟩), wv u d] w fun e w' => e = .returned (.tuple #[gotL l u d, .bool (foundL l u d)]) ∧ Only w w' [] := by
  simp only [wv]
  obtain ⟨ao, c, rfl⟩ := own_slice (show w.ownsRow 0 _ 7 v l.length (fl rc l) from h.head)
  have hW : (w.alloc (.cells #[.int .i64 u, .int .i64 d] 26)).heap[w.heap.size]? = some (.cells #[.int .i64 u, .int .i64 d] 26 (0, 0)) := heap_alloc_new w _
  have oA0 : Only w ((w.alloc (.cells #[.int .i64 u, .int .i64 d] 26)).alloc (.cells #[.int .i64 0, .int .i64 0, .slice none 0 0, .slice none 0 0, .pointer none, .bool false, .float .f64 0] 36)) [] := (Only.alloc _ _ _).trans (Only.alloc _ _ _)
  have sB := h.quiet oA0
  clear h
  go_enter Try.func12, Try.ntmps12
  go_wp2_with fail
  refine (find_any B l _ u d _ sB hl hr).mono ?_
  rintro e w1 ⟨rfl, o1⟩
  have s1 := sB.quiet o1
  have eS : (w.alloc (.cells #[.int .i64 u, .int .i64 d] 26)).heap.size = w.heap.size + 1 := by simp
  have hX := o1.at (heap_alloc_new (w.alloc (.cells #[.int .i64 u, .int .i64 d] 26)) (.cells #[.int .i64 0, .int .i64 0, .slice none 0 0, .slice none 0 0, .pointer none, .bool false, .float .f64 0] 36)) (by simp)
  rw [eS] at hX
  have oA : Only w w1 [] := oA0.trans o1
  have hth : w1.there (w.heap.size + 1) 0 7 := fun j hj => by
    have : j < 7 := hj
    rw [Nat.zero_add]
    refine ⟨?_, free_in hX j⟩
    rw [cell_in hX j]
    simp
    omega
  have hN : w.heap.size ≤ w.heap.size + 1 := by omega
  generalize w.heap.size + 1 = X at *
  clear o1 eS hW hX sB oA0
  by_cases hf : foundL l u d = true
  · obtain ⟨hk, _⟩ := found_at hf
    have hg : Hid (gotL l u d = rv l[placeL l u d]) := by
      show gotL l u d = _
      unfold gotL
      rw [if_pos hf, List.getElem?_eq_getElem hk]
    rw [hf]
    generalize placeL l u d = k at *
    obtain ⟨g, rfl, _⟩ := own_some (show w1.ownsRow 0 _ 7 (.slice ao l.length c) l.length (fl rc l) from s1.head) (by omega)
    obtain ⟨e0, e1, e2, e3, e4, e5, e6⟩ := rec_at s1.head hk
    have hBk := cell_of_one s1.tail.head
    generalize l[k] = x at *
    obtain ⟨xu, xd, a1, n1, c1, a2, n2, c2, q, st, t⟩ := x
    simp only [rv] at hg
    simp only at e0 e1 e2 e3 e4 e5 e6
    have h1c : (#[.int .i64 xu, .int .i64 xd, .slice a1 n1 c1, .slice a2 n2 c2, .pointer q, .bool st, .float .f64 t] : Array Value).all (·.oneCell') = true := by simp [Value.oneCell']
    clear s1
    go_wp2_with (refine wpList_store_mid rfl 36 _ _ rfl X 0 #[.int .i64 xu, .int .i64 xd, .slice a1 n1 c1, .slice a2 n2 c2, .pointer q, .bool st, .float .f64 t] rfl rfl hth (by kernel_rfl) h1c ?_)
    have hr := World.rangeAt_setCells_same w1 X 0 [.int .i64 xu, .int .i64 xd, .slice a1 n1 c1, .slice a2 n2 c2, .pointer q, .bool st, .float .f64 t] hth
    have hoS : Only w1 (w1.setCells X 0 [.int .i64 xu, .int .i64 xd, .slice a1 n1 c1, .slice a2 n2 c2, .pointer q, .bool st, .float .f64 t]) [X] := only_setCells _ _ _
    have oF : Only w (w1.setCells X 0 [.int .i64 xu, .int .i64 xd, .slice a1 n1 c1, .slice a2 n2 c2, .pointer q, .bool st, .float .f64 t]) [] := oA.new hoS (fun i hi => by simp only [List.mem_singleton] at hi; rw [hi]; exact hN)
    generalize w1.setCells X 0 [.int .i64 xu, .int .i64 xd, .slice a1 n1 c1, .slice a2 n2 c2, .pointer q, .bool st, .float .f64 t] = wE at *
    have d0 := hr 0 _ rfl
    have d1 := hr 1 _ rfl
    have d2 := hr 2 _ rfl
    have d3 := hr 3 _ rfl
    have d4 := hr 4 _ rfl
    have d5 := hr 5 _ rfl
    have d6 := hr 6 _ rfl
    simp only [Nat.zero_add, Nat.add_zero] at d0 d1 d2 d3 d4 d5 d6
    refine bodyPost_ret (v := .tuple #[.agg #[.int .i64 xu, .int .i64 xd, .slice a1 n1 c1, .slice a2 n2 c2, .pointer q, .bool st, .float .f64 t], .bool true]) (by simp [results, Try.results12, go_sem, d0, d1, d2, d3, d4, d5, d6]) rfl ?_
    exact ⟨by rw [hg.out, hf], oF⟩
  · have hf : foundL l u d = false := by simpa using hf
    have hg : Hid (gotL l u d = rv0) := by
      show gotL l u d = _
      unfold gotL
      rw [hf]
      rfl
    rw [hf]
    have h1c : (#[.int .i64 0, .int .i64 0, .slice none 0 0, .slice none 0 0, .pointer none, .bool false, .float .f64 0] : Array Value).all (·.oneCell') = true := by simp [Value.oneCell']
    clear s1
    go_wp2_with (refine wpList_store_mid rfl 36 _ _ rfl X 0 #[.int .i64 0, .int .i64 0, .slice none 0 0, .slice none 0 0, .pointer none, .bool false, .float .f64 0] rfl rfl hth (by kernel_rfl) h1c ?_)
    have hr := World.rangeAt_setCells_same w1 X 0 [.int .i64 0, .int .i64 0, .slice none 0 0, .slice none 0 0, .pointer none, .bool false, .float .f64 0] hth
    have hoS : Only w1 (w1.setCells X 0 [.int .i64 0, .int .i64 0, .slice none 0 0, .slice none 0 0, .pointer none, .bool false, .float .f64 0]) [X] := only_setCells _ _ _
    have oF : Only w (w1.setCells X 0 [.int .i64 0, .int .i64 0, .slice none 0 0, .slice none 0 0, .pointer none, .bool false, .float .f64 0]) [] := oA.new hoS (fun i hi => by simp only [List.mem_singleton] at hi; rw [hi]; exact hN)
    generalize w1.setCells X 0 [.int .i64 0, .int .i64 0, .slice none 0 0, .slice none 0 0, .pointer none, .bool false, .float .f64 0] = wE at *
    have d0 := hr 0 _ rfl
    have d1 := hr 1 _ rfl
    have d2 := hr 2 _ rfl
    have d3 := hr 3 _ rfl
    have d4 := hr 4 _ rfl
    have d5 := hr 5 _ rfl
    have d6 := hr 6 _ rfl
    simp only [Nat.zero_add, Nat.add_zero] at d0 d1 d2 d3 d4 d5 d6
    refine bodyPost_ret (v := .tuple #[.agg #[.int .i64 0, .int .i64 0, .slice none 0 0, .slice none 0 0, .pointer none, .bool false, .float .f64 0], .bool false]) (by simp [results, Try.results12, go_sem, d0, d1, d2, d3, d4, d5, d6]) rfl ?_
    exact ⟨by rw [hg.out, hf]; rfl, oF⟩
end Go.Proofs.Ytdlbkdnpbcpjfaa

