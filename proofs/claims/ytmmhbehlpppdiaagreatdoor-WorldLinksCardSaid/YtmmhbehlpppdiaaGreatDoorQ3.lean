/- WorldLinks, by hand: Kn4, Kn5, Kn6, Kn7, Ky1, Box, SvM, Ky2. -/
import Derived.Test.YtmmhbehlpppdiaaGreatDoorQ2
import Derived.Lib.SmallJoins
import Derived.Test.YtmmhbehlpppdiaaGreatDoorProg
import Derived.Test.YtmmhbehlpppdiaaGreatDoorQ0
import Derived.Test.YtmmhbehlpppdiaaGreatDoorQ1
import Derived.Maps.Keyed
set_option linter.all false
namespace Go.Proofs.YtmmhbehlpppdiaaGreatDoor.Wl
open Go.RowKit Go.Pw

def isT : Value → Bool
  | .bool true => true
  | _ => false
def tr : List Bool → Nat
  | [] => 0
  | true :: l => tr l + 1
  | false :: l => tr l
theorem tr_le : ∀ l : List Bool, tr l ≤ l.length
  | [] => Nat.le_refl _
  | true :: l => Nat.succ_le_succ (tr_le l)
  | false :: l => Nat.le_succ_of_le (tr_le l)
theorem tr_app : ∀ l m : List Bool, tr (l ++ m) = tr l + tr m
  | [], m => by simp [tr]
  | true :: l, m => by simp [tr, tr_app l m]; omega
  | false :: l, m => by simp [tr, tr_app l m]
theorem tr_rep : ∀ n, tr (List.replicate n false) = 0
  | 0 => rfl
  | n + 1 => by rw [List.replicate_succ]; exact tr_rep n
theorem tr_gr (hs : List Bool) (n : Nat) : tr (grL hs n) = tr hs := by rw [grL, tr_app, tr_rep]; rfl
theorem tr_set : ∀ (l : List Bool) (k : Nat) (h : k < l.length), l[k] = false → tr (l.set k true) = tr l + 1
  | [], _, h, _ => by simp at h
  | b :: l, 0, _, e => by
    obtain rfl : b = false := e
    rfl
  | b :: l, k + 1, h, e => by
    have := tr_set l k (by simpa using h) (by simpa using e)
    cases b <;> simp [tr, this]
theorem tr_bl : ∀ l : List Bool, ((bl l).filter isT).length = tr l
  | [] => rfl
  | true :: l => by
    show (List.filter isT (Value.bool true :: bl l)).length = tr l + 1
    rw [List.filter_cons_of_pos rfl, List.length_cons, tr_bl l]
  | false :: l => by
    show (List.filter isT (Value.bool false :: bl l)).length = tr l
    rw [List.filter_cons_of_neg (by simp [isT]), tr_bl l]
def slAt : Value → Option (Nat × Nat)
  | .slice (some a) n _ => some (a.block, n)
  | _ => none
def trW (KB : Nat) (w : World) : Nat := match w.heap[KB]? with
  | some (.cells cs _ _) => (match (cs[1]?).bind slAt with
    | some (g, n) => (match w.heap[g]? with
      | some (.cells ds _ _) => ((ds.toList.take n).filter isT).length
      | _ => 0)
    | none => 0)
  | _ => 0
theorem trW_is {KB : Nat} {p hv : Value} {hs : List Bool} {w : World} (h1 : (blk KB [p, hv] 224).ok w) (h2 : (row 4 1 hv hs.length (bl hs)).ok w) : trW KB w = tr hs := by
  have hb : w.heap[KB]? = _ := h1
  obtain ⟨hl, h3⟩ := (show w.ownsRow 0 4 1 hv hs.length (bl hs) from h2)
  rcases h3 with ⟨rfl, h0⟩ | ⟨g, cap, cur, rfl, _, hg, _, _, _, htake⟩
  · have : hs = [] := List.eq_nil_of_length_eq_zero h0
    subst this
    simp [trW, hb, tr, slAt]
  · rw [← tr_bl, ← htake]
    simp [trW, hb, slAt, hg]
def cm (KB L : Nat) (x : Value) (w : World) : Nat := match x with
  | .bool true => L + 1 - trW KB w
  | _ => 0

theorem bl_put {w0 w : World} {rs : List Res} {g n c : Nat} {hs : List Bool} {T : Nat} (h : Sep w0 w (row 4 1 (.slice (some ⟨g, 0, none⟩) T c) n (bl hs) :: rs)) (k : Nat) (b : Bool) : Sep w0 (w.setCell ⟨g, k, none⟩ (.bool b)) (row 4 1 (.slice (some ⟨g, 0, none⟩) T c) n (bl (hs.set k b)) :: rs) := by
  obtain rfl : T = n := by
    obtain ⟨_, _, e⟩ := own_slice (show w.ownsRow 0 4 1 (.slice (some ⟨g, 0, none⟩) T c) n (bl hs) from h.head)
    simpa using congrArg (fun v => match v with | Value.slice _ m _ => m | _ => 0) e
  have := h.puts k [.bool b]
  rw [bl, List.map_set]
  exact this
def CloseP (w0 : World) (KB TB TM : Nat) (v : Value) (l : List Tm) (rs : List Res) (e : Ending) (w' : World) : Prop :=
  e = .returned (.tuple #[]) ∧ ∃ hv' hs', hs'.length ≤ l.length ∧ Sep w0 w' (tabR TB TM v l (knR KB TB hv' hs' rs))
set_option maxRecDepth 100000 in
set_option maxHeartbeats 1600000 in
theorem close_any {w0 : World} {rs : List Res} (KB TB TM : Nat) (v hv : Value) (l : List Tm) (hs : List Bool) (w : World) (h : Sep w0 w (tabR TB TM v l (knR KB TB hv hs rs))) (hl : l.length ≤ 900000) (hh : hs.length ≤ l.length) :
    Calls Tryz.prog 117 #[.pointer (some ⟨KB, 0, none⟩)] w (CloseP w0 KB TB TM v l rs) := by
  have hb : w.heap[KB]? = _ := h.get 4 rfl
  have c0 := cell_two0 hb
  go_enter Tryz.func117, Tryz.ntmps117
  go_wp2_with fail
  go_loopw [2] (fun x wr => ∃ (b : Bool) (hv : Value) (hs : List Bool), x = .bool b ∧ hs.length ≤ l.length ∧ Sep w0 wr (tabR TB TM v l (knR KB TB hv hs rs))) (fun x wr => cm KB l.length x wr)
  case atStart => exact ⟨true, hv, hs, rfl, hh, h⟩
  case round =>
    obtain ⟨b, hv, hs, rfl, hh, h⟩ := hrel
    clear c0 hb
    cases b with
    | false =>
      go_wp2_with fail
      refine bodyPost_end (v := .tuple #[]) (by simp [results, Tryz.results117, go_sem]) rfl ?_
      exact ⟨rfl, hv, hs, hh, h⟩
    | true =>
      have m0 := trW_is (h.get 4 rfl) (h.get 5 rfl)
      go_wp2_with fail
      refine (grow_any KB TB TM v hv l hs _ h hl hh).mono ?_
      rintro e w1 ⟨rfl, hv1, s1⟩
      have hl1 := grL_len hh
      have t1 := tr_gr hs l.length
      generalize grL hs l.length = hs1 at *
      obtain ⟨ao, c, rfl⟩ := own_slice (show w1.ownsRow 0 4 1 hv1 hs1.length (bl hs1) from s1.get 5 rfl)
      have hb1 : w1.heap[KB]? = _ := s1.get 4 rfl
      have c1 := cell_two1 hb1
      clear h
      rw [hl1] at c1
      go_wp2_with fail
      go_loopw [2, 21] (fun x y wr => ∃ (b : Bool) (k : Nat) (hs2 : List Bool), x = .bool b ∧ y = .int .i64 k ∧ k ≤ l.length ∧ hs2.length = l.length ∧ tr hs1 + (if b = true then 1 else 0) ≤ tr hs2 ∧ Sep w0 wr (tabR TB TM v l (knR KB TB (.slice ao l.length c) hs2 rs))) (fun _ y _ => l.length - (intOf y).toNat)
      case atStart => exact ⟨false, 0, hs1, rfl, rfl, Nat.zero_le _, hl1, by simp, by rw [← hl1]; exact s1⟩
      case round =>
        obtain ⟨b, k, hs2, rfl, rfl, hk, hl2, ht2, s2⟩ := hrel
        by_cases hkl : k < l.length
        · have e1 : decide ((k : Int) < l.length) = true := by simpa using hkl
          have e2 : (k : Int) < l.length := by omega
          have c2 := cell_two1 (show wr.heap[KB]? = _ from s2.get 4 rfl)
          have hrow := (show wr.ownsRow 0 4 1 (.slice ao l.length c) hs2.length (bl hs2) from s2.get 5 rfl)
          rw [hl2] at hrow
          obtain ⟨g, rfl, _⟩ := own_some hrow (by omega)
          have ck := bl_at hrow (show k < hs2.length by omega)
          have fk := hrow.frozenAt k
          have hset := tr_set hs2 k (by omega)
          cases hv2 : hs2[k] with
          | true =>
            rw [hv2] at ck
            clear hset fk hrow
            go_wp2_with fail
            exact ⟨⟨b, k + 1, hs2, rfl, by simp, by omega, hl2, ht2, s2⟩, by simp [intOf]; omega⟩
          | false =>
            rw [hv2] at ck
            have hset := hset hv2
            have q : tr hs1 ≤ tr hs2 := by split at ht2 <;> omega
            clear fk hrow
            go_wp2_with fail
            refine (made_any KB TB TM v _ l hs2 k wr s2 hl (s2.get 4 rfl) (s2.get 5 rfl)).mono ?_
            rintro e w3 ⟨⟨b3, rfl⟩, o3⟩
            have s3 := s2.quiet o3
            cases b3 with
            | false =>
              go_wp2_with fail
              exact ⟨⟨b, k + 1, hs2, rfl, by simp, by omega, hl2, ht2, s3⟩, by simp [intOf]; omega⟩
            | true =>
              have c3 := cell_two1 (show w3.heap[KB]? = _ from s3.get 4 rfl)
              have hrow3 := (show w3.ownsRow 0 4 1 (.slice (some ⟨g, 0, none⟩) l.length c) hs2.length (bl hs2) from s3.get 5 rfl)
              rw [hl2] at hrow3
              have ck3 := bl_at hrow3 (show k < hs2.length by omega)
              have fk3 := hrow3.frozenAt k
              have s4 := bl_put (n := hs2.length) (s3.sel 6 [5, 0, 1, 2, 3, 4]) k true
              clear hrow3
              go_wp2_with fail
              refine ⟨⟨true, k + 1, hs2.set k true, rfl, by simp, by omega, by simpa using hl2, by rw [hset, if_pos rfl]; omega, ?_⟩, by simp [intOf]; omega⟩
              simp only [knR, List.length_set]
              exact s4.sel 6 [1, 2, 3, 4, 5, 0]
        · obtain rfl : k = l.length := by omega
          have e1 : decide ((l.length : Int) < l.length) = false := by simp
          have m2 := trW_is (s2.get 4 rfl) (s2.get 5 rfl)
          go_wp2_with fail
          refine ⟨⟨b, _, hs2, rfl, by omega, s2⟩, ?_⟩
          have q1 := tr_le hs
          have q2 := tr_le hs2
          cases b
          · simp only [cm, m0]
            omega
          · rw [if_pos rfl] at ht2
            simp only [cm, m0, m2]
            omega
end Go.Proofs.YtmmhbehlpppdiaaGreatDoor.Wl
namespace Go.Proofs.YtmmhbehlpppdiaaGreatDoor.Wl
open Go.RowKit Go.Pw
def There (rs : List Res) (p : Value) : Prop := ∀ w', (∀ r ∈ rs, r.ok w') → ∃ xs : List Int, xs.length ≤ 1000000 ∧ Byt xs ∧ Pw.Src w' p 1 xs.length (xs.map (Value.int .u8))
def LearnP (w0 : World) (KB TB TM : Nat) (n c : Nat) (rs : List Res) (e : Ending) (w' : World) : Prop :=
  e = .returned (.tuple #[]) ∧ ∃ v' l' hv' hs', n ≤ l'.length ∧ l'.length ≤ n + c ∧ hs'.length ≤ l'.length ∧ Sep w0 w' (tabR TB TM v' l' (knR KB TB hv' hs' rs))
set_option maxRecDepth 100000 in
set_option maxHeartbeats 1600000 in
theorem learn_any {w0 : World} {rs : List Res} (KB TB TM : Nat) (v hv : Value) (l : List Tm) (hs : List Bool) (lv : Value) (ps : List Value) (w : World) (h : Sep w0 w (tabR TB TM v l (knR KB TB hv hs rs))) (hI : ItoaOK w0) (hl : l.length ≤ 800000) (hh : hs.length ≤ l.length)
    (hpl : ps.length ≤ 1000) (hls : ∀ w', (∀ r ∈ rs, r.ok w') → Pw.Src w' lv 1 ps.length ps) (hps : ∀ p ∈ ps, There rs p) :
    Calls Tryz.prog 65 #[.pointer (some ⟨KB, 0, none⟩), lv] w (LearnP w0 KB TB TM l.length ps.length rs) := by
  obtain ⟨ao, c, rfl, -⟩ := id (hls w (fun r hr => h.ok r (by simp [hr])))
  have c0 := cell_two0 (show w.heap[KB]? = _ from h.get 4 rfl)
  have HLS := Lib.hid hls
  have HPS := Lib.hid hps
  clear hls hps
  go_enter Tryz.func65, Tryz.ntmps65
  go_wp2_with fail
  clear c0
  go_loopw [18] (fun y wr => ∃ (k : Nat) (v1 : Value) (l1 : List Tm) (hv1 : Value) (hs1 : List Bool), y = .int .i64 k ∧ k ≤ ps.length ∧ l.length ≤ l1.length ∧ l1.length ≤ l.length + k ∧ hs1.length ≤ l1.length ∧ Sep w0 wr (tabR TB TM v1 l1 (knR KB TB hv1 hs1 rs))) (fun y _ => ps.length - (intOf y).toNat)
  case atStart => exact ⟨0, v, l, hv, hs, rfl, Nat.zero_le _, Nat.le_refl _, Nat.le_refl _, hh, h⟩
  case round =>
    obtain ⟨k, v1, l1, hv1, hs1, rfl, hk, q1, q2, q3, s1⟩ := hrel
    clear h
    have hrs : ∀ r ∈ rs, r.ok wr := fun r hr => s1.ok r (by simp [hr])
    have c0 := cell_two0 (show wr.heap[KB]? = _ from s1.get 4 rfl)
    by_cases hkl : k < ps.length
    · have e1 : decide ((k : Int) < ps.length) = true := by simpa using hkl
      have hsrc := HLS.out wr hrs
      obtain ⟨b, o, rfl, hc⟩ := src_new hsrc hkl
      have ck := hc wr (Only.refl _ _) k ps[k] (by simp [hkl])
      obtain ⟨xs, x1, x2, x3⟩ := HPS.out _ (List.getElem_mem hkl) wr hrs
      generalize ps[k] = p at *
      clear hc hsrc hrs
      go_wp2_with fail
      refine (tread_any TB TM v1 l1 p xs wr s1 hI (by omega) x3 x2 x1).mono ?_
      rintro e w2 ⟨i, v2, l2, rfl, hi, a1, a2, s2⟩
      go_wp2_with fail
      refine (grow_any KB TB TM v2 hv1 l2 hs1 _ s2 (by omega) (by omega)).mono ?_
      rintro e w3 ⟨rfl, hv3, s3⟩
      have hl3 := grL_len (show hs1.length ≤ l2.length by omega)
      generalize grL hs1 l2.length = hs3 at *
      have hrow := (show w3.ownsRow 0 4 1 hv3 hs3.length (bl hs3) from s3.get 5 rfl)
      rw [hl3] at hrow
      obtain ⟨ao3, c3, rfl⟩ := own_slice hrow
      obtain ⟨g, rfl, _⟩ := own_some hrow (by omega)
      have d1 := cell_two1 (show w3.heap[KB]? = _ from s3.get 4 rfl)
      have ci := bl_at hrow (show i < hs3.length by omega)
      have fi := hrow.frozenAt i
      have e3 : (i : Int) < l2.length := by omega
      have s4 := bl_put (n := hs3.length) (s3.sel 6 [5, 0, 1, 2, 3, 4]) i true
      clear hrow
      go_wp2_with fail
      refine ⟨⟨k + 1, v2, l2, .slice (some ⟨g, 0, none⟩) l2.length c3, hs3.set i true, by simp, by omega, by omega, by omega, by simp; omega, ?_⟩, by simp [intOf]; omega⟩
      simp only [knR, List.length_set]
      exact s4.sel 6 [1, 2, 3, 4, 5, 0]
    · obtain rfl : k = ps.length := by omega
      have e1 : decide ((ps.length : Int) < ps.length) = false := by simp
      go_wp2_with fail
      refine (close_any KB TB TM v1 hv1 l1 hs1 _ s1 (by omega) q3).mono ?_
      rintro e w2 ⟨rfl, hv2, hs2, a1, s2⟩
      go_wp2_with fail
      refine bodyPost_end (v := .tuple #[]) (by simp [results, Tryz.results65, go_sem]) rfl ?_
      exact ⟨rfl, v1, l1, hv2, hs2, q1, q2, a1, s2⟩
end Go.Proofs.YtmmhbehlpppdiaaGreatDoor.Wl
namespace Go.Proofs.YtmmhbehlpppdiaaGreatDoor.Wl
open Go.RowKit Go.Pw

set_option maxRecDepth 100000 in
set_option maxHeartbeats 800000 in
theorem kfit_any (ao : Option Addr) (n c : Nat) (w : World) (hn : n ≤ c) (hc : c ≤ maxLen) :
    Calls Tryz.prog 137 #[.slice ao n c] w fun e w' => e = .returned (.slice ao (min n 32) c) ∧ w' = w := by
  unfold maxLen at hc
  by_cases h : n ≤ 32
  · have e1 : min (n : Int) 32 = n := by omega
    have e2 : min n 32 = n := by omega
    rw [e2]
    go_enter Tryz.func137, Tryz.ntmps137
    go_wp2_with fail
    go_ret
    exact ⟨rfl, rfl⟩
  · have e1 : min (n : Int) 32 = 32 := by omega
    have e2 : min n 32 = 32 := by omega
    have e3 : 32 ≤ c := by omega
    rw [e2]
    go_enter Tryz.func137, Tryz.ntmps137
    go_wp2_with fail
    go_ret
    exact ⟨rfl, rfl⟩
def shL (b : Bu) (a4 : Option Addr) (n4 c4 : Nat) : List Value := [b.s1, b.s2, b.s3, .slice a4 (min n4 32) c4] ++ (if b.has = true then [b.s5] else [])
theorem info_bys : (Tryz.prog.info? 22).map (fun i => (i.zero, i.size, i.bytes)) = some (some (.slice none 0 0), 1, 24) := by kernel_rfl
set_option maxRecDepth 100000 in
set_option maxHeartbeats 800000 in
theorem shown_any (b : Bu) (a1 a2 a3 a4 a5 : Option Addr) (n1 c1 n2 c2 n3 c3 n4 c4 n5 c5 : Nat) (w : World) (h1 : b.s1 = .slice a1 n1 c1) (h2 : b.s2 = .slice a2 n2 c2) (h3 : b.s3 = .slice a3 n3 c3) (h5 : b.s5 = .slice a5 n5 c5) (h4 : b.s4 = .slice a4 n4 c4) (hn : n4 ≤ c4) (hc : c4 ≤ maxLen) :
    Calls Tryz.prog 87 #[.agg (bc b).toArray] w fun e w' => ∃ r, e = .returned r ∧ Sep w w' [row 22 1 r (shL b a4 n4 c4).length (shL b a4 n4 c4)] := by
  obtain ⟨i0, hi, hz0, hz1, hz2⟩ := info_parts info_bys
  have g2 : (bc b).toArray[2]? = some (.slice a1 n1 c1) := by rw [← h1]; rfl
  have g3 : (bc b).toArray[3]? = some (.slice a2 n2 c2) := by rw [← h2]; rfl
  have g5 : (bc b).toArray[5]? = some (.slice a3 n3 c3) := by rw [← h3]; rfl
  have g6 : (bc b).toArray[6]? = some (.slice a4 n4 c4) := by rw [← h4]; rfl
  have g7 : (bc b).toArray[7]? = some (.bool b.has) := rfl
  have g9 : (bc b).toArray[9]? = some (.slice a5 n5 c5) := by rw [← h5]; rfl
  have HS : Hid (shL b a4 n4 c4 = [.slice a1 n1 c1, .slice a2 n2 c2, .slice a3 n3 c3, .slice a4 (min n4 32) c4] ++ (if b.has = true then [.slice a5 n5 c5] else [])) := by rw [Hid, ← h1, ← h2, ← h3, ← h5]; rfl
  generalize shL b a4 n4 c4 = R at *
  generalize b.has = hb at *
  clear h1 h2 h3 h4 h5
  generalize bc b = cs at *
  go_enter Tryz.func87, Tryz.ntmps87
  go_upto_region 1 with (refine wpList_box_new rfl 88 _ rfl (.agg cs.toArray) rfl ?_; intro X wX oX lX bX)
  refine wp_region_u (S := fun w' => w'.heap[X]? = some (.cells cs.toArray 88 (0, 0))) 13 [] (by kernel_rfl) (by kernel_rfl) bX (fun hZ hHeld => ?_)
  refine' wpAnyU_take (i := 0) (v := _) hZ (op_at' rfl) (by kernel_rfl) (by kernel_rfl) (by kernel_rfl) (by kernel_rfl) (by kernel_rfl) (fun _ _ _ h => h) (Or.inl ⟨by rfl, ?hy1⟩) (by assumption) ?rest1
  case hy1 =>
    intro w' hS
    go_simp
    try with_reducible rfl
  try simp only [Act.put, List.setIfInBounds_toArray, List.set_cons_zero, List.set_cons_succ]
  refine' wpAnyU_take (i := 1) (v := _) hZ (op_at' rfl) (by kernel_rfl) (by kernel_rfl) (by kernel_rfl) (by kernel_rfl) (by kernel_rfl) (fun _ _ _ h => h) (Or.inl ⟨by rfl, ?hy2⟩) (by assumption) ?rest2
  case hy2 =>
    intro w' hS
    go_simp
    try with_reducible rfl
  try simp only [Act.put, List.setIfInBounds_toArray, List.set_cons_zero, List.set_cons_succ]
  refine' wpAnyU_take (i := 2) (v := _) hZ (op_at' rfl) (by kernel_rfl) (by kernel_rfl) (by kernel_rfl) (by kernel_rfl) (by kernel_rfl) (fun _ _ _ h => h) (Or.inl ⟨by rfl, ?hy3⟩) (by assumption) ?rest3
  case hy3 =>
    intro w' hS
    have d2 := (cell_in hS 2).trans g2
    have d3 := (cell_in hS 3).trans g3
    have d5 := (cell_in hS 5).trans g5
    have d6 := (cell_in hS 6).trans g6
    go_simp
    try with_reducible rfl
  try simp only [Act.put, List.setIfInBounds_toArray, List.set_cons_zero, List.set_cons_succ]
  refine' wpAnyU_take (i := 3) (v := _) hZ (op_at' rfl) (by kernel_rfl) (by kernel_rfl) (by kernel_rfl) (by kernel_rfl) (by kernel_rfl) (fun _ _ _ h => h) (Or.inl ⟨by rfl, ?hy4⟩) (by assumption) ?rest4
  case hy4 =>
    intro w' hS
    go_simp
    try with_reducible rfl
  try simp only [Act.put, List.setIfInBounds_toArray, List.set_cons_zero, List.set_cons_succ]
  refine' wpAnyU_take (i := 4) (v := _) hZ (op_at' rfl) (by kernel_rfl) (by kernel_rfl) (by kernel_rfl) (by kernel_rfl) (by kernel_rfl) (fun _ _ _ h => h) (Or.inl ⟨by rfl, ?hy5⟩) (by assumption) ?rest5
  case hy5 =>
    intro w' hS
    go_simp
    try with_reducible rfl
  try simp only [Act.put, List.setIfInBounds_toArray, List.set_cons_zero, List.set_cons_succ]
  refine' wpAnyU_take (i := 5) (v := _) hZ (op_at' rfl) (by kernel_rfl) (by kernel_rfl) (by kernel_rfl) (by kernel_rfl) (by kernel_rfl) (fun _ _ _ h => h) (Or.inl ⟨by rfl, ?hy6⟩) (by assumption) ?rest6
  case hy6 =>
    intro w' hS
    have d2 := (cell_in hS 2).trans g2
    have d3 := (cell_in hS 3).trans g3
    have d5 := (cell_in hS 5).trans g5
    have d6 := (cell_in hS 6).trans g6
    go_simp
    try with_reducible rfl
  try simp only [Act.put, List.setIfInBounds_toArray, List.set_cons_zero, List.set_cons_succ]
  refine' wpAnyU_take (i := 6) (v := _) hZ (op_at' rfl) (by kernel_rfl) (by kernel_rfl) (by kernel_rfl) (by kernel_rfl) (by kernel_rfl) (fun _ _ _ h => h) (Or.inl ⟨by rfl, ?hy7⟩) (by assumption) ?rest7
  case hy7 =>
    intro w' hS
    go_simp
    try with_reducible rfl
  try simp only [Act.put, List.setIfInBounds_toArray, List.set_cons_zero, List.set_cons_succ]
  refine' wpAnyU_take (i := 7) (v := _) hZ (op_at' rfl) (by kernel_rfl) (by kernel_rfl) (by kernel_rfl) (by kernel_rfl) (by kernel_rfl) (fun _ _ _ h => h) (Or.inl ⟨by rfl, ?hy8⟩) (by assumption) ?rest8
  case hy8 =>
    intro w' hS
    have d2 := (cell_in hS 2).trans g2
    have d3 := (cell_in hS 3).trans g3
    have d5 := (cell_in hS 5).trans g5
    have d6 := (cell_in hS 6).trans g6
    go_simp
    try with_reducible rfl
  try simp only [Act.put, List.setIfInBounds_toArray, List.set_cons_zero, List.set_cons_succ]
  refine' wpAnyU_take (i := 8) (v := _) hZ (op_at' rfl) (by kernel_rfl) (by kernel_rfl) (by kernel_rfl) (by kernel_rfl) (by kernel_rfl) (fun _ _ _ h => h) (Or.inl ⟨by rfl, ?hy9⟩) (by assumption) ?rest9
  case hy9 =>
    intro w' hS
    go_simp
    try with_reducible rfl
  try simp only [Act.put, List.setIfInBounds_toArray, List.set_cons_zero, List.set_cons_succ]
  refine' wpAnyU_take (i := 9) (v := _) hZ (op_at' rfl) (by kernel_rfl) (by kernel_rfl) (by kernel_rfl) (by kernel_rfl) (by kernel_rfl) (fun _ _ _ h => h) (Or.inl ⟨by rfl, ?hy10⟩) (by assumption) ?rest10
  case hy10 =>
    intro w' hS
    have d2 := (cell_in hS 2).trans g2
    have d3 := (cell_in hS 3).trans g3
    have d5 := (cell_in hS 5).trans g5
    have d6 := (cell_in hS 6).trans g6
    go_simp
    try with_reducible rfl
  try simp only [Act.put, List.setIfInBounds_toArray, List.set_cons_zero, List.set_cons_succ]
  refine wpAnyU_one (i := 10) (by kernel_rfl) (op_at' rfl) (fun K hK => ?_)
  go_simp
  refine (kfit_any a4 n4 c4 _ hn hc).mono ?_
  rintro e w10 ⟨rfl, rfl⟩
  go_wp2_with fail
  refine hK.out _ _ hHeld (fun hHeld => ?_)
  clear hK K
  try simp only [Act.put, List.setIfInBounds_toArray, List.set_cons_zero, List.set_cons_succ]
  refine wpAnyU_one (i := 11) (by kernel_rfl) (op_at' rfl) (fun K hK => ?_)
  go_simp
  go_wp2_with fail
  refine hK.out _ _ ((Only.alloc wX.drew _ []).at hHeld (by simp)) (fun hHeld => ?_)
  clear hK K
  try simp only [Act.put, List.setIfInBounds_toArray, List.set_cons_zero, List.set_cons_succ]
  refine' wpAnyU_take (i := 12) (v := _) hZ (op_at' rfl) (by kernel_rfl) (by kernel_rfl) (by kernel_rfl) (by kernel_rfl) (by kernel_rfl) (fun _ _ _ h => h) (Or.inl ⟨by rfl, ?hy11⟩) (by assumption) ?rest11
  case hy11 =>
    intro w' hS
    go_simp
    try with_reducible rfl
  try simp only [Act.put, List.setIfInBounds_toArray, List.set_cons_zero, List.set_cons_succ]
  refine wpAnyU_done (by kernel_rfl) ?_ _
  have bY := heap_alloc_new wX (.cells #[.slice a1 n1 c1, .slice a2 n2 c2, .slice a3 n3 c3, .slice a4 (min n4 32) c4] 22)
  have oY := (oX.trans (Only.alloc wX (.cells #[.slice a1 n1 c1, .slice a2 n2 c2, .slice a3 n3 c3, .slice a4 (min n4 32) c4] 22) [])).trans (Only.drew _ [])
  have sY : Sep w (wX.alloc (.cells #[.slice a1 n1 c1, .slice a2 n2 c2, .slice a3 n3 c3, .slice a4 (min n4 32) c4] 22)).drew [row 22 1 (.slice (some ⟨wX.heap.size, 0, none⟩) 4 4) 4 [.slice a1 n1 c1, .slice a2 n2 c2, .slice a3 n3 c3, .slice a4 (min n4 32) c4]] :=
    (Sep.nil w).add oY (blk_row (show (wX.alloc _).drew.heap[wX.heap.size]? = _ from bY) rfl (by decide)) (fun k hk => by have := oX.size; simp [row, Value.ownBlock] at hk; omega)
  have hB : (wX.alloc (.cells #[.slice a1 n1 c1, .slice a2 n2 c2, .slice a3 n3 c3, .slice a4 (min n4 32) c4] 22)).drew.heap[X]? = _ := hHeld
  clear hHeld bX oX bY oY
  generalize (wX.alloc (.cells #[.slice a1 n1 c1, .slice a2 n2 c2, .slice a3 n3 c3, .slice a4 (min n4 32) c4] 22)).drew = w5 at *
  generalize wX.heap.size = Y at *
  have d7 := (cell_in hB 7).trans g7
  have d9 := (cell_in hB 9).trans g9
  cases hb with
  | false =>
    go_wp2_with fail
    go_ret
    exact ⟨_, rfl, by rw [HS.out]; exact sY⟩
  | true =>
    go_wp2_with (at_builtin; refine wpList_append_sep rfl _ _ 67 rfl 22 i0 _ 1 24 Tryz.underlying67 hi hz0 hz1 hz2 rfl (by decide) (.slice (some ⟨Y, 0, none⟩) 4 4) 4 _ rfl (sY.quiet (Only.alloc _ (.cells #[.slice a5 n5 c5] 22) [])) _ 1 [.slice a5 n5 c5] rfl (src_one _ _ _) (by simp [Value.oneCell']) (by decide) (by decide) ?_; intro a7 c7 w7 o7 s7)
    go_ret
    exact ⟨_, rfl, by rw [HS.out]; exact s7⟩
end Go.Proofs.YtmmhbehlpppdiaaGreatDoor.Wl
namespace Go.Proofs.YtmmhbehlpppdiaaGreatDoor.Wl
open Go.RowKit Go.Pw

theorem There.mono {rs rs' : List Res} {p : Value} (h : There rs p) (hs : ∀ r ∈ rs, r ∈ rs') : There rs' p := fun w' hr => h w' (fun r h => hr r (hs r h))
theorem src_take {w : World} {ao : Option Addr} {n c m : Nat} {xs : List Int} (h : Pw.Src w (.slice ao n c) 1 xs.length (xs.map (Value.int .u8))) (hm : m ≤ n) : Pw.Src w (.slice ao m c) 1 (xs.take m).length ((xs.take m).map (Value.int .u8)) := by
  obtain ⟨ao', c', e, h1, h2, h3, h4, h5⟩ := h
  simp only [Value.slice.injEq] at e
  obtain ⟨rfl, rfl, rfl⟩ := e
  have hl : (xs.take m).length = m := by rw [List.length_take]; omega
  refine ⟨ao, c, by rw [hl], by omega, h2, by simp, fun hn => ?_, fun b hb j u hj => h5 b hb j u ?_⟩
  · obtain ⟨q1, q2⟩ := h4 hn
    exact ⟨by omega, q2⟩
  · rw [List.map_take, List.getElem?_take] at hj
    split at hj
    · exact hj
    · cases hj
theorem There.take {rs : List Res} {ao : Option Addr} {n c : Nat} (h : There rs (.slice ao n c)) (m : Nat) (hm : m ≤ n) : There rs (.slice ao m c) := fun w' hr => by
  obtain ⟨xs, x1, x2, x3⟩ := h w' hr
  exact ⟨xs.take m, by rw [List.length_take]; omega, fun x hx => x2 x (List.mem_of_mem_take hx), src_take x3 hm⟩
theorem shL_len (b : Bu) (a4 : Option Addr) (n4 c4 : Nat) : (shL b a4 n4 c4).length ≤ 1000 := by
  unfold shL
  split <;> simp
theorem shL_len5 (b : Bu) (a4 : Option Addr) (n4 c4 : Nat) : (shL b a4 n4 c4).length ≤ 5 := by
  unfold shL
  split <;> simp
theorem there_slice {rs : List Res} {p : Value} {w : World} (h : There rs p) (hr : ∀ r ∈ rs, r.ok w) : ∃ ao n c, p = .slice ao n c ∧ n ≤ c ∧ c ≤ maxLen := by
  obtain ⟨xs, _, _, ao, c, rfl, h1, h2, _⟩ := h w hr
  exact ⟨ao, _, c, rfl, h1, h2⟩
abbrev ab (PB KB : Nat) : List Value := [.pointer (some ⟨PB, 0, none⟩), .pointer (some ⟨KB, 0, none⟩), .slice none 0 0, .slice none 0 0]
abbrev advR (AB PB KB TB : Nat) (hv : Value) (hs : List Bool) (rs : List Res) : List Res := knR KB TB hv hs (blk AB (ab PB KB) 141 :: rs)
def ThereB (rs : List Res) (b : Bu) : Prop := There rs b.s1 ∧ There rs b.s2 ∧ There rs b.s3 ∧ There rs b.s4 ∧ There rs b.s5
def ShowP (w0 : World) (AB PB KB TB TM : Nat) (n : Nat) (rs : List Res) (e : Ending) (w' : World) : Prop :=
  e = .returned (.tuple #[]) ∧ ∃ v' l' hv' hs', n ≤ l'.length ∧ l'.length ≤ n + 5 ∧ hs'.length ≤ l'.length ∧ Sep w0 w' (tabR TB TM v' l' (advR AB PB KB TB hv' hs' rs))
set_option maxRecDepth 100000 in
set_option maxHeartbeats 1600000 in
theorem show_any {w0 : World} {rs : List Res} (AB PB KB TB TM : Nat) (v hv : Value) (l : List Tm) (hs : List Bool) (b : Bu) (w : World) (h : Sep w0 w (tabR TB TM v l (advR AB PB KB TB hv hs rs))) (hI : ItoaOK w0) (hl : l.length ≤ 700000) (hh : hs.length ≤ l.length) (hT : ThereB rs b) :
    Calls Tryz.prog 46 #[.pointer (some ⟨AB, 0, none⟩), .agg (bc b).toArray] w (ShowP w0 AB PB KB TB TM l.length rs) := by
  have hr : ∀ r ∈ rs, r.ok w := fun r hr => h.ok r (by simp [hr])
  obtain ⟨t1, t2, t3, t4, t5⟩ := hT
  obtain ⟨a1, n1, c1, h1, _, _⟩ := there_slice t1 hr
  obtain ⟨a2, n2, c2, h2, _, _⟩ := there_slice t2 hr
  obtain ⟨a3, n3, c3, h3, _, _⟩ := there_slice t3 hr
  obtain ⟨a4, n4, c4, h4, hn4, hc4⟩ := there_slice t4 hr
  obtain ⟨a5, n5, c5, h5, _, _⟩ := there_slice t5 hr
  have HT : Hid (∀ p ∈ shL b a4 n4 c4, There rs p) := fun p hp => by
    have q4 := (h4 ▸ t4).take (min n4 32) (Nat.min_le_left _ _)
    unfold shL at hp
    rcases List.mem_append.1 hp with hp | hp
    · simp only [List.mem_cons, List.not_mem_nil, or_false] at hp
      rcases hp with rfl | rfl | rfl | rfl
      · exact t1
      · exact t2
      · exact t3
      · exact q4
    · split at hp
      · obtain rfl : p = b.s5 := by simpa using hp
        exact t5
      · cases hp
  clear t1 t2 t3 t4 t5 hr
  go_enter Tryz.func46, Tryz.ntmps46
  go_upto_region 2 with (refine wpList_box_new rfl 88 _ rfl (.agg (bc b).toArray) rfl ?_; intro X wX oX lX bX)
  have sR := (h.quiet oX).quiet (Only.drew wX [])
  clear h
  refine wp_region_u (S := fun w' => w'.heap[AB]? = some (.cells (ab PB KB).toArray 141 (0, 0)) ∧ w'.heap[X]? = some (.cells (bc b).toArray 88 (0, 0))) 6 [] (by kernel_rfl) (by kernel_rfl) ⟨sR.get 6 rfl, bX⟩ (fun hZ hHeld => ?_)
  refine' wpAnyU_take (i := 0) (v := _) hZ (op_at' rfl) (by kernel_rfl) (by kernel_rfl) (by kernel_rfl) (by kernel_rfl) (by kernel_rfl) (fun _ _ _ h => h) (Or.inl ⟨by rfl, ?hy1⟩) (by assumption) ?rest1
  case hy1 =>
    intro w' hS
    go_simp
    try with_reducible rfl
  try simp only [Act.put, List.setIfInBounds_toArray, List.set_cons_zero, List.set_cons_succ]
  refine' wpAnyU_take (i := 1) (v := _) hZ (op_at' rfl) (by kernel_rfl) (by kernel_rfl) (by kernel_rfl) (by kernel_rfl) (by kernel_rfl) (fun _ _ _ h => h) (Or.inl ⟨by rfl, ?hy2⟩) (by assumption) ?rest2
  case hy2 =>
    intro w' hS
    go_simp
    try with_reducible rfl
  try simp only [Act.put, List.setIfInBounds_toArray, List.set_cons_zero, List.set_cons_succ]
  refine' wpAnyU_take (i := 2) (v := _) hZ (op_at' rfl) (by kernel_rfl) (by kernel_rfl) (by kernel_rfl) (by kernel_rfl) (by kernel_rfl) (fun _ _ _ h => h) (Or.inl ⟨by rfl, ?hy3⟩) (by assumption) ?rest3
  case hy3 =>
    intro w' hS
    go_simp
    try with_reducible rfl
  try simp only [Act.put, List.setIfInBounds_toArray, List.set_cons_zero, List.set_cons_succ]
  refine' wpAnyU_take (i := 3) (v := _) hZ (op_at' rfl) (by kernel_rfl) (by kernel_rfl) (by kernel_rfl) (by kernel_rfl) (by kernel_rfl) (fun _ _ _ h => h) (Or.inl ⟨by rfl, ?hy4⟩) (by assumption) ?rest4
  case hy4 =>
    intro w' hS
    have c1 := cell_in hS.1 1
    go_simp
    try with_reducible rfl
  try simp only [Act.put, List.setIfInBounds_toArray, List.set_cons_zero, List.set_cons_succ]
  refine wpAnyU_take (i := 4) hZ (op_at' rfl) (by kernel_rfl) (by kernel_rfl) (by kernel_rfl) (by kernel_rfl) (by kernel_rfl) (fun _ _ _ h => h) (yieldsIf_load_mid (by rfl) _ _ rfl X 0 rfl (bc b) _ (fun w' hS => range_of hS.2) Tryz.underlying88 (by rfl) (by kernel_rfl)) (by assumption) ?_
  try simp only [Act.put, List.setIfInBounds_toArray, List.set_cons_zero, List.set_cons_succ]
  refine wpAnyU_one (i := 5) (by kernel_rfl) (op_at' rfl) (fun K hK => ?_)
  go_simp
  refine (shown_any b a1 a2 a3 a4 a5 n1 c1 n2 c2 n3 c3 n4 c4 n5 c5 _ h1 h2 h3 h5 h4 hn4 hc4).mono ?_
  rintro e w5 ⟨r5, rfl, q5⟩
  have s5 := (sR.more q5).sel 8 [1, 2, 3, 4, 5, 6, 0, 7]
  go_wp2_with fail
  refine hK.out _ _ ⟨s5.get 7 rfl, q5.only.at hHeld.2 (by simp)⟩ (fun hHeld => ?_)
  clear hK K
  try simp only [Act.put, List.setIfInBounds_toArray, List.set_cons_zero, List.set_cons_succ]
  refine wpAnyU_next (i := 6) (by kernel_rfl) (by simp) (op_at' rfl) (fun K hK => ?_)
  go_simp
  refine (learn_any KB TB TM v hv l hs r5 (shL b a4 n4 c4) _ s5 hI (by omega) hh (shL_len _ _ _ _) (fun w' hr => own_src (hr (row 22 1 r5 (shL b a4 n4 c4).length (shL b a4 n4 c4)) (by simp))) (fun p hp => (HT.out p hp).mono (fun r hr => by simp [hr]))).mono ?_
  rintro e w6 ⟨rfl, v6, l6, hv6, hs6, p1, p2, p3, s6⟩
  go_wp2_with fail
  refine hK.out _ _ ?_
  clear hK K
  try simp only [Act.put, List.setIfInBounds_toArray, List.set_cons_zero, List.set_cons_succ]
  refine wpAnyU_done (by kernel_rfl) ?_ _
  go_wp2_with fail
  refine bodyPost_end (v := .tuple #[]) (by simp [results, Tryz.results46, go_sem]) rfl ?_
  have q := shL_len5 b a4 n4 c4
  exact ⟨rfl, v6, l6, hv6, hs6, p1, by omega, p3, s6.sel 8 [0, 1, 2, 3, 4, 5, 7]⟩
end Go.Proofs.YtmmhbehlpppdiaaGreatDoor.Wl
namespace Go.Pw
open Go.RowKit
theorem wpList_convert_k {P : Program} {W : World} {C : Array Value} {g n c : Nat} {ops : Array Oper} {rest : List Oper} {op : Oper} {a : Act} {Q : Exit → Act → World → Prop} (hgd : op.guard = none) (x : Operand) (t e : TypeId) (ho : op.op = .convert t t x)
    (hx : a.eval x = .slice (some ⟨g, 0, none⟩) n c) (hg : g = W.heap.size) (ht : P.underlying t = some (.slice e)) (he : P.underlying e = some (.int .u8))
    (h : wpList P ops Q rest (a.put op.dst (.slice (some ⟨g, 0, none⟩) n c)) (W.alloc (.cells C e (C.size, C.size + 1)))) : wpList P ops Q (op :: rest) a (W.alloc (.cells C e)) :=
  wpList_plain hgd fun _ hK => by
    unfold Oper.wp execOp
    have hr := Joins.run_convert_bytes_const_at (P := P) W t e C n c g hg ht he
    simp only [ho, hx, hr, Sem.run_bind, Result.andThen_ok]
    exact hK _ _ h
end Go.Pw
namespace Go.Proofs.YtmmhbehlpppdiaaGreatDoor.Wl
open Go.RowKit Go.Pw
def be (n : Int) : Nat → List Int
  | 0 => []
  | k + 1 => (n / 256 ^ k) % 256 :: be n k

theorem be_len (n : Int) (k : Nat) : (be n k).length = k := by
  induction k with
  | zero => rfl
  | succ k ih => simp [be, ih]

theorem be_head (n : Int) (k : Nat) (hn0 : 0 ≤ n) : IntKind.u8.wrap (n / 2 ^ (8 * k)) = (n / 256 ^ k) % 256 := by
  rw [show (2 : Int) ^ (8 * k) = 256 ^ k by rw [Int.pow_mul]; rfl]
  simp [IntKind.wrap, IntKind.bits, IntKind.signed]

set_option maxRecDepth 100000 in
set_option maxHeartbeats 800000 in
theorem wnum_any (B : Nat) (v0 : Value) (xs : List Int) (n : Int) (k : Nat) (w : World) (hk : k ≤ 8) (hn0 : 0 ≤ n) (hn1 : n < 18446744073709551616) (hw : IsW 300 5 B v0 xs w) (hx : xs.length ≤ 1000000) :
    Calls Tryz.prog 182 #[.pointer (some ⟨B, 0, none⟩), .int .u64 n, .int .i64 k] w fun e w' => e = .returned (.pointer (some ⟨B, 0, none⟩)) ∧ ∃ v', IsW 300 5 B v' (xs ++ be n k) w' ∧ SoN w v0 v' ∧ Only w w' (B :: v0.ownBlock.toList) := by
  obtain ⟨i0, hi, hz0, hz1, hz2⟩ := info_parts info_u8
  go_enter Tryz.func182, Tryz.ntmps182
  go_wp2
  go_loopw [7] (fun i wr => ∃ j : Nat, i = .int .i64 ((j : Int) - 1) ∧ j ≤ k ∧ ∃ v ys, IsW 300 5 B v ys wr ∧ SoN w v0 v ∧ Only w wr (B :: v0.ownBlock.toList) ∧ ys ++ be n j = xs ++ be n k ∧ ys.length ≤ 1000000 + k - j)
    (fun i _ => (intOf i + 1).toNat)
  case atStart => exact ⟨k, rfl, Nat.le_refl _, v0, xs, hw, SoN.refl _ _, Only.refl _ _, rfl, by omega⟩
  case round =>
    obtain ⟨j, rfl, hj, v, ys, ⟨hB, hown⟩, hson, honly, hys, hyl⟩ := hrel
    by_cases hj0 : j = 0
    · subst hj0
      go_wp2
      go_ret
      refine ⟨rfl, v, ?_, hson, honly⟩
      have e : ys = xs ++ be n k := by simpa [be] using hys
      subst e
      exact ⟨hB, hown⟩
    · obtain ⟨j', rfl⟩ : ∃ j', j = j' + 1 := ⟨j - 1, by omega⟩
      have hc := cell_of_one hB
      have hf := free_of_one hB
      obtain ⟨ao, cc, hv⟩ := own_slice hown
      have e1 : IntKind.i64.wrap (8 * (j' : Int)) = 8 * (j' : Int) := IntWalk.i64_in _ (by omega)
      have p1 : 0 ≤ 8 * (j' : Int) := by omega
      have m1 : (8 * (j' : Int)).toNat = 8 * j' := by omega
      have hne := own_ne hown hB (by decide)
      subst hv
      have hca : ∀ o, (wr.alloc o).cell? ⟨B, 0, none⟩ = some (.slice ao ys.length cc) := cell_al hc
      go_wp2
      go_region_law (refine step_append_src rfl (.tmp 22) (.tmp 28) 22 rfl 5 i0 (.int .u8 0) 1 1 Tryz.underlying22 hi hz0 hz1 hz2 rfl (by decide) _ ys.length _ (by simp [Act.eval]) (hown.alloc _).drew _ 1 _ (by simp [Act.eval]) (src_one _ _ _).drew (by simp [Value.oneCell']) (by unfold maxLen; omega) (by omega) (fun v' w' h1 h2 h3 => ?_); obtain ⟨ao', cc', rfl⟩ := own_slice h1; have hB' := grown_block h2 (show _ = some (.cells #[_] 300 (0, 0)) from (Below.heap_alloc wr _ B (Array.getElem?_eq_some_iff.1 hB).1).trans hB) hne; have hc' := cell_of_one hB'; have hf' := free_of_one hB')
      all_goals
        go_wp2
        go_roundw
        case rel =>
          obtain ⟨r1, r2, r3⟩ := isw_step (news := [IntKind.u8.wrap (n / 2 ^ (8 * j'))]) (by decide) ⟨hB, hown⟩ ((Only.alloc wr _ []).trans (Only.drew _ [])) h1 h2 h3
          exact ⟨j', rfl, by omega, _, _, r1, hson.trans r2 honly.size, honly.step r3 (own_list hson), by rw [← hys]; simp [be, be_head n j' hn0], by simp; omega⟩
        case measure => simp [intOf]

set_option maxRecDepth 100000 in
set_option maxHeartbeats 800000 in
theorem wdone_any (B : Nat) (v0 : Value) (xs : List Int) (w : World) (hw : IsW 300 5 B v0 xs w) (hx : xs.length ≤ 1000000000) :
    Calls Tryz.prog 183 #[.pointer (some ⟨B, 0, none⟩)] w fun e w' => ∃ v, e = .returned v ∧ w'.ownsRow 0 5 1 v xs.length (xs.map (Value.int .u8)) ∧ SoN w (.slice none 0 0) v ∧ Only w w' [] := by
  obtain ⟨i0, hi, hz0, hz1, hz2⟩ := info_parts info_u8
  obtain ⟨ao, c, rfl⟩ := hw.slice
  have hc := cell_of_one hw.1
  have hs := own_src hw.2
  go_enter Tryz.func183, Tryz.ntmps183
  go_wp2_with (at_builtin; refine wpList_append_src rfl _ _ 22 rfl 5 i0 (.int .u8 0) 1 1 Tryz.underlying22 hi hz0 hz1 hz2 rfl (by decide) (.slice none 0 0) 0 [] rfl (World.ownsRow_nil _ _ _ _) _ xs.length _ rfl hs (by simp [Value.oneCell']) (by unfold maxLen; omega) (by omega) ?_; intro v' w' h1 h2 h3; simp only [Nat.zero_add, List.nil_append] at h1; obtain ⟨ao', cc', rfl⟩ := own_slice h1)
  go_ret
  exact ⟨_, rfl, h1, h3, Only.grown h2 (by simp [Value.ownBlock])⟩

set_option maxRecDepth 100000 in
set_option maxHeartbeats 800000 in
theorem wbytes_any (B : Nat) (v0 p : Value) (xs ps : List Int) (w : World) (hw : IsW 300 5 B v0 xs w) (hx : xs.length ≤ 900000) (hp : Pw.Src w p 1 ps.length (ps.map (Value.int .u8))) (hpl : ps.length ≤ 1000000000) (ha : Off p (B :: v0.ownBlock.toList)) :
    Calls Tryz.prog 181 #[.pointer (some ⟨B, 0, none⟩), p] w fun e w' => e = .returned (.pointer (some ⟨B, 0, none⟩)) ∧ ∃ v', IsW 300 5 B v' (xs ++ be ps.length 4 ++ ps) w' ∧ SoN w v0 v' ∧ Only w w' (B :: v0.ownBlock.toList) := by
  obtain ⟨i0, hi, hz0, hz1, hz2⟩ := info_parts info_u8
  obtain ⟨ao, c, rfl, _, _, _⟩ := id hp
  go_enter Tryz.func181, Tryz.ntmps181
  go_wp2_with fail
  refine (wnum_any B v0 xs ps.length 4 _ (by decide) (by omega) (by omega) hw (by omega)).mono ?_
  rintro e w1 ⟨rfl, v1, hw1, hs1, ho1⟩
  obtain ⟨ys, hys⟩ : ∃ ys, ys = xs ++ be ps.length 4 := ⟨_, rfl⟩
  rw [← hys] at hw1
  have hyl : ys.length ≤ 900004 := by rw [hys]; simp [be_len]; omega
  have Hys := Lib.hid hys
  clear hys hw hx
  have hsz := ho1.size
  have hp1 := hp.off ho1 ha
  obtain ⟨ao1, c1, hv1⟩ := hw1.slice
  obtain rfl := hv1
  have hc := cell_of_one hw1.1
  go_wp2_with (at_builtin; refine wpList_append_src rfl _ _ 22 rfl 5 i0 (.int .u8 0) 1 1 Tryz.underlying22 hi hz0 hz1 hz2 rfl (by decide) (.slice ao1 ys.length c1) _ _ rfl hw1.2 _ ps.length _ rfl hp1 (by simp [Value.oneCell']) (by unfold maxLen; omega) (by omega) ?_; intro v' w' h1 h2 h3; obtain ⟨ao', cc', rfl⟩ := own_slice h1; have hB' := grown_block h2 hw1.1 (own_ne hw1.2 hw1.1 (by decide)); have hc' := cell_of_one hB'; have hf' := free_of_one hB')
  obtain ⟨r1, r2, r3⟩ := isw_step (news := ps) (by decide) hw1 (Only.refl _ []) h1 h2 h3
  go_ret
  exact ⟨rfl, _, Hys.out ▸ r1, hs1.trans r2 hsz, ho1.step r3 (own_list hs1)⟩
def MsgP (w : World) (e : Ending) (w' : World) : Prop := ∃ (r : Value) (ms : List Int), e = .returned r ∧ ms.length ≤ 1000000 ∧ Sep w w' [row 5 1 r ms.length (ms.map (Value.int .u8))]
set_option maxRecDepth 100000 in
set_option maxHeartbeats 800000 in
theorem message_any (n : Int) (key : Value) (ks : List Int) (w : World) (hn0 : 0 ≤ n) (hn1 : n < 4294967296) (hk : Pw.Src w key 1 ks.length (ks.map (Value.int .u8))) (hkl : ks.length ≤ 1000) :
    Calls Tryz.prog 109 #[.int .u32 n, key] w (MsgP w) := by
  obtain ⟨ak, ck, rfl, _⟩ := id hk
  go_enter Tryz.func109, Tryz.ntmps109
  go_wp2_with (refine wpList_convert_k rfl _ 22 5 rfl rfl (by simp) Tryz.underlying22 Tryz.underlying5 ?_)
  have hsz : (w.alloc (.cells #[.slice none 0 0] 300)).heap.size = w.heap.size + 1 := by simp
  have hsrc := src_litF (w.alloc (.cells #[.slice none 0 0] 300)) [.int .u8 112, .int .u8 114, .int .u8 101, .int .u8 107, .int .u8 101, .int .u8 121] 5 (6, 7) 6 1 rfl
  rw [hsz] at hsrc
  have hB := (Only.alloc (w.alloc (.cells #[.slice none 0 0] 300)) (.cells #[.int .u8 112, .int .u8 114, .int .u8 101, .int .u8 107, .int .u8 101, .int .u8 121] 5 (6, 7)) []).at (heap_alloc_new w (.cells #[.slice none 0 0] 300)) (by simp)
  have oC := (Only.alloc w (.cells #[.slice none 0 0] 300) []).trans (Only.alloc (w.alloc (.cells #[.slice none 0 0] 300)) (.cells #[.int .u8 112, .int .u8 114, .int .u8 101, .int .u8 107, .int .u8 101, .int .u8 121] 5 (6, 7)) [])
  have hW0 : IsW 300 5 w.heap.size (.slice none 0 0) [] _ := ⟨hB, World.ownsRow_nil _ _ _ _⟩
  have hwl : w.heap.size ≤ w.heap.size := Nat.le_refl _
  generalize (w.alloc (.cells #[.slice none 0 0] 300)).alloc (.cells #[.int .u8 112, .int .u8 114, .int .u8 101, .int .u8 107, .int .u8 101, .int .u8 121] 5 (6, 7)) = wC at *
  clear hsz hB
  refine (wbytes_any w.heap.size (.slice none 0 0) (.slice (some ⟨w.heap.size + 1, 0, none⟩) 6 6) [] [112, 114, 101, 107, 101, 121] wC hW0 (by decide) hsrc (by decide) (fun _ k hk hk2 => by simp [Value.ownBlock] at hk hk2; omega)).mono ?_
  rintro e w1 ⟨rfl, v1, hw1, hs1, ho1⟩
  have f1 : ∀ k ∈ w.heap.size :: v1.ownBlock.toList, w.heap.size ≤ k := fun k hk => by
    rcases List.mem_cons.1 hk with rfl | hk
    · exact Nat.le_refl _
    · rcases hs1.toList k hk with h | h
      · simp [Value.ownBlock] at h
      · have := oC.size; omega
  have o1 : Only w w1 [] := oC.new ho1 (fun k hk => by simp [Value.ownBlock] at hk; omega)
  have hl1 : ([] ++ be ([112, 114, 101, 107, 101, 121] : List Int).length 4 ++ [112, 114, 101, 107, 101, 121]).length = 10 := by simp [be_len]
  generalize [] ++ be ([112, 114, 101, 107, 101, 121] : List Int).length 4 ++ [112, 114, 101, 107, 101, 121] = x1 at *
  clear hW0 hsrc ho1 hs1 oC
  have e0 : IntKind.u64.wrap n = n := by rw [IntKind.wrap_u64]; omega
  go_wp2_with fail
  refine (wnum_any w.heap.size v1 x1 n 4 w1 (by decide) hn0 (by omega) hw1 (by omega)).mono ?_
  rintro e w2 ⟨rfl, v2, hw2, hs2, ho2⟩
  have o2 : Only w w2 [] := o1.new ho2 f1
  have f2 : ∀ k ∈ w.heap.size :: v2.ownBlock.toList, w.heap.size ≤ k := fun k hk => by
    rcases List.mem_cons.1 hk with rfl | hk
    · exact Nat.le_refl _
    · rcases hs2.toList k hk with h | h
      · exact f1 k (by simp [h])
      · have := o1.size; omega
  have hl2 : (x1 ++ be n 4).length = 14 := by simp [be_len, hl1]
  generalize x1 ++ be n 4 = x2 at *
  clear hw1 hs2 ho2 f1
  go_wp2_with fail
  refine (wbytes_any w.heap.size v2 (.slice ak ks.length ck) x2 ks w2 hw2 (by omega) (hk.off o2 (fun _ _ _ => by simp)) (by omega) (hk.off_new (by decide) f2)).mono ?_
  rintro e w3 ⟨rfl, v3, hw3, hs3, ho3⟩
  have o3 : Only w w3 [] := o2.new ho3 f2
  have hl3 : (x2 ++ be ks.length 4 ++ ks).length ≤ 1000000 := by simp [be_len, hl2]; omega
  generalize x2 ++ be ks.length 4 ++ ks = x3 at *
  clear hw2 hs3 ho3 f2
  go_wp2_with fail
  refine (wdone_any w.heap.size v3 x3 w3 hw3 (by omega)).mono ?_
  rintro e w4 ⟨v4, rfl, h4, hs4, ho4⟩
  go_wp2_with fail
  go_ret
  refine ⟨v4, x3, rfl, hl3, (Sep.nil w).add (o3.trans ho4) h4 (fun k hk => ?_)⟩
  rcases hs4.toList k hk with h | h
  · simp [Value.ownBlock] at h
  · have := o3.size; omega
end Go.Proofs.YtmmhbehlpppdiaaGreatDoor.Wl
namespace Go.Proofs.YtmmhbehlpppdiaaGreatDoor
open Go.RowKit Go.Pw
def Fresh (xs : List Int) (w : World) (e : Ending) (w' : World) : Prop := ∃ v, e = .returned v ∧ w'.ownsRow 0 5 1 v xs.length (xs.map (Value.int .u8)) ∧ SoN w (.slice none 0 0) v ∧ Only w w' []
structure It where
  n : Int
  ao : Option Addr
  cp : Nat
  bs : List Int
def ev (x : It) : Value := .slice x.ao x.bs.length x.cp
def ic (x : It) : List Value := [.int .u64 x.n, ev x]
def flat (l : List It) : List Value := l.flatMap ic
def env (x : It) : Res := row 5 1 (ev x) x.bs.length (x.bs.map (Value.int .u8))
def ct (x : It) : Int × List Int := (x.n, x.bs)
def itemsR (v : Value) (l : List It) : Res := two (row 124 2 v l.length (flat l)) (many (l.map env))
def box (B : Nat) (v : Value) (l : List It) (last : Int) : Res := two (blk B [v, .int .u64 last] 129) (itemsR v l)

theorem box_facts {w0 w : World} {rs : List Res} {B : Nat} {v : Value} {l : List It} {last : Int} (h : Sep w0 w (box B v l last :: rs)) :
    w.heap[B]? = some (.cells #[v, .int .u64 last] 129 (0, 0)) ∧ w.ownsRow 0 124 2 v l.length (flat l) ∧ (∀ x ∈ l, w.ownsRow 0 5 1 (ev x) x.bs.length (x.bs.map (Value.int .u8))) ∧ v.ownBlock ≠ some B := by
  have h0 : (box B v l last).ok w := h.head
  refine ⟨h0.1, h0.2.1.1, fun x hx => h0.2.1.2.1.1 (env x) (List.mem_map.2 ⟨x, hx, rfl⟩), fun e => h0.2.2 B (by simp [blk]) ?_⟩
  exact List.mem_append.2 (.inl (by simp [row, e]))

theorem box_slice {w : World} {v : Value} {l : List It} (h : w.ownsRow 0 124 2 v l.length (flat l)) : ∃ ao c, v = .slice ao l.length c := own_slice h

set_option maxHeartbeats 400000 in
theorem len_any {w0 : World} {rs : List Res} (B : Nat) (v : Value) (l : List It) (last : Int) (w : World) (h : Sep w0 w (box B v l last :: rs)) :
    Calls Tryz.prog 81 #[.pointer (some ⟨B, 0, none⟩)] w fun e w' => e = .returned (.int .i64 l.length) ∧ w = w' := by
  obtain ⟨hB, hr, _, _⟩ := box_facts h
  obtain ⟨ao, c, rfl⟩ := box_slice hr
  have h0 := cell_two0 hB
  go_enter Tryz.func81, Tryz.ntmps81
  go_wp2
  go_ret
  exact ⟨rfl, rfl⟩
end Go.Proofs.YtmmhbehlpppdiaaGreatDoor
namespace Go.Pw
open Go.RowKit

def kv (e : MapEntry) : Value × Value := (e.key, e.val)
def mapR (B : Nat) (m : List ((Int × Int) × Value)) : Res where
  fp := [B]
  ok w := ∃ es c, w.heap[B]? = some (.map es c) ∧ es.toList.map kv = m.map fun q => (.agg (wc q.1).toArray, q.2)
  loc w w' h k := by
    obtain ⟨es, c, h1, h2⟩ := k
    exact ⟨es, c, (h B (by simp)).trans h1, h2⟩
  lt w h k hk := by
    obtain ⟨es, c, h1, h2⟩ := h
    obtain rfl : k = B := by simpa using hk
    exact (Array.getElem?_eq_some_iff.1 h1).1
theorem step_box_new {P : Program} {ops : Array Oper} {o : Oper} {a : Act} {w : World} {K : Act → World → Prop} {Q : Exit → Act → World → Prop} {E : Prop}
    (hg : o.guard = none) (T : TypeId) (x : Operand) (ho : o.op = .box T x) (z : Value) (hx : a.eval x = z)
    (h : ∀ X w', Only w w' [] → w.heap.size ≤ X → w'.heap[X]? = some (.cells z.cells T (0, 0)) → K (a.put o.dst (.pointer (some ⟨X, 0, none⟩))) w') : if Region.wanted o (yielded ops a.tmps) = true then Oper.wp P o a w K Q else E := by
  have hw : Region.wanted o (yielded ops a.tmps) = true := by simp [Region.wanted, hg]
  rw [if_pos hw]
  unfold Oper.wp execOp
  simp only [ho, hx, Instr.box, Sem.run_bind, Result.andThen_ok]
  exact h w.heap.size _ (Only.alloc w (.cells z.cells T) []) (Nat.le_refl _) (heap_alloc_new w _)
theorem step_alloc_new {P : Program} {ops : Array Oper} {o : Oper} {a : Act} {w : World} {K : Act → World → Prop} {Q : Exit → Act → World → Prop} {E : Prop}
    (hg : o.guard = none) (T : TypeId) (ho : o.op = .alloc T) (z : Value) (hz : ∀ w, (zeroValue T).run P w = .ok z w)
    (h : ∀ X w', Only w w' [] → w.heap.size ≤ X → w'.heap[X]? = some (.cells z.cells T (0, 0)) → K (a.put o.dst (.pointer (some ⟨X, 0, none⟩))) w') : if Region.wanted o (yielded ops a.tmps) = true then Oper.wp P o a w K Q else E := by
  have hw : Region.wanted o (yielded ops a.tmps) = true := by simp [Region.wanted, hg]
  rw [if_pos hw]
  unfold Oper.wp execOp
  simp only [ho, Instr.alloc, Sem.run_bind, hz, Result.andThen_ok]
  exact h w.heap.size _ (Only.alloc w (.cells z.cells T) []) (Nat.le_refl _) (heap_alloc_new w _)
theorem wpList_makeMap_new {P : Program} {ops : Array Oper} {rest : List Oper} {op : Oper} {a : Act} {w : World} {Q : Exit → Act → World → Prop} (hgd : op.guard = none) (T : TypeId) (ho : op.op = .makeMap T none)
    (h : ∀ X w', Only w w' [] → w.heap.size ≤ X → w'.heap[X]? = some (.map #[] 0) → wpList P ops Q rest (a.put op.dst (.map (some X))) w') : wpList P ops Q (op :: rest) a w :=
  wpList_plain hgd fun _ hK => by
    unfold Oper.wp execOp
    simp only [ho, Instr.makeMap, newObj, go_sem, Result.andThen_ok, Option.map_none]
    exact hK _ _ (h w.heap.size _ (Only.alloc w _ []) (Nat.le_refl _) (heap_alloc_new w _))
def putM (m : List ((Int × Int) × Value)) (p : Int × Int) (v : Value) : List ((Int × Int) × Value) := match m with
  | [] => [(p, v)]
  | q :: m => if q.1 = p then (q.1, v) :: m else q :: putM m p v
end Go.Pw
namespace Go.Proofs.YtmmhbehlpppdiaaGreatDoor
open Go.RowKit Go.Pw

theorem run_eqW (p q : Int × Int) (w : World) : (Op.equal 40 (.agg (wc p).toArray) (.agg (wc q).toArray)).run Tryz.prog w = .ok (decide (p = q)) w := by
  obtain ⟨a, b⟩ := p
  obtain ⟨c, d⟩ := q
  have q0 : (wc (a, b))[0]? = some (Value.int .i64 a) := rfl
  have q1 : (wc (a, b))[1]? = some (Value.int .i64 b) := rfl
  have q2 : (wc (c, d))[0]? = some (Value.int .i64 c) := rfl
  have q3 : (wc (c, d))[1]? = some (Value.int .i64 d) := rfl
  unfold Op.equal
  rw [show Op.maxDepth = 9998 + 1 + 1 from rfl, Op.equalIn]
  go_simp
  by_cases h1 : a = c
  · by_cases h2 : b = d
    · simp [h1, h2]
    · simp [h1, h2]
  · simp [h1]
theorem run_checkW (p : Int × Int) (b : Bool) (w : World) : (Instr.checkKey b 10000 40 (.agg (wc p).toArray)).run Tryz.prog w = .ok () w := by
  obtain ⟨x, y⟩ := p
  have q0 : (wc (x, y))[0]? = some (Value.int .i64 x) := rfl
  have q1 : (wc (x, y))[1]? = some (Value.int .i64 y) := rfl
  rw [show 10000 = 9998 + 1 + 1 from rfl, Instr.checkKey]
  go_simp
  rw [Instr.checkKey]
  go_simp
  rw [Instr.checkKey]
  go_simp
def firstM (m : List ((Int × Int) × Value)) (p : Int × Int) (i : Nat) : Option (Nat × Value) := match m with
  | [] => none
  | q :: m => if q.1 = p then some (i, q.2) else firstM m p (i + 1)
theorem firstM_put (m : List ((Int × Int) × Value)) (p : Int × Int) (v : Value) : ∀ i, (firstM m p i = none → putM m p v = m ++ [(p, v)]) ∧ ∀ j x, firstM m p i = some (j, x) → i ≤ j ∧ j - i < m.length ∧ (m[j - i]?).map (·.1) = some p ∧ putM m p v = m.modify (j - i) fun q => (q.1, v) := by
  induction m with
  | nil => intro i; exact ⟨fun _ => rfl, fun j x h => by simp [firstM] at h⟩
  | cons q m ih =>
    intro i
    by_cases h : q.1 = p
    · refine ⟨fun e => by simp [firstM, h] at e, fun j x e => ?_⟩
      simp only [firstM, h, if_true, Option.some.injEq, Prod.mk.injEq] at e
      obtain ⟨rfl, _⟩ := e
      simp [putM, h]
    · obtain ⟨h1, h2⟩ := ih (i + 1)
      refine ⟨fun e => ?_, fun j x e => ?_⟩
      · simp only [firstM, h, if_false] at e
        simp [putM, h, h1 e]
      · simp only [firstM, h, if_false] at e
        obtain ⟨a, b, c, d⟩ := h2 j x e
        obtain ⟨k, hk⟩ : ∃ k, j - i = k + 1 := ⟨j - (i + 1), by omega⟩
        have hk2 : j - (i + 1) = k := by omega
        rw [hk2] at b c d
        refine ⟨by omega, by rw [hk]; simp; omega, ?_, ?_⟩
        · rw [hk]; simpa using c
        · rw [hk]; simp [putM, h, d, List.modify_succ_cons]

theorem run_asking (p : Int × Int) (w : World) : ∀ (es : List MapEntry) (m : List ((Int × Int) × Value)) (i : Nat), es.map kv = m.map (fun q => (.agg (wc q.1).toArray, q.2)) →
    (Instr.findAsking 40 (.agg (wc p).toArray) es i).run Tryz.prog w = .ok (firstM m p i) w
  | [], m, i, h => by
    obtain rfl : m = [] := by cases m with | nil => rfl | cons q m => simp at h
    simp [Instr.findAsking, firstM]
  | e :: es, [], i, h => by simp at h
  | e :: es, q :: m, i, h => by
    simp only [List.map_cons, List.cons.injEq] at h
    obtain ⟨h1, h2⟩ := h
    simp only [kv, Prod.mk.injEq] at h1
    have ih := run_asking p w es m (i + 1) h2
    simp only [Instr.findAsking, Sem.run_bind, h1.1, run_eqW, Result.andThen_ok, firstM]
    by_cases hq : p = q.1
    · subst hq
      simp [h1.2]
    · have hq' : ¬ q.1 = p := fun e => hq e.symm
      simp [hq, hq', ih]
theorem run_findW (p : Int × Int) (w : World) (es : List MapEntry) (m : List ((Int × Int) × Value)) (h : es.map kv = m.map (fun q => (.agg (wc q.1).toArray, q.2))) :
    (Instr.findKey 40 (.agg (wc p).toArray) es).run Tryz.prog w = .ok (firstM m p 0) w := by
  have ha := run_asking p w es m 0 h
  cases es with
  | nil =>
    obtain rfl : m = [] := by cases m with | nil => rfl | cons q m => simp at h
    simp [Instr.findKey, Instr.findNow, run_underlying Tryz.underlying40, firstM]
  | cons e es =>
    cases m with
    | nil => simp at h
    | cons q m =>
      simp only [List.map_cons, List.cons.injEq] at h
      have hk : e.key = .agg (wc q.1).toArray := (Prod.mk.inj h.1).1
      simp [Instr.findKey, Instr.findNow, run_underlying Tryz.underlying40, Instr.sameNow, hk, ha]
theorem run_staysW (p : Int × Int) (w : World) : (Instr.keyThatStays (.agg (wc p).toArray) (.agg (wc p).toArray)).run Tryz.prog w = .ok (.agg (wc p).toArray) w := by
  obtain ⟨a, b⟩ := p
  have : Instr.sameBits 10000 (.agg (wc (a, b)).toArray) (.agg (wc (a, b)).toArray) = true := by
    rw [show 10000 = 9998 + 1 + 1 from rfl]
    simp [Instr.sameBits, wc]
  simp [Instr.keyThatStays, this]
theorem only_setBlock (w : World) (B : Nat) (o : Obj) : Only w (Go.ChangeMaps.setBlock w B o) [B] :=
  ⟨rfl, rfl, rfl, by simp [Go.ChangeMaps.setBlock], fun i hi hn => by
    have : i ≠ B := by simpa using hn
    simp [Go.ChangeMaps.setBlock, Array.getElem?_setIfInBounds, Ne.symm this]⟩
theorem run_updateW {w0 w : World} {rs : List Res} (T E : TypeId) (B : Nat) (m : List ((Int × Int) × Value)) (p : Int × Int) (v : Value) (h : Sep w0 w (mapR B m :: rs)) (hT : Tryz.prog.underlying T = some (.map 40 E)) :
    ∃ w', (Instr.mapUpdate T (.map (some B)) (.agg (wc p).toArray) v).run Tryz.prog w = .ok () w' ∧ Only w w' [B] ∧ Sep w0 w' (mapR B (putM m p v) :: rs) := by
  obtain ⟨es, c, h1, h2⟩ := (show (mapR B m).ok w from h.head)
  have hf := run_findW p w es.toList m h2
  have hp := firstM_put m p v 0
  cases hq : firstM m p 0 with
  | none =>
    rw [hq] at hf
    refine ⟨_, by simp [Instr.mapUpdate, run_underlying hT, MapKept.run_getObj_map h1, run_checkW, hf, MapKept.run_setObj_map _ h1, Result.andThen]; rfl, only_setBlock w B (.map (es.push { key := .agg (wc p).toArray, val := v, born := c }) (c + 1)), ?_⟩
    refine h.step (L := [B]) (only_setBlock w B _) (fun k hk => .inl (by simpa [mapR] using hk)) ⟨_, _, Go.ChangeMaps.heap_setBlock_same h1 _, ?_⟩ (fun k hk => .inl hk)
    rw [hp.1 hq]
    simp [h2, kv]
  | some jx =>
    obtain ⟨j, x⟩ := jx
    rw [hq] at hf
    obtain ⟨_, hj, hk, hm⟩ := hp.2 j x hq
    simp only [Nat.sub_zero] at hj hk hm
    have hlen : es.toList.length = m.length := by have := congrArg List.length h2; simpa using this
    have hje : j < es.size := by rw [Array.length_toList] at hlen; omega
    have hkey : es[j].key = .agg (wc p).toArray := by
      have e1 : (es.toList.map kv)[j]? = (m.map fun q => ((Value.agg (wc q.1).toArray, q.2) : Value × Value))[j]? := by rw [h2]
      rw [List.getElem?_map, List.getElem?_map] at e1
      rw [List.getElem?_eq_getElem hj] at hk e1
      rw [Array.getElem?_toList, Array.getElem?_eq_getElem hje] at e1
      simp only [Option.map_some, Option.some.injEq, kv, Prod.mk.injEq] at hk e1
      rw [e1.1, hk]
    refine ⟨_, by simp [Instr.mapUpdate, run_underlying hT, MapKept.run_getObj_map h1, run_checkW, hf, hje, hkey, run_staysW, MapKept.run_setObj_map _ h1, Result.andThen]; rfl, only_setBlock w B (.map (es.modify j fun e => { e with key := .agg (wc p).toArray, val := v }) c), ?_⟩
    refine h.step (L := [B]) (only_setBlock w B _) (fun k hk => .inl (by simpa [mapR] using hk)) ⟨_, _, Go.ChangeMaps.heap_setBlock_same h1 _, ?_⟩ (fun k hk => .inl hk)
    rw [hm]
    refine List.ext_getElem? fun i => ?_
    have e2 : (es.toList.map kv)[i]? = (m.map fun q => ((Value.agg (wc q.1).toArray, q.2) : Value × Value))[i]? := by rw [h2]
    simp only [List.getElem?_map, Array.toList_modify, List.getElem?_modify] at e2 ⊢
    by_cases hij : j = i
    · subst hij
      simp only [if_true]
      rw [List.getElem?_eq_getElem hj] at hk ⊢
      simp only [Option.map_some, Option.some.injEq] at hk
      rw [Array.getElem?_toList, Array.getElem?_eq_getElem hje]
      simp [kv, hk]
    · simp only [hij, if_false]
      simpa using e2
end Go.Proofs.YtmmhbehlpppdiaaGreatDoor
namespace Go.Proofs.YtmmhbehlpppdiaaGreatDoor.Wl
open Go.RowKit Go.Pw

abbrev kc (u d : Int) (ag sg sv ov : Value) (nx : Int) (mv : Value) : List Value := [.int .i64 u, .int .i64 d, ag, sg, sv, ov, .int .u32 nx, mv]
theorem kc_at {w : World} {KB : Nat} {u d nx : Int} {ag sg sv ov mv : Value} (h : w.heap[KB]? = some (.cells (kc u d ag sg sv ov nx mv).toArray 176 (0, 0))) :
    w.cell? ⟨KB, 0, none⟩ = some (.int .i64 u) ∧ w.cell? ⟨KB, 1, none⟩ = some (.int .i64 d) ∧ w.cell? ⟨KB, 2, none⟩ = some ag ∧ w.cell? ⟨KB, 3, none⟩ = some sg ∧ w.cell? ⟨KB, 4, none⟩ = some sv ∧ w.cell? ⟨KB, 5, none⟩ = some ov ∧ w.cell? ⟨KB, 6, none⟩ = some (.int .u32 nx) ∧ w.cell? ⟨KB, 7, none⟩ = some mv :=
  ⟨cell_in h 0, cell_in h 1, cell_in h 2, cell_in h 3, cell_in h 4, cell_in h 5, cell_in h 6, cell_in h 7⟩
theorem by_slice {w : World} {v : Value} {n : Nat} (h : (byR v n).ok w) : ∃ ao c, v = .slice ao n c := by
  obtain ⟨xs, _, h3⟩ := h
  exact own_slice h3
theorem by_down {w0 w : World} {rs : List Res} {v : Value} {n : Nat} (h : Sep w0 w (byR v n :: rs)) : ∃ xs : List Int, xs.length = n ∧ Byt xs ∧ Sep w0 w (row 5 1 v n (xs.map (Value.int .u8)) :: rs) := by
  obtain ⟨xs, ⟨h1, h2⟩, h3⟩ := h.head
  exact ⟨xs, h1, h2, h.step (b := row 5 1 v n (xs.map (Value.int .u8))) (L := []) (Only.refl _ _) (by simp) h3 (fun k hk => .inl hk)⟩

theorem indexnil_any (f : Value) (w : World) : Calls Tryz.prog 185 #[.slice none 0 0, f] w fun e w' => e = .returned (.int .i64 (-1)) ∧ w' = w := by
  go_enter Tryz.func185, Tryz.ntmps185
  go_wp2_with fail
  go_loopw [8] (fun y wr => y = .int .i64 0 ∧ wr = w) (fun _ _ => 0)
  case atStart => exact ⟨rfl, rfl⟩
  case round =>
    obtain ⟨rfl, rfl⟩ := hrel
    go_wp2_with fail
    go_ret
    exact ⟨rfl, rfl⟩
theorem delnil_any (f : Value) (w : World) : Calls Tryz.prog 111 #[.slice none 0 0, f] w fun e w' => e = .returned (.slice none 0 0) ∧ w' = w := by
  go_enter Tryz.func111, Tryz.ntmps111
  go_wp2_with fail
  refine (indexnil_any f w).mono ?_
  rintro e w1 ⟨rfl, rfl⟩
  go_wp2_with fail
  go_ret
  exact ⟨rfl, rfl⟩
theorem info_pair : (Tryz.prog.info? 214).map (fun i => (i.zero, i.size, i.bytes)) = some (some (.agg #[.int .u32 0, .slice none 0 0, .slice none 0 0]), 3, 56) := by kernel_rfl
end Go.Proofs.YtmmhbehlpppdiaaGreatDoor.Wl
