/- Publish of layer 17 (registry). Printed by gen_rg7.py (with rg7.txt). -/
import Derived.Test.YteljkfihmbddaaaPc
set_option linter.unusedSimpArgs false
set_option linter.unusedVariables false
namespace Go.Proofs.Yteljkfihmbddaaa
open Go.RowKit Go.Pw
set_option linter.unusedVariables false

theorem bun_info : (Try.prog.info? 40).map (fun i => (i.zero, i.size, i.bytes)) = some (some (.agg (bc b0).toArray), 10, 152) := by kernel_rfl

/-- What a bundle that is published makes of the last one and those for once. -/
def pubS (s : Bu × List Bu) (b : Bu) : Bu × List Bu :=
  if b.has = false then (if b.sg < s.1.sg then s else (b, s.2))
  else if s.2.findIdx (fun x => x.on == b.on) < s.2.length then (s.1, s.2.set (s.2.findIdx fun x => x.on == b.on) b)
  else if s.2.length < 16 then (s.1, s.2 ++ [b]) else s
theorem foldl_snoc {α β : Type} (f : α → β → α) (a : α) (l : List β) (x : β) : (l ++ [x]).foldl f a = f (l.foldl f a) x := by simp

/-- What Publish leaves: x is the device's line, bs the bundles, another resource. -/
def Pubd (w0 : World) (rs : List Res) (B : Nat) (v : Value) (l : List Li) (k : Nat) (x : Li) (vb : Value) (bs : List Bu) (e : Ending) (w' : World) : Prop :=
  e = .returned (.int .i64 0) ∧ ∃ x' : Li, x'.u = x.u ∧ x'.d = x.d ∧ x'.on = true ∧ (x'.b, x'.os) = bs.foldl pubS (x.b, x.os) ∧ x'.os.length ≤ 16 ∧ Sep w0 w' (regR B v (l.set k x') (row 40 10 vb bs.length (fl bc bs) :: rs))

theorem publish_nil (u d : Int) (vb : Value) (w : World) :
    Calls Try.prog 19 #[.pointer none, wv u d, vb] w fun e w' => e = .returned (.int .i64 2) ∧ Only w w' [] := by
  simp only [wv]
  go_enter Try.func19, Try.ntmps19
  go_wp2_with fail
  refine (find_nil u d _).mono ?_
  rintro e w1 ⟨rfl, o1⟩
  go_wp2_with fail
  go_ret
  exact ⟨rfl, (Only.alloc _ _ _).trans o1⟩

set_option maxRecDepth 100000 in
set_option maxHeartbeats 1600000 in
theorem publish_none {w0 : World} {rs : List Res} (B : Nat) (l : List Li) (v : Value) (u d : Int) (vb : Value) (w : World) (h : Sep w0 w (regR B v l rs)) (hl : l.length ≤ 1000000) (hr : Rise l) (hI : isL l u d = false) :
    Calls Try.prog 19 #[.pointer (some ⟨B, 0, none⟩), wv u d, vb] w fun e w' => e = .returned (.int .i64 2) ∧ Only w w' [] := by
  obtain ⟨ao, c, rfl⟩ := own_slice (show w.ownsRow 0 _ 14 v l.length (fl lc l) from h.head)
  have oA := Only.alloc w (.cells #[.int .i64 u, .int .i64 d] 30) []
  have sB := h.quiet oA
  clear h
  have Hfind := find_any B l _ u d _ sB hl hr
  simp only [wv] at *
  cases hf : foundL l u d with
  | true =>
    obtain ⟨hk, hon⟩ := not_isL hI hf
    rw [hf] at Hfind
    generalize placeL l u d = k at *
    obtain ⟨g, rfl, _⟩ := own_some (show (w.alloc (.cells #[.int .i64 u, .int .i64 d] 30)).ownsRow 0 _ 14 (.slice ao l.length c) l.length (fl lc l) from sB.head) (by omega)
    have hE := fun (w1 : World) (h1 : w1.ownsRow 0 76 14 (.slice (some ⟨g, 0, none⟩) l.length c) l.length (fl lc l)) => rec_cell lc_len h1 hk 2 (v := .bool l[k].on) rfl
    rw [hon] at hE
    go_enter Try.func19, Try.ntmps19
    go_wp2_with fail
    refine Hfind.mono ?_
    rintro e w1 ⟨rfl, o1⟩
    have s1 := sB.quiet o1
    have hc := hE w1 s1.head
    have hBc := cell_of_one s1.tail.head
    have oF := oA.trans o1
    clear sB hE s1 o1 oA
    go_wp2_with fail
    go_ret
    exact ⟨rfl, oF⟩
  | false =>
    rw [hf] at Hfind
    go_enter Try.func19, Try.ntmps19
    go_wp2_with fail
    refine Hfind.mono ?_
    rintro e w1 ⟨rfl, o1⟩
    have oF := oA.trans o1
    clear sB o1 oA
    go_wp2_with fail
    go_ret
    exact ⟨rfl, oF⟩

set_option maxRecDepth 100000 in
set_option maxHeartbeats 1600000 in
theorem publish_ok {w0 : World} {rs : List Res} (B : Nat) (l : List Li) (v : Value) (u d : Int) (vb : Value) (bs : List Bu) (k : Nat) (x : Li) (w : World) (h : Sep w0 w (regR B v l (row 40 10 vb bs.length (fl bc bs) :: rs))) (hl : l.length ≤ 1000000) (hbl : bs.length ≤ 1000000) (hr : Rise l)
    (hf : foundL l u d = true) (hp : placeL l u d = k) (hk : k < l.length) (hx : l[k] = x) (hon : x.on = true) (hos : x.os.length ≤ 16) (hany : bs.any (other u d) = false) :
    Calls Try.prog 19 #[.pointer (some ⟨B, 0, none⟩), wv u d, vb] w (Pubd w0 rs B v l k x vb bs) := by
  obtain ⟨i0, hi, hz0, hz1, hz2⟩ := info_parts bun_info
  obtain ⟨ao, c, rfl⟩ := own_slice (show w.ownsRow 0 _ 14 v l.length (fl lc l) from h.head)
  obtain ⟨g, rfl, _⟩ := own_some (show w.ownsRow 0 _ 14 (.slice ao l.length c) l.length (fl lc l) from h.head) (by omega)
  have hvb : w.ownsRow 0 40 10 vb bs.length (fl bc bs) := (h.sel 4 [3]).head
  obtain ⟨ab, cb, rfl⟩ := own_slice hvb
  clear hvb
  have sB : Sep w0 _ (row 76 14 (.slice (some ⟨g, 0, none⟩) l.length c) l.length (fl lc l) :: blk B [.slice (some ⟨g, 0, none⟩) l.length c] 72 :: many (l.map ow) :: row 40 10 (.slice ab bs.length cb) bs.length (fl bc bs) :: blk w.heap.size [.int .i64 u, .int .i64 d] 30 :: rs) := (h.box [.int .i64 u, .int .i64 d] 30).sel 5 [1, 2, 3, 4, 0]
  clear h
  have Hfind := find_any B l _ u d _ sB hl hr
  rw [hf, hp] at Hfind
  simp only [wv] at *
  clear hf hp hr
  go_enter Try.func19, Try.ntmps19
  go_wp2_with fail
  refine Hfind.mono ?_
  rintro e w1 ⟨rfl, o1⟩
  have s1 := sB.quiet o1
  clear sB o1 Hfind
  generalize w.heap.size = A4 at *
  have hc2 := rec_cell lc_len (show w1.ownsRow 0 76 14 (.slice (some ⟨g, 0, none⟩) l.length c) l.length (fl lc l) from s1.head) hk 2 (v := .bool l[k].on) rfl
  rw [hx, hon] at hc2
  have hBc := cell_of_one s1.tail.head
  have hA4 : w1.heap[A4]? = some (.cells #[.int .i64 u, .int .i64 d] 30 (0, 0)) := (s1.sel 5 [4]).head
  have ha0 := cell_two0 hA4
  have ha1 := cell_two1 hA4
  go_wp2_with fail
  refine (contains_o2 A4 (other u d) _ bs w1 (own_src (s1.sel 4 [3]).head) hbl (clos_other2 A4 u d w1 hA4)).mono ?_
  rw [hany]
  rintro e w2 ⟨rfl, o2⟩
  have s2 := s1.quiet o2
  clear s1 o2 hc2 hBc hA4 ha0 ha1 hany
  have hBc := cell_of_one s2.tail.head
  have hkI : (k : Int) < l.length := by omega
  go_wp2_with fail
  clear hBc
  have hset0 : l.set k x = l := by rw [← hx]; exact List.set_getElem_self hk
  go_loopw [43] (fun y wr => ∃ (j : Nat) (xc : Li), y = .int .i64 j ∧ j ≤ bs.length ∧ xc.u = x.u ∧ xc.d = x.d ∧ xc.on = true ∧ (xc.b, xc.os) = (bs.take j).foldl pubS (x.b, x.os) ∧ xc.os.length ≤ 16 ∧ Sep w0 wr (row 76 14 (.slice (some ⟨g, 0, none⟩) l.length c) l.length (fl lc (l.set k xc)) :: blk B [.slice (some ⟨g, 0, none⟩) l.length c] 72 :: many ((l.set k xc).map ow) :: row 40 10 (.slice ab bs.length cb) bs.length (fl bc bs) :: rs)) (fun y _ => bs.length - (intOf y).toNat)
  case atStart => exact ⟨0, x, rfl, Nat.zero_le _, rfl, rfl, hon, rfl, hos, by rw [hset0]; exact s2.sel 5 [0, 1, 2, 3]⟩
  case round =>
    clear s2 hset0
    obtain ⟨j, xc, rfl, hj, hxu, hxd, hxon, hfold, hxos, hs⟩ := hrel
    by_cases hjl : j < bs.length
    · have d1 : decide ((j : Int) < bs.length) = true := by simpa using hjl
      have hbr : wr.ownsRow 0 40 10 (.slice ab bs.length cb) bs.length (fl bc bs) := (hs.sel 4 [3]).head
      obtain ⟨gb, rfl, _⟩ := own_some hbr (by omega)
      have hrng := rec_range bc_len hbr hjl
      have hfold' : (bs.take (j + 1)).foldl pubS (x.b, x.os) = pubS (xc.b, xc.os) bs[j] := by
        rw [List.take_succ_eq_append_getElem hjl, foldl_snoc, ← hfold]
      have hll' : (l.set k xc).length = l.length := List.length_set ..
      have hkl' : k < (l.set k xc).length := by omega
      have hxk : (l.set k xc)[k] = xc := List.getElem_set_self ..
      have hpk : ((l.set k xc).map ow)[k]? = some (ow xc) := by rw [List.getElem?_map, List.getElem?_eq_getElem hkl', hxk]; rfl
      have hfl : (fl lc (l.set k xc)).length = l.length * 14 := by rw [fl_len lc_len, hll']
      -- the line, in any world where its block is as it was
      have hlrow : ∀ w' : World, w'.ownsRow 0 76 14 (.slice (some ⟨g, 0, none⟩) l.length c) l.length (fl lc (l.set k xc)) → w'.cell? ⟨g, k * 14 + 7, none⟩ = some (.int .u32 xc.b.sg) ∧ w'.cell? ⟨g, k * 14 + 13, none⟩ = some xc.v := fun w' h' => by
        rw [← hll'] at h'
        exact ⟨rec_cell lc_len h' hkl' 7 (by rw [hxk]; rfl), rec_cell lc_len h' hkl' 13 (by rw [hxk]; rfl)⟩
      generalize hbj : bs[j] = b at *
      clear hbj hbr
      have hmid := fun (x' : Li) (o : Nat) (us : List Value) (ho : o + us.length ≤ 14) (he : lc x' = setL (lc xc) o us) => (show setL (fl lc (l.set k xc)) (k * 14 + o) us = fl lc (l.set k x') by
        rw [fl_cells lc_len hkl' o us ho x' (by rw [hxk]; exact he), List.set_set])
      have hmany := fun (x' : Li) => (show ((l.set k xc).map ow).set k (ow x') = (l.set k x').map ow by rw [← List.map_set, List.set_set])
      have h1c := bc_arr b
      have hlb := bc_len b
      have g7 : (bc b).toArray[7]? = some (.bool b.has) := rfl
      have g4 : (bc b).toArray[4]? = some (.int .u32 b.sg) := rfl
      have hc13 := (hlrow wr hs.head).2
      have Hfold := Lib.hid hfold'
      have Hx := Lib.hid (And.intro hxu (And.intro hxd hxon))
      clear hfold hfold' hxu hxd hxon
      go_wp2_with (first
        | (refine wpList_load_mid rfl 40 _ rfl gb (j * 10) rfl (bc b) _ hrng Try.underlying40 (by rfl) (by rw [hlb]; kernel_rfl) ?_)
        | (refine wpList_alloc_new rfl 40 rfl (.agg (bc b0).toArray) (fun _ => by kernel_rfl) ?_; intro X wX oX hXl hX)
        | (refine wpList_store_blk rfl 40 _ _ rfl X (bc b) rfl rfl hX hlb.symm (by rw [hlb]; kernel_rfl) h1c ?_; intro wY oY hY; have hs2 := hs.add (b := blk X (bc b) 40) (oX.new oY (fun i hi => by simp only [List.mem_singleton] at hi; omega)) hY (fun k hk => by simp [blk] at hk; omega); have hc13 := (hlrow wY (hs2.sel 2 [1]).head).2; clear hs hX oX oY))
      have howk : (ow xc).ok wY := many_ok (hs2.sel 4 [3]).head (List.mem_of_getElem? hpk)
      have hrd : RdB wY xc.v xc.os := own_src howk
      refine (bindex_once X (fun y => y.on == b.on) xc.v xc.os wY hrd (by omega) (clos_once X b wY hY)).mono ?_
      rintro e w2 ⟨rfl, o2⟩
      have s3 : Sep w0 w2 (row 76 14 (.slice (some ⟨g, 0, none⟩) l.length c) l.length (fl lc (l.set k xc)) :: blk B [.slice (some ⟨g, 0, none⟩) l.length c] 72 :: many ((l.set k xc).map ow) :: row 40 10 (.slice (some ⟨gb, 0, none⟩) bs.length cb) bs.length (fl bc bs) :: blk X (bc b) 40 :: rs) := (hs2.quiet o2).sel 5 [1, 2, 3, 4, 0]
      have hX2 := o2.at hY (by simp)
      have hln : ∀ w', Only w2.drew w' [] → w'.cell? ⟨g, k * 14 + 7, none⟩ = some (.int .u32 xc.b.sg) := fun w' ho => (hlrow w' (s3.quiet ((Only.drew w2 []).trans ho)).head).1
      clear hs2 o2 hY howk hrd hc13 hrng
      cases hbh : b.has with
      | false =>
        rw [hbh] at g7
        have hx7 := (cell_in hX2 7).trans g7
        by_cases hsg : b.sg < xc.b.sg
        · have dsg : decide (b.sg < xc.b.sg) = true := by simpa using hsg
          have Hp : Hid (pubS (xc.b, xc.os) b = (xc.b, xc.os)) := by show _ = _; simp [pubS, hbh, hsg]
          go_upto_region 11 with fail
          refine wp_region_held_drew (S := fun w' => Only w2.drew w' []) (by kernel_rfl) (Only.refl _ _) (fun hHeld => ?_)
          refine' wpAnyH_take (i := 0) (v := _) (op_at rfl) (by kernel_rfl) (by kernel_rfl) (by kernel_rfl) (fun _ _ _ h => h) (Or.inl ⟨by rfl, ?hy16⟩) (by assumption) ?rest16
          case hy16 =>
            intro w' hS
            go_simp
            try with_reducible rfl
          try simp only [Act.put, List.setIfInBounds_toArray, List.set_cons_zero, List.set_cons_succ]
          refine' wpAnyH_take (i := 1) (v := _) (op_at rfl) (by kernel_rfl) (by kernel_rfl) (by kernel_rfl) (fun _ _ _ h => h) (Or.inl ⟨by rfl, ?hy17⟩) (by assumption) ?rest17
          case hy17 =>
            intro w' hS
            have hXb := hS.at (show w2.drew.heap[X]? = _ from hX2) (by simp)
            have q := (cell_in hXb 7).trans g7
            go_simp
            try with_reducible rfl
          try simp only [Act.put, List.setIfInBounds_toArray, List.set_cons_zero, List.set_cons_succ]
          refine' wpAnyH_take (i := 2) (v := _) (op_at rfl) (by kernel_rfl) (by kernel_rfl) (by kernel_rfl) (fun _ _ _ h => h) (Or.inl ⟨by rfl, ?hy18⟩) (by assumption) ?rest18
          case hy18 =>
            intro w' hS
            go_simp
            try with_reducible rfl
          try simp only [Act.put, List.setIfInBounds_toArray, List.set_cons_zero, List.set_cons_succ]
          refine' wpAnyH_take (i := 3) (v := _) (op_at rfl) (by kernel_rfl) (by kernel_rfl) (by kernel_rfl) (fun _ _ _ h => h) (Or.inl ⟨by rfl, ?hy19⟩) (by assumption) ?rest19
          case hy19 =>
            intro w' hS
            go_simp
            try with_reducible rfl
          try simp only [Act.put, List.setIfInBounds_toArray, List.set_cons_zero, List.set_cons_succ]
          refine' wpAnyH_take (i := 4) (v := _) (op_at rfl) (by kernel_rfl) (by kernel_rfl) (by kernel_rfl) (fun _ _ _ h => h) (Or.inl ⟨by rfl, ?hy20⟩) (by assumption) ?rest20
          case hy20 =>
            intro w' hS
            go_simp
            try with_reducible rfl
          try simp only [Act.put, List.setIfInBounds_toArray, List.set_cons_zero, List.set_cons_succ]
          refine' wpAnyH_take (i := 5) (v := _) (op_at rfl) (by kernel_rfl) (by kernel_rfl) (by kernel_rfl) (fun _ _ _ h => h) (Or.inl ⟨by rfl, ?hy21⟩) (by assumption) ?rest21
          case hy21 =>
            intro w' hS
            have hXb := hS.at (show w2.drew.heap[X]? = _ from hX2) (by simp)
            have q := (cell_in hXb 4).trans g4
            go_simp
            try with_reducible rfl
          try simp only [Act.put, List.setIfInBounds_toArray, List.set_cons_zero, List.set_cons_succ]
          refine' wpAnyH_take (i := 6) (v := _) (op_at rfl) (by kernel_rfl) (by kernel_rfl) (by kernel_rfl) (fun _ _ _ h => h) (Or.inl ⟨by rfl, ?hy22⟩) (by assumption) ?rest22
          case hy22 =>
            intro w' hS
            go_simp
            try with_reducible rfl
          try simp only [Act.put, List.setIfInBounds_toArray, List.set_cons_zero, List.set_cons_succ]
          refine' wpAnyH_take (i := 7) (v := _) (op_at rfl) (by kernel_rfl) (by kernel_rfl) (by kernel_rfl) (fun _ _ _ h => h) (Or.inl ⟨by rfl, ?hy23⟩) (by assumption) ?rest23
          case hy23 =>
            intro w' hS
            go_simp
            try with_reducible rfl
          try simp only [Act.put, List.setIfInBounds_toArray, List.set_cons_zero, List.set_cons_succ]
          refine' wpAnyH_take (i := 8) (v := _) (op_at rfl) (by kernel_rfl) (by kernel_rfl) (by kernel_rfl) (fun _ _ _ h => h) (Or.inl ⟨by rfl, ?hy24⟩) (by assumption) ?rest24
          case hy24 =>
            intro w' hS
            go_simp
            try with_reducible rfl
          try simp only [Act.put, List.setIfInBounds_toArray, List.set_cons_zero, List.set_cons_succ]
          refine' wpAnyH_take (i := 9) (v := _) (op_at rfl) (by kernel_rfl) (by kernel_rfl) (by kernel_rfl) (fun _ _ _ h => h) (Or.inl ⟨by rfl, ?hy25⟩) (by assumption) ?rest25
          case hy25 =>
            intro w' hS
            go_simp
            try with_reducible rfl
          try simp only [Act.put, List.setIfInBounds_toArray, List.set_cons_zero, List.set_cons_succ]
          refine' wpAnyH_take (i := 10) (v := _) (op_at rfl) (by kernel_rfl) (by kernel_rfl) (by kernel_rfl) (fun _ _ _ h => h) (Or.inl ⟨by rfl, ?hy26⟩) (by assumption) ?rest26
          case hy26 =>
            intro w' hS
            have q := hln _ hS
            go_simp
            try with_reducible rfl
          try simp only [Act.put, List.setIfInBounds_toArray, List.set_cons_zero, List.set_cons_succ]
          refine' wpAnyH_take (i := 11) (v := _) (op_at rfl) (by kernel_rfl) (by kernel_rfl) (by kernel_rfl) (fun _ _ _ h => h) (Or.inl ⟨by rfl, ?hy27⟩) (by assumption) ?rest27
          case hy27 =>
            intro w' hS
            go_simp
            try with_reducible rfl
          try simp only [Act.put, List.setIfInBounds_toArray, List.set_cons_zero, List.set_cons_succ]
          refine' wpAnyH_take (i := 12) (v := _) (op_at rfl) (by kernel_rfl) (by kernel_rfl) (by kernel_rfl) (fun _ _ _ h => h) (Or.inl ⟨by rfl, ?hy28⟩) (by assumption) ?rest28
          case hy28 =>
            intro w' hS
            go_simp
            try with_reducible rfl
          try simp only [Act.put, List.setIfInBounds_toArray, List.set_cons_zero, List.set_cons_succ]
          refine' wpAnyH_take (i := 13) (v := _) (op_at rfl) (by kernel_rfl) (by kernel_rfl) (by kernel_rfl) (fun _ _ _ h => h) (Or.inl ⟨by rfl, ?hy29⟩) (by assumption) ?rest29
          case hy29 =>
            intro w' hS
            go_simp
            try with_reducible rfl
          try simp only [Act.put, List.setIfInBounds_toArray, List.set_cons_zero, List.set_cons_succ]
          refine wpAnyH_done (by kernel_rfl) ?_ _
          clear hln hX2 hlrow hmid hmany hsg
          go_wp2_with fail
          refine ⟨⟨j + 1, xc, by simp, by omega, Hx.out.1, Hx.out.2.1, Hx.out.2.2, by rw [Hfold.out, Hp.out], hxos, ((s3.quiet (Only.drew w2 [])).quiet hHeld).sel 5 [0, 1, 2, 3]⟩, by simp [intOf]; omega⟩
        · have dsg : decide (b.sg < xc.b.sg) = false := by simpa using hsg
          have Hp : Hid (pubS (xc.b, xc.os) b = (b, xc.os)) := by show _ = _; simp [pubS, hbh, hsg]
          go_upto_region 11 with fail
          refine wp_region_held_drew (S := fun w' => Only w2.drew w' []) (by kernel_rfl) (Only.refl _ _) (fun hHeld => ?_)
          refine' wpAnyH_take (i := 0) (v := _) (op_at rfl) (by kernel_rfl) (by kernel_rfl) (by kernel_rfl) (fun _ _ _ h => h) (Or.inl ⟨by rfl, ?hy30⟩) (by assumption) ?rest30
          case hy30 =>
            intro w' hS
            go_simp
            try with_reducible rfl
          try simp only [Act.put, List.setIfInBounds_toArray, List.set_cons_zero, List.set_cons_succ]
          refine' wpAnyH_take (i := 1) (v := _) (op_at rfl) (by kernel_rfl) (by kernel_rfl) (by kernel_rfl) (fun _ _ _ h => h) (Or.inl ⟨by rfl, ?hy31⟩) (by assumption) ?rest31
          case hy31 =>
            intro w' hS
            have hXb := hS.at (show w2.drew.heap[X]? = _ from hX2) (by simp)
            have q := (cell_in hXb 7).trans g7
            go_simp
            try with_reducible rfl
          try simp only [Act.put, List.setIfInBounds_toArray, List.set_cons_zero, List.set_cons_succ]
          refine' wpAnyH_take (i := 2) (v := _) (op_at rfl) (by kernel_rfl) (by kernel_rfl) (by kernel_rfl) (fun _ _ _ h => h) (Or.inl ⟨by rfl, ?hy32⟩) (by assumption) ?rest32
          case hy32 =>
            intro w' hS
            go_simp
            try with_reducible rfl
          try simp only [Act.put, List.setIfInBounds_toArray, List.set_cons_zero, List.set_cons_succ]
          refine' wpAnyH_take (i := 3) (v := _) (op_at rfl) (by kernel_rfl) (by kernel_rfl) (by kernel_rfl) (fun _ _ _ h => h) (Or.inl ⟨by rfl, ?hy33⟩) (by assumption) ?rest33
          case hy33 =>
            intro w' hS
            go_simp
            try with_reducible rfl
          try simp only [Act.put, List.setIfInBounds_toArray, List.set_cons_zero, List.set_cons_succ]
          refine' wpAnyH_take (i := 4) (v := _) (op_at rfl) (by kernel_rfl) (by kernel_rfl) (by kernel_rfl) (fun _ _ _ h => h) (Or.inl ⟨by rfl, ?hy34⟩) (by assumption) ?rest34
          case hy34 =>
            intro w' hS
            go_simp
            try with_reducible rfl
          try simp only [Act.put, List.setIfInBounds_toArray, List.set_cons_zero, List.set_cons_succ]
          refine' wpAnyH_take (i := 5) (v := _) (op_at rfl) (by kernel_rfl) (by kernel_rfl) (by kernel_rfl) (fun _ _ _ h => h) (Or.inl ⟨by rfl, ?hy35⟩) (by assumption) ?rest35
          case hy35 =>
            intro w' hS
            have hXb := hS.at (show w2.drew.heap[X]? = _ from hX2) (by simp)
            have q := (cell_in hXb 4).trans g4
            go_simp
            try with_reducible rfl
          try simp only [Act.put, List.setIfInBounds_toArray, List.set_cons_zero, List.set_cons_succ]
          refine' wpAnyH_take (i := 6) (v := _) (op_at rfl) (by kernel_rfl) (by kernel_rfl) (by kernel_rfl) (fun _ _ _ h => h) (Or.inl ⟨by rfl, ?hy36⟩) (by assumption) ?rest36
          case hy36 =>
            intro w' hS
            go_simp
            try with_reducible rfl
          try simp only [Act.put, List.setIfInBounds_toArray, List.set_cons_zero, List.set_cons_succ]
          refine' wpAnyH_take (i := 7) (v := _) (op_at rfl) (by kernel_rfl) (by kernel_rfl) (by kernel_rfl) (fun _ _ _ h => h) (Or.inl ⟨by rfl, ?hy37⟩) (by assumption) ?rest37
          case hy37 =>
            intro w' hS
            go_simp
            try with_reducible rfl
          try simp only [Act.put, List.setIfInBounds_toArray, List.set_cons_zero, List.set_cons_succ]
          refine' wpAnyH_take (i := 8) (v := _) (op_at rfl) (by kernel_rfl) (by kernel_rfl) (by kernel_rfl) (fun _ _ _ h => h) (Or.inl ⟨by rfl, ?hy38⟩) (by assumption) ?rest38
          case hy38 =>
            intro w' hS
            go_simp
            try with_reducible rfl
          try simp only [Act.put, List.setIfInBounds_toArray, List.set_cons_zero, List.set_cons_succ]
          refine' wpAnyH_take (i := 9) (v := _) (op_at rfl) (by kernel_rfl) (by kernel_rfl) (by kernel_rfl) (fun _ _ _ h => h) (Or.inl ⟨by rfl, ?hy39⟩) (by assumption) ?rest39
          case hy39 =>
            intro w' hS
            go_simp
            try with_reducible rfl
          try simp only [Act.put, List.setIfInBounds_toArray, List.set_cons_zero, List.set_cons_succ]
          refine' wpAnyH_take (i := 10) (v := _) (op_at rfl) (by kernel_rfl) (by kernel_rfl) (by kernel_rfl) (fun _ _ _ h => h) (Or.inl ⟨by rfl, ?hy40⟩) (by assumption) ?rest40
          case hy40 =>
            intro w' hS
            have q := hln _ hS
            go_simp
            try with_reducible rfl
          try simp only [Act.put, List.setIfInBounds_toArray, List.set_cons_zero, List.set_cons_succ]
          refine' wpAnyH_take (i := 11) (v := _) (op_at rfl) (by kernel_rfl) (by kernel_rfl) (by kernel_rfl) (fun _ _ _ h => h) (Or.inl ⟨by rfl, ?hy41⟩) (by assumption) ?rest41
          case hy41 =>
            intro w' hS
            go_simp
            try with_reducible rfl
          try simp only [Act.put, List.setIfInBounds_toArray, List.set_cons_zero, List.set_cons_succ]
          refine' wpAnyH_take (i := 12) (v := _) (op_at rfl) (by kernel_rfl) (by kernel_rfl) (by kernel_rfl) (fun _ _ _ h => h) (Or.inl ⟨by rfl, ?hy42⟩) (by assumption) ?rest42
          case hy42 =>
            intro w' hS
            go_simp
            try with_reducible rfl
          try simp only [Act.put, List.setIfInBounds_toArray, List.set_cons_zero, List.set_cons_succ]
          refine' wpAnyH_take (i := 13) (v := _) (op_at rfl) (by kernel_rfl) (by kernel_rfl) (by kernel_rfl) (fun _ _ _ h => h) (Or.inl ⟨by rfl, ?hy43⟩) (by assumption) ?rest43
          case hy43 =>
            intro w' hS
            go_simp
            try with_reducible rfl
          try simp only [Act.put, List.setIfInBounds_toArray, List.set_cons_zero, List.set_cons_succ]
          refine wpAnyH_done (by kernel_rfl) ?_ _
          have s4 := (s3.quiet (Only.drew w2 [])).quiet hHeld
          have hX4 := ((Only.drew w2 []).trans hHeld).at hX2 (by simp)
          have Hm : Hid (setL (fl lc (l.set k xc)) (k * 14 + 3) (bc b) = fl lc (l.set k { xc with b := b })) := hmid { xc with b := b } 3 (bc b) (by rw [bc_len]; decide) rfl
          have Hw : Hid ((l.set k { xc with b := b }).map ow = (l.set k xc).map ow) := by
            show _ = _
            rw [List.map_set, List.map_set]
            rfl
          have hle : k * 14 + 3 + (bc b).length ≤ l.length * 14 := by rw [hlb]; omega
          clear hln hX2 hlrow hmid hmany hsg s3
          go_wp2_with (first
            | (refine wpList_load_blk rfl 40 _ rfl X rfl (bc b) _ hX4 Try.underlying40 (by rfl) (by rw [hlb]; kernel_rfl) ?_)
            | (refine wpList_store_rec rfl 40 _ _ rfl g (k * 14 + 3) _ _ _ _ (bc b) _ rfl rfl s4 hle (by rw [hlb]; kernel_rfl) h1c ?_; intro w5 s5; rw [Hm.out] at s5))
          refine ⟨⟨j + 1, { xc with b := b }, by simp, by omega, Hx.out.1, Hx.out.2.1, Hx.out.2.2, by rw [Hfold.out, Hp.out], hxos, by rw [Hw.out]; exact s5.sel 5 [0, 1, 2, 3]⟩, by simp [intOf]; omega⟩
      | true =>
        rw [hbh] at g7
        have hx7 := (cell_in hX2 7).trans g7
        go_upto_region 11 with fail
        refine wp_region_held_drew (S := fun w' => Only w2.drew w' []) (by kernel_rfl) (Only.refl _ _) (fun hHeld => ?_)
        refine' wpAnyH_take (i := 0) (v := _) (op_at rfl) (by kernel_rfl) (by kernel_rfl) (by kernel_rfl) (fun _ _ _ h => h) (Or.inl ⟨by rfl, ?hy44⟩) (by assumption) ?rest44
        case hy44 =>
          intro w' hS
          go_simp
          try with_reducible rfl
        try simp only [Act.put, List.setIfInBounds_toArray, List.set_cons_zero, List.set_cons_succ]
        refine' wpAnyH_take (i := 1) (v := _) (op_at rfl) (by kernel_rfl) (by kernel_rfl) (by kernel_rfl) (fun _ _ _ h => h) (Or.inl ⟨by rfl, ?hy45⟩) (by assumption) ?rest45
        case hy45 =>
          intro w' hS
          have hXb := hS.at (show w2.drew.heap[X]? = _ from hX2) (by simp)
          have q := (cell_in hXb 7).trans g7
          go_simp
          try with_reducible rfl
        try simp only [Act.put, List.setIfInBounds_toArray, List.set_cons_zero, List.set_cons_succ]
        refine' wpAnyH_take (i := 2) (v := _) (op_at rfl) (by kernel_rfl) (by kernel_rfl) (by kernel_rfl) (fun _ _ _ h => h) (Or.inl ⟨by rfl, ?hy46⟩) (by assumption) ?rest46
        case hy46 =>
          intro w' hS
          go_simp
          try with_reducible rfl
        try simp only [Act.put, List.setIfInBounds_toArray, List.set_cons_zero, List.set_cons_succ]
        refine' wpAnyH_take (i := 3) (v := _) (op_at rfl) (by kernel_rfl) (by kernel_rfl) (by kernel_rfl) (fun _ _ _ h => h) (Or.inl ⟨by rfl, ?hy47⟩) (by assumption) ?rest47
        case hy47 =>
          intro w' hS
          go_simp
          try with_reducible rfl
        try simp only [Act.put, List.setIfInBounds_toArray, List.set_cons_zero, List.set_cons_succ]
        refine wpAnyH_take (i := 4) (v := undef) (op_at rfl) (by kernel_rfl) (by kernel_rfl) (by kernel_rfl) (fun _ _ _ h => h) (Or.inr ⟨by rfl, rfl⟩) (by assumption) ?_
        try simp only [Act.put, List.setIfInBounds_toArray, List.set_cons_zero, List.set_cons_succ]
        refine wpAnyH_take (i := 5) (v := undef) (op_at rfl) (by kernel_rfl) (by kernel_rfl) (by kernel_rfl) (fun _ _ _ h => h) (Or.inr ⟨by rfl, rfl⟩) (by assumption) ?_
        try simp only [Act.put, List.setIfInBounds_toArray, List.set_cons_zero, List.set_cons_succ]
        refine wpAnyH_take (i := 6) (v := undef) (op_at rfl) (by kernel_rfl) (by kernel_rfl) (by kernel_rfl) (fun _ _ _ h => h) (Or.inr ⟨by rfl, rfl⟩) (by assumption) ?_
        try simp only [Act.put, List.setIfInBounds_toArray, List.set_cons_zero, List.set_cons_succ]
        refine wpAnyH_take (i := 7) (v := undef) (op_at rfl) (by kernel_rfl) (by kernel_rfl) (by kernel_rfl) (fun _ _ _ h => h) (Or.inr ⟨by rfl, rfl⟩) (by assumption) ?_
        try simp only [Act.put, List.setIfInBounds_toArray, List.set_cons_zero, List.set_cons_succ]
        refine wpAnyH_take (i := 8) (v := undef) (op_at rfl) (by kernel_rfl) (by kernel_rfl) (by kernel_rfl) (fun _ _ _ h => h) (Or.inr ⟨by rfl, rfl⟩) (by assumption) ?_
        try simp only [Act.put, List.setIfInBounds_toArray, List.set_cons_zero, List.set_cons_succ]
        refine wpAnyH_take (i := 9) (v := undef) (op_at rfl) (by kernel_rfl) (by kernel_rfl) (by kernel_rfl) (fun _ _ _ h => h) (Or.inr ⟨by rfl, rfl⟩) (by assumption) ?_
        try simp only [Act.put, List.setIfInBounds_toArray, List.set_cons_zero, List.set_cons_succ]
        refine wpAnyH_take (i := 10) (v := undef) (op_at rfl) (by kernel_rfl) (by kernel_rfl) (by kernel_rfl) (fun _ _ _ h => h) (Or.inr ⟨by rfl, rfl⟩) (by assumption) ?_
        try simp only [Act.put, List.setIfInBounds_toArray, List.set_cons_zero, List.set_cons_succ]
        refine wpAnyH_take (i := 11) (v := undef) (op_at rfl) (by kernel_rfl) (by kernel_rfl) (by kernel_rfl) (fun _ _ _ h => h) (Or.inr ⟨by rfl, rfl⟩) (by assumption) ?_
        try simp only [Act.put, List.setIfInBounds_toArray, List.set_cons_zero, List.set_cons_succ]
        refine' wpAnyH_take (i := 12) (v := _) (op_at rfl) (by kernel_rfl) (by kernel_rfl) (by kernel_rfl) (fun _ _ _ h => h) (Or.inl ⟨by rfl, ?hy56⟩) (by assumption) ?rest56
        case hy56 =>
          intro w' hS
          go_simp
          try with_reducible rfl
        try simp only [Act.put, List.setIfInBounds_toArray, List.set_cons_zero, List.set_cons_succ]
        refine' wpAnyH_take (i := 13) (v := _) (op_at rfl) (by kernel_rfl) (by kernel_rfl) (by kernel_rfl) (fun _ _ _ h => h) (Or.inl ⟨by rfl, ?hy57⟩) (by assumption) ?rest57
        case hy57 =>
          intro w' hS
          go_simp
          try with_reducible rfl
        try simp only [Act.put, List.setIfInBounds_toArray, List.set_cons_zero, List.set_cons_succ]
        refine wpAnyH_done (by kernel_rfl) ?_ _
        have oW := (Only.drew w2 []).trans hHeld
        have s4 := s3.quiet oW
        have hX4 := oW.at hX2 (by simp)
        have hwv : w2.ownsRow 0 40 10 xc.v xc.os.length (fl bc xc.os) := many_ok (s3.sel 3 [2]).head (List.mem_of_getElem? hpk)
        have hc13w := (hlrow w2 s3.head).2
        clear hln hX2 s3
        by_cases hix : xc.os.findIdx (fun y => y.on == b.on) < xc.os.length
        · have hI : Hid (idxB (fun y => y.on == b.on) xc.os = (xc.os.findIdx (fun y => y.on == b.on) : Nat)) := by show _ = _; rw [idxB, if_pos hix]
          have Hp : Hid (pubS (xc.b, xc.os) b = (xc.b, xc.os.set (xc.os.findIdx fun y => y.on == b.on) b)) := by show _ = _; simp [pubS, hbh, hix]
          rw [hI.out]
          obtain ⟨i, hii⟩ : ∃ i, xc.os.findIdx (fun y => y.on == b.on) = i := ⟨_, rfl⟩
          rw [hii] at hix Hp ⊢
          clear hI hii
          obtain ⟨av, cv, hv⟩ := own_slice (show w2.ownsRow 0 40 10 xc.v xc.os.length (fl bc xc.os) from hwv)
          obtain ⟨gv, rfl, _⟩ := own_some (show w2.ownsRow 0 40 10 (.slice av xc.os.length cv) xc.os.length (fl bc xc.os) from by rw [← hv]; exact hwv) (by omega)
          have hii : (i : Int) < xc.os.length := by omega
          have hi0 : decide ((0 : Int) ≤ i) = true := by simp
          have q1 : Sep w0 w2.drew.drew (row 40 10 (.slice (some ⟨gv, 0, none⟩) xc.os.length cv) xc.os.length (fl bc xc.os) :: many (((l.set k xc).map ow).eraseIdx k) :: row 76 14 (.slice (some ⟨g, 0, none⟩) l.length c) l.length (fl lc (l.set k xc)) :: blk B [.slice (some ⟨g, 0, none⟩) l.length c] 72 :: row 40 10 (.slice (some ⟨gb, 0, none⟩) bs.length cb) bs.length (fl bc bs) :: blk X (bc b) 40 :: rs) := by
            rw [← hv]
            exact ((s4.quiet (Only.drew _ [])).sel 5 [2, 0, 1, 3, 4]).pick k hpk
          have hgv : ∀ i ∈ (row 76 14 (.slice (some ⟨g, 0, none⟩) l.length c) l.length (fl lc (l.set k xc))).fp, i ∉ [gv] := fun i hi hm => q1.two_at (i := 0) (j := 2) rfl rfl (by decide) i (by simpa [row, Value.ownBlock] using hm) hi
          have hlv : ∀ w', Only w2.drew.drew w' [gv] → w'.cell? ⟨g, k * 14 + 13, none⟩ = some (.slice (some ⟨gv, 0, none⟩) xc.os.length cv) := fun w' ho => by
            rw [← hv]
            exact (hlrow w' (Res.only (q1.sel 3 [2]).head ho hgv)).2
          have hXv : X ∉ [gv] := fun hm => q1.two_at (i := 0) (j := 5) rfl rfl (by decide) X (by simpa [row, Value.ownBlock] using hm) (by simp [blk])
          have hXW : w2.drew.drew.heap[X]? = some (.cells (bc b).toArray 40 (0, 0)) := hX4
          have hiw : i * 10 + 10 ≤ xc.os.length * 10 := by omega
          have Hs : Hid (setL (fl bc xc.os) (i * 10) (bc b) = fl bc (xc.os.set i b)) := fl_set (enc := bc) (k := 10) bc_len hix b
          have Hl : Hid (fl lc (l.set k xc) = fl lc (l.set k { xc with os := xc.os.set i b })) := fl_set_same rfl
          have Hmy := Lib.hid (hmany { xc with os := xc.os.set i b })
          have hkm : k < ((l.set k xc).map ow).length := by rw [List.length_map]; exact hkl'
          go_upto_region 15 with fail
          refine wp_region_t (S := fun w' => Only w2.drew.drew w' [gv]) 7 (by kernel_rfl) (by kernel_rfl) (Only.refl _ _) (fun hZ hHeld => ?_)
          refine' wpAnyT_take (i := 0) (v := _) hZ (op_at' rfl) (by rfl) (by kernel_rfl) (by kernel_rfl) (by kernel_rfl) (by kernel_rfl) (fun _ _ _ h => h) (Or.inl ⟨by rfl, ?hy1⟩) (by assumption) ?rest1
          case hy1 =>
            intro w' hS
            go_simp
            try with_reducible rfl
          try simp only [Act.put, List.setIfInBounds_toArray, List.set_cons_zero, List.set_cons_succ]
          refine' wpAnyT_take (i := 1) (v := _) hZ (op_at' rfl) (by rfl) (by kernel_rfl) (by kernel_rfl) (by kernel_rfl) (by kernel_rfl) (fun _ _ _ h => h) (Or.inl ⟨by rfl, ?hy2⟩) (by assumption) ?rest2
          case hy2 =>
            intro w' hS
            go_simp
            try with_reducible rfl
          try simp only [Act.put, List.setIfInBounds_toArray, List.set_cons_zero, List.set_cons_succ]
          refine' wpAnyT_take (i := 2) (v := _) hZ (op_at' rfl) (by rfl) (by kernel_rfl) (by kernel_rfl) (by kernel_rfl) (by kernel_rfl) (fun _ _ _ h => h) (Or.inl ⟨by rfl, ?hy3⟩) (by assumption) ?rest3
          case hy3 =>
            intro w' hS
            go_simp
            try with_reducible rfl
          try simp only [Act.put, List.setIfInBounds_toArray, List.set_cons_zero, List.set_cons_succ]
          refine' wpAnyT_take (i := 3) (v := _) hZ (op_at' rfl) (by rfl) (by kernel_rfl) (by kernel_rfl) (by kernel_rfl) (by kernel_rfl) (fun _ _ _ h => h) (Or.inl ⟨by rfl, ?hy4⟩) (by assumption) ?rest4
          case hy4 =>
            intro w' hS
            have q := hlv _ hS
            go_simp
            try with_reducible rfl
          try simp only [Act.put, List.setIfInBounds_toArray, List.set_cons_zero, List.set_cons_succ]
          refine' wpAnyT_take (i := 4) (v := _) hZ (op_at' rfl) (by rfl) (by kernel_rfl) (by kernel_rfl) (by kernel_rfl) (by kernel_rfl) (fun _ _ _ h => h) (Or.inl ⟨by rfl, ?hy5⟩) (by assumption) ?rest5
          case hy5 =>
            intro w' hS
            go_simp
            try with_reducible rfl
          try simp only [Act.put, List.setIfInBounds_toArray, List.set_cons_zero, List.set_cons_succ]
          refine wpAnyT_take (i := 5) hZ (op_at' rfl) (by rfl) (by kernel_rfl) (by kernel_rfl) (by kernel_rfl) (by kernel_rfl) (fun _ _ _ h => h) (yieldsIf_load_mid (by rfl) _ _ rfl X 0 rfl (bc b) _ (fun w' hS => block_range (hS.at (show w2.drew.drew.heap[X]? = _ from hXW) hXv)) Try.underlying40 (by rfl) (by rw [bc_len]; kernel_rfl)) (by assumption) ?_
          try simp only [Act.put, List.setIfInBounds_toArray, List.set_cons_zero, List.set_cons_succ]
          refine' wpAnyT_take (i := 6) (v := _) hZ (op_at' rfl) (by rfl) (by kernel_rfl) (by kernel_rfl) (by kernel_rfl) (by kernel_rfl) (fun _ _ _ h => h) (Or.inl ⟨by rfl, ?hy7⟩) (by assumption) ?rest7
          case hy7 =>
            intro w' hS
            go_simp
            try with_reducible rfl
          try simp only [Act.put, List.setIfInBounds_toArray, List.set_cons_zero, List.set_cons_succ]
          refine wpAnyT_last (by kernel_rfl) (op_at' rfl) (by kernel_rfl) (fun K hK => ?_)
          refine step_store_rec (by rfl) 40 _ _ (by rfl) gv (i * 10) (.agg (bc b).toArray) (bc b) (by rfl) 40 10 xc.os.length cv _ (by rfl) (by rfl) q1 (by rw [bc_len]; exact hiw) (by rw [bc_len]; kernel_rfl) (bc_one b) (fun w7 o7 s7 => ?_)
          go_wp2_with fail
          refine hK.out _ _ ?_
          clear hK K
          try simp only [Act.put, List.setIfInBounds_toArray, List.set_cons_zero, List.set_cons_succ]
          clear hlv hXv hXW hgv hlrow hmid hmany hX4 s4 q1 hZ hHeld hwv
          go_wp2_with fail
          have q2 : Sep w0 w7 (ow { xc with os := xc.os.set i b } :: many (((l.set k xc).map ow).eraseIdx k) :: row 76 14 (.slice (some ⟨g, 0, none⟩) l.length c) l.length (fl lc (l.set k { xc with os := xc.os.set i b })) :: blk B [.slice (some ⟨g, 0, none⟩) l.length c] 72 :: row 40 10 (.slice (some ⟨gb, 0, none⟩) bs.length cb) bs.length (fl bc bs) :: blk X (bc b) 40 :: rs) := by
            show Sep w0 w7 (row 40 10 xc.v (xc.os.set i b).length (fl bc (xc.os.set i b)) :: _)
            rw [List.length_set, ← Hs.out, ← Hl.out, hv]
            exact s7
          have q3 := q2.putk k hkm
          rw [Hmy.out] at q3
          refine ⟨⟨j + 1, { xc with os := xc.os.set i b }, by simp, by omega, Hx.out.1, Hx.out.2.1, Hx.out.2.2, by rw [Hfold.out, Hp.out], by simpa using hxos, q3.sel 5 [1, 2, 0, 3]⟩, by simp [intOf]; omega⟩
        · have hI : Hid (idxB (fun y => y.on == b.on) xc.os = -1) := by show _ = _; rw [idxB, if_neg hix]
          rw [hI.out]
          clear hI
          obtain ⟨av, cv, hv⟩ := own_slice (show w2.ownsRow 0 40 10 xc.v xc.os.length (fl bc xc.os) from hwv)
          rw [hv] at hc13w
          by_cases hlt : xc.os.length < 16
          · have Hp : Hid (pubS (xc.b, xc.os) b = (xc.b, xc.os ++ [b])) := by show _ = _; simp [pubS, hbh, hix, hlt]
            have dlt : decide ((xc.os.length : Int) < 16) = true := by simp; omega
            have q1 : Sep w0 w2.drew.drew (row 40 10 (.slice av xc.os.length cv) xc.os.length (fl bc xc.os) :: many (((l.set k xc).map ow).eraseIdx k) :: row 76 14 (.slice (some ⟨g, 0, none⟩) l.length c) l.length (fl lc (l.set k xc)) :: blk B [.slice (some ⟨g, 0, none⟩) l.length c] 72 :: row 40 10 (.slice (some ⟨gb, 0, none⟩) bs.length cb) bs.length (fl bc bs) :: blk X (bc b) 40 :: rs) := by
              rw [← hv]
              exact ((s4.quiet (Only.drew _ [])).sel 5 [2, 0, 1, 3, 4]).pick k hpk
            have hgv : ∀ i ∈ (row 76 14 (.slice (some ⟨g, 0, none⟩) l.length c) l.length (fl lc (l.set k xc))).fp, i ∉ (Value.ownBlock (.slice av xc.os.length cv)).toList := fun i hi hm => q1.two_at (i := 0) (j := 2) rfl rfl (by decide) i (by simpa [row] using hm) hi
            have hlv : ∀ w', Only w2.drew.drew w' (Value.ownBlock (.slice av xc.os.length cv)).toList → w'.cell? ⟨g, k * 14 + 13, none⟩ = some (.slice av xc.os.length cv) := fun w' ho => by
              rw [← hv]
              exact (hlrow w' (Res.only (q1.sel 3 [2]).head ho hgv)).2
            have hXv : X ∉ (Value.ownBlock (.slice av xc.os.length cv)).toList := fun hm => q1.two_at (i := 0) (j := 5) rfl rfl (by decide) X (by simpa [row] using hm) (by simp [blk])
            have hXW : w2.drew.drew.heap[X]? = some (.cells (bc b).toArray 40 (0, 0)) := hX4
            have Hof : Hid (fl bc (xc.os ++ [b]) = fl bc xc.os ++ bc b) := fl_snoc _ _
            have HmF := Lib.hid hmid
            have HmY := Lib.hid hmany
            have hkm : k < ((l.set k xc).map ow).length := by rw [List.length_map]; exact hkl'
            clear hmid hmany hix
            go_upto_region 17 with fail
            refine wp_region_t (S := fun w' => Only w2.drew.drew w' (Value.ownBlock (.slice av xc.os.length cv)).toList) 10 (by kernel_rfl) (by kernel_rfl) (Only.refl _ _) (fun hZ hHeld => ?_)
            refine' wpAnyT_take (i := 0) (v := _) hZ (op_at' rfl) (by rfl) (by kernel_rfl) (by kernel_rfl) (by kernel_rfl) (by kernel_rfl) (fun _ _ _ h => h) (Or.inl ⟨by rfl, ?hy8⟩) (by assumption) ?rest8
            case hy8 =>
              intro w' hS
              go_simp
              try with_reducible rfl
            try simp only [Act.put, List.setIfInBounds_toArray, List.set_cons_zero, List.set_cons_succ]
            refine' wpAnyT_take (i := 1) (v := _) hZ (op_at' rfl) (by rfl) (by kernel_rfl) (by kernel_rfl) (by kernel_rfl) (by kernel_rfl) (fun _ _ _ h => h) (Or.inl ⟨by rfl, ?hy9⟩) (by assumption) ?rest9
            case hy9 =>
              intro w' hS
              go_simp
              try with_reducible rfl
            try simp only [Act.put, List.setIfInBounds_toArray, List.set_cons_zero, List.set_cons_succ]
            refine' wpAnyT_take (i := 2) (v := _) hZ (op_at' rfl) (by rfl) (by kernel_rfl) (by kernel_rfl) (by kernel_rfl) (by kernel_rfl) (fun _ _ _ h => h) (Or.inl ⟨by rfl, ?hy10⟩) (by assumption) ?rest10
            case hy10 =>
              intro w' hS
              go_simp
              try with_reducible rfl
            try simp only [Act.put, List.setIfInBounds_toArray, List.set_cons_zero, List.set_cons_succ]
            refine' wpAnyT_take (i := 3) (v := _) hZ (op_at' rfl) (by rfl) (by kernel_rfl) (by kernel_rfl) (by kernel_rfl) (by kernel_rfl) (fun _ _ _ h => h) (Or.inl ⟨by rfl, ?hy11⟩) (by assumption) ?rest11
            case hy11 =>
              intro w' hS
              go_simp
              try with_reducible rfl
            try simp only [Act.put, List.setIfInBounds_toArray, List.set_cons_zero, List.set_cons_succ]
            refine' wpAnyT_take (i := 4) (v := _) hZ (op_at' rfl) (by rfl) (by kernel_rfl) (by kernel_rfl) (by kernel_rfl) (by kernel_rfl) (fun _ _ _ h => h) (Or.inl ⟨by rfl, ?hy12⟩) (by assumption) ?rest12
            case hy12 =>
              intro w' hS
              have q := hlv _ hS
              go_simp
              try with_reducible rfl
            try simp only [Act.put, List.setIfInBounds_toArray, List.set_cons_zero, List.set_cons_succ]
            refine wpAnyT_take (i := 5) hZ (op_at' rfl) (by rfl) (by kernel_rfl) (by kernel_rfl) (by kernel_rfl) (by kernel_rfl) (fun _ _ _ h => h) (yieldsIf_load_mid (by rfl) _ _ rfl X 0 rfl (bc b) _ (fun w' hS => block_range (hS.at (show w2.drew.drew.heap[X]? = _ from hXW) hXv)) Try.underlying40 (by rfl) (by rw [bc_len]; kernel_rfl)) (by assumption) ?_
            try simp only [Act.put, List.setIfInBounds_toArray, List.set_cons_zero, List.set_cons_succ]
            refine wpAnyT_one (i := 6) (by kernel_rfl) (op_at' rfl) (fun K hK => ?_)
            refine step_buildSlice_one (by rfl) 42 _ (by rfl) 40 i0 _ (bc b) (by rfl) Try.underlying42 hi hz0 (by rw [hz1, bc_len]) (by rw [bc_len]; rfl) (by rw [bc_len]; decide) (by rw [bc_len]; decide) (fun Y wS oS hYl hYS => ?_)
            go_wp2_with fail
            refine hK.out _ _ (oS.mono (by simp)) (fun hHeld => ?_)
            clear hK K
            try simp only [Act.put, List.setIfInBounds_toArray, List.set_cons_zero, List.set_cons_succ]
            refine wpAnyT_one (i := 7) (by kernel_rfl) (op_at' rfl) (fun K hK => ?_)
            refine step_append_sep (by rfl) _ _ 42 (by rfl) 40 i0 _ 10 152 Try.underlying42 hi hz0 hz1 hz2 rfl (by decide) (.slice av xc.os.length cv) xc.os.length _ (by rfl) (q1.quiet oS) _ 1 (bc b) (by rfl) (src_blk hYS (by rw [bc_len])) (bc_one b) (by unfold maxLen; omega) (by omega) (fun a8 c8 w8 o8 s8 => ?_)
            go_wp2_with fail
            refine hK.out _ _ ((oS.mono (by simp)).trans o8) (fun hHeld => ?_)
            clear hK K
            try simp only [Act.put, List.setIfInBounds_toArray, List.set_cons_zero, List.set_cons_succ]
            refine' wpAnyT_take (i := 8) (v := _) hZ (op_at' rfl) (by rfl) (by kernel_rfl) (by kernel_rfl) (by kernel_rfl) (by kernel_rfl) (fun _ _ _ h => h) (Or.inl ⟨by rfl, ?hy14⟩) (by assumption) ?rest14
            case hy14 =>
              intro w' hS
              go_simp
              try with_reducible rfl
            try simp only [Act.put, List.setIfInBounds_toArray, List.set_cons_zero, List.set_cons_succ]
            refine' wpAnyT_take (i := 9) (v := _) hZ (op_at' rfl) (by rfl) (by kernel_rfl) (by kernel_rfl) (by kernel_rfl) (by kernel_rfl) (fun _ _ _ h => h) (Or.inl ⟨by rfl, ?hy15⟩) (by assumption) ?rest15
            case hy15 =>
              intro w' hS
              go_simp
              try with_reducible rfl
            try simp only [Act.put, List.setIfInBounds_toArray, List.set_cons_zero, List.set_cons_succ]
            refine wpAnyT_last (by kernel_rfl) (op_at' rfl) (by kernel_rfl) (fun K hK => ?_)
            refine step_store_rec (by rfl) 42 _ _ (by rfl) g (k * 14 + 13) (.slice a8 (xc.os.length + 1) c8) [.slice a8 (xc.os.length + 1) c8] (by rfl) 76 14 l.length c _ (by rfl) (by rfl) (s8.sel 3 [2, 0, 1]) (by simp; omega) (by kernel_rfl) (by simp [Value.oneCell']) (fun w9 o9 s9 => ?_)
            go_wp2_with fail
            refine hK.out _ _ ?_
            clear hK K
            try simp only [Act.put, List.setIfInBounds_toArray, List.set_cons_zero, List.set_cons_succ]
            clear hlv hXv hXW hgv hlrow hX4 s4 q1 hZ hHeld hwv s8
            go_wp2_with fail
            have q2 : Sep w0 w9 (ow { xc with v := .slice a8 (xc.os.length + 1) c8, os := xc.os ++ [b], ok := rfl } :: many (((l.set k xc).map ow).eraseIdx k) :: row 76 14 (.slice (some ⟨g, 0, none⟩) l.length c) l.length (fl lc (l.set k { xc with v := .slice a8 (xc.os.length + 1) c8, os := xc.os ++ [b], ok := rfl })) :: blk B [.slice (some ⟨g, 0, none⟩) l.length c] 72 :: row 40 10 (.slice (some ⟨gb, 0, none⟩) bs.length cb) bs.length (fl bc bs) :: blk X (bc b) 40 :: rs) := by
              show Sep w0 w9 (row 40 10 (.slice a8 (xc.os.length + 1) c8) (xc.os ++ [b]).length (fl bc (xc.os ++ [b])) :: _)
              rw [Hof.out, List.length_append, List.length_singleton, ← HmF.out { xc with v := .slice a8 (xc.os.length + 1) c8, os := xc.os ++ [b], ok := rfl } 13 [.slice a8 (xc.os.length + 1) c8] (by simp) rfl]
              exact s9.sel 3 [1, 2, 0]
            have q3 := q2.putk k hkm
            rw [HmY.out { xc with v := .slice a8 (xc.os.length + 1) c8, os := xc.os ++ [b], ok := rfl }] at q3
            refine ⟨⟨j + 1, { xc with v := .slice a8 (xc.os.length + 1) c8, os := xc.os ++ [b], ok := rfl }, by simp, by omega, Hx.out.1, Hx.out.2.1, Hx.out.2.2, by rw [Hfold.out, Hp.out], by simp; omega, q3.sel 5 [1, 2, 0, 3]⟩, by simp [intOf]; omega⟩
          · have Hp : Hid (pubS (xc.b, xc.os) b = (xc.b, xc.os)) := by show _ = _; simp [pubS, hbh, hix, hlt]
            have dlt : decide ((xc.os.length : Int) < 16) = false := by simp; omega
            clear hlrow hmid hmany hix hX4 hwv
            go_wp2_with fail
            refine ⟨⟨j + 1, xc, by simp, by omega, Hx.out.1, Hx.out.2.1, Hx.out.2.2, by rw [Hfold.out, Hp.out], hxos, s4.sel 5 [0, 1, 2, 3]⟩, by simp [intOf]; omega⟩
    · obtain rfl : j = bs.length := by omega
      have d1 : decide ((bs.length : Int) < bs.length) = false := by simp
      rw [List.take_length] at hfold
      have Hx := Lib.hid (And.intro hxu (And.intro hxd (And.intro hxon (And.intro hfold hxos))))
      have hll' : (l.set k xc).length = l.length := List.length_set ..
      clear hfold hxu hxd hxon hxos
      go_wp2_with fail
      go_ret
      exact ⟨rfl, xc, Hx.out.1, Hx.out.2.1, Hx.out.2.2.1, Hx.out.2.2.2.1, Hx.out.2.2.2.2, by simp only [regR]; rw [hll']; exact hs⟩
end Go.Proofs.Yteljkfihmbddaaa
