/- WorldLinks, by hand: Rg7, Ky7. -/
import Derived.Test.YtmmhbehlpppdiaaGreatDoorQ5
import Derived.Test.YtmmhbehlpppdiaaGreatDoorQ4
import Derived.Deep.CutRange
set_option linter.all false
namespace Go.Proofs.YtmmhbehlpppdiaaGreatDoor
open Go.RowKit Go.Pw

theorem bun_info : (Tryz.prog.info? 88).map (fun i => (i.zero, i.size, i.bytes)) = some (some (.agg (bc b0).toArray), 10, 152) := by kernel_rfl
def pubS (s : Bu × List Bu) (b : Bu) : Bu × List Bu :=
  if b.has = false then (if b.sg < s.1.sg then s else (b, s.2))
  else if s.2.findIdx (fun x => x.on == b.on) < s.2.length then (s.1, s.2.set (s.2.findIdx fun x => x.on == b.on) b)
  else if s.2.length < 16 then (s.1, s.2 ++ [b]) else s
theorem foldl_snoc {α β : Type} (f : α → β → α) (a : α) (l : List β) (x : β) : (l ++ [x]).foldl f a = f (l.foldl f a) x := by simp
def Pubd (w0 : World) (rs : List Res) (B : Nat) (v : Value) (l : List Li) (k : Nat) (x : Li) (vb : Value) (bs : List Bu) (e : Ending) (w' : World) : Prop :=
  e = .returned (.int .i64 0) ∧ ∃ x' : Li, x'.u = x.u ∧ x'.d = x.d ∧ x'.on = true ∧ (x'.b, x'.os) = bs.foldl pubS (x.b, x.os) ∧ x'.os.length ≤ 16 ∧ Sep w0 w' (regR B v (l.set k x') (row 88 10 vb bs.length (fl bc bs) :: rs))

set_option maxRecDepth 100000 in
set_option maxHeartbeats 1600000 in
theorem publish_ok {w0 : World} {rs : List Res} (B : Nat) (l : List Li) (v : Value) (u d : Int) (vb : Value) (bs : List Bu) (k : Nat) (x : Li) (w : World) (h : Sep w0 w (regR B v l (row 88 10 vb bs.length (fl bc bs) :: rs))) (hl : l.length ≤ 1000000) (hbl : bs.length ≤ 1000000) (hr : Rise l)
    (hf : foundL l u d = true) (hp : placeL l u d = k) (hk : k < l.length) (hx : l[k] = x) (hon : x.on = true) (hos : x.os.length ≤ 16) (hany : bs.any (other u d) = false) :
    Calls Tryz.prog 135 #[.pointer (some ⟨B, 0, none⟩), wv u d, vb] w (Pubd w0 rs B v l k x vb bs) := by
  obtain ⟨i0, hi, hz0, hz1, hz2⟩ := info_parts bun_info
  obtain ⟨ao, c, rfl⟩ := own_slice (show w.ownsRow 0 _ 14 v l.length (fl lc l) from h.head)
  obtain ⟨g, rfl, _⟩ := own_some (show w.ownsRow 0 _ 14 (.slice ao l.length c) l.length (fl lc l) from h.head) (by omega)
  have hvb : w.ownsRow 0 88 10 vb bs.length (fl bc bs) := (h.sel 4 [3]).head
  obtain ⟨ab, cb, rfl⟩ := own_slice hvb
  clear hvb
  have sB : Sep w0 _ (row 90 14 (.slice (some ⟨g, 0, none⟩) l.length c) l.length (fl lc l) :: blk B [.slice (some ⟨g, 0, none⟩) l.length c] 93 :: many (l.map ow) :: row 88 10 (.slice ab bs.length cb) bs.length (fl bc bs) :: blk w.heap.size [.int .i64 u, .int .i64 d] 40 :: rs) := (h.box [.int .i64 u, .int .i64 d] 40).sel 5 [1, 2, 3, 4, 0]
  clear h
  have Hfind := find_any B l _ u d _ sB hl hr
  rw [hf, hp] at Hfind
  simp only [wv] at *
  clear hf hp hr
  go_enter Tryz.func135, Tryz.ntmps135
  go_wp2_with fail
  refine Hfind.mono ?_
  rintro e w1 ⟨rfl, o1⟩
  have s1 := sB.quiet o1
  clear sB o1 Hfind
  generalize w.heap.size = A4 at *
  have hc2 := rec_cell lc_len (show w1.ownsRow 0 90 14 (.slice (some ⟨g, 0, none⟩) l.length c) l.length (fl lc l) from s1.head) hk 2 (v := .bool l[k].on) rfl
  rw [hx, hon] at hc2
  have hBc := cell_of_one s1.tail.head
  have hA4 : w1.heap[A4]? = some (.cells #[.int .i64 u, .int .i64 d] 40 (0, 0)) := (s1.sel 5 [4]).head
  have ha0 := cell_two0 hA4
  have ha1 := cell_two1 hA4
  go_wp2_with fail
  refine (contains_o2 A4 (other u d) _ bs w1 (own_src (s1.sel 4 [3]).head) hbl (clos_other2 A4 u d w1 hA4)).mono ?_
  rw [hany]
  rintro e w2 ⟨rfl, o2⟩
  have s2 := s1.quiet o2
  clear s1 o2 hc2 hBc hA4 ha0 ha1 hany
  have hBc := cell_of_one s2.tail.head
  have hkI : (k : Int) < l.length := by omega
  go_wp2_with fail
  clear hBc
  have hset0 : l.set k x = l := by rw [← hx]; exact List.set_getElem_self hk
  go_loopw [43] (fun y wr => ∃ (j : Nat) (xc : Li), y = .int .i64 j ∧ j ≤ bs.length ∧ xc.u = x.u ∧ xc.d = x.d ∧ xc.on = true ∧ (xc.b, xc.os) = (bs.take j).foldl pubS (x.b, x.os) ∧ xc.os.length ≤ 16 ∧ Sep w0 wr (row 90 14 (.slice (some ⟨g, 0, none⟩) l.length c) l.length (fl lc (l.set k xc)) :: blk B [.slice (some ⟨g, 0, none⟩) l.length c] 93 :: many ((l.set k xc).map ow) :: row 88 10 (.slice ab bs.length cb) bs.length (fl bc bs) :: rs)) (fun y _ => bs.length - (intOf y).toNat)
  case atStart => exact ⟨0, x, rfl, Nat.zero_le _, rfl, rfl, hon, rfl, hos, by rw [hset0]; exact s2.sel 5 [0, 1, 2, 3]⟩
  case round =>
    clear s2 hset0
    obtain ⟨j, xc, rfl, hj, hxu, hxd, hxon, hfold, hxos, hs⟩ := hrel
    by_cases hjl : j < bs.length
    · have d1 : decide ((j : Int) < bs.length) = true := by simpa using hjl
      have hbr : wr.ownsRow 0 88 10 (.slice ab bs.length cb) bs.length (fl bc bs) := (hs.sel 4 [3]).head
      obtain ⟨gb, rfl, _⟩ := own_some hbr (by omega)
      have hrng := rec_range bc_len hbr hjl
      have hfold' : (bs.take (j + 1)).foldl pubS (x.b, x.os) = pubS (xc.b, xc.os) bs[j] := by
        rw [List.take_succ_eq_append_getElem hjl, foldl_snoc, ← hfold]
      have hll' : (l.set k xc).length = l.length := List.length_set ..
      have hkl' : k < (l.set k xc).length := by omega
      have hxk : (l.set k xc)[k] = xc := List.getElem_set_self ..
      have hpk : ((l.set k xc).map ow)[k]? = some (ow xc) := by rw [List.getElem?_map, List.getElem?_eq_getElem hkl', hxk]; rfl
      have hfl : (fl lc (l.set k xc)).length = l.length * 14 := by rw [fl_len lc_len, hll']
      -- the line, in any world where its block is as it was
      have hlrow : ∀ w' : World, w'.ownsRow 0 90 14 (.slice (some ⟨g, 0, none⟩) l.length c) l.length (fl lc (l.set k xc)) → w'.cell? ⟨g, k * 14 + 7, none⟩ = some (.int .u32 xc.b.sg) ∧ w'.cell? ⟨g, k * 14 + 13, none⟩ = some xc.v := fun w' h' => by
        rw [← hll'] at h'
        exact ⟨rec_cell lc_len h' hkl' 7 (by rw [hxk]; rfl), rec_cell lc_len h' hkl' 13 (by rw [hxk]; rfl)⟩
      generalize hbj : bs[j] = b at *
      clear hbj hbr
      have hmid := fun (x' : Li) (o : Nat) (us : List Value) (ho : o + us.length ≤ 14) (he : lc x' = setL (lc xc) o us) => (show setL (fl lc (l.set k xc)) (k * 14 + o) us = fl lc (l.set k x') by
        rw [fl_cells lc_len hkl' o us ho x' (by rw [hxk]; exact he), List.set_set])
      have hmany := fun (x' : Li) => (show ((l.set k xc).map ow).set k (ow x') = (l.set k x').map ow by rw [← List.map_set, List.set_set])
      have h1c := bc_arr b
      have hlb := bc_len b
      have g7 : (bc b).toArray[7]? = some (.bool b.has) := rfl
      have g4 : (bc b).toArray[4]? = some (.int .u32 b.sg) := rfl
      have hc13 := (hlrow wr hs.head).2
      have Hfold := Lib.hid hfold'
      have Hx := Lib.hid (And.intro hxu (And.intro hxd hxon))
      clear hfold hfold' hxu hxd hxon
      go_wp2_with (first
        | (refine wpList_load_mid rfl 88 _ rfl gb (j * 10) rfl (bc b) _ hrng Tryz.underlying88 (by rfl) (by rw [hlb]; kernel_rfl) ?_)
        | (refine wpList_alloc_new rfl 88 rfl (.agg (bc b0).toArray) (fun _ => by kernel_rfl) ?_; intro X wX oX hXl hX)
        | (refine wpList_store_blk rfl 88 _ _ rfl X (bc b) rfl rfl hX hlb.symm (by rw [hlb]; kernel_rfl) h1c ?_; intro wY oY hY; have hs2 := hs.add (b := blk X (bc b) 88) (oX.new oY (fun i hi => by simp only [List.mem_singleton] at hi; omega)) hY (fun k hk => by simp [blk] at hk; omega); have hc13 := (hlrow wY (hs2.sel 2 [1]).head).2; clear hs hX oX oY))
      have howk : (ow xc).ok wY := many_ok (hs2.sel 4 [3]).head (List.mem_of_getElem? hpk)
      have hrd : RdB wY xc.v xc.os := own_src howk
      refine (bindex_once X (fun y => y.on == b.on) xc.v xc.os wY hrd (by omega) (clos_once X b wY hY)).mono ?_
      rintro e w2 ⟨rfl, o2⟩
      have s3 : Sep w0 w2 (row 90 14 (.slice (some ⟨g, 0, none⟩) l.length c) l.length (fl lc (l.set k xc)) :: blk B [.slice (some ⟨g, 0, none⟩) l.length c] 93 :: many ((l.set k xc).map ow) :: row 88 10 (.slice (some ⟨gb, 0, none⟩) bs.length cb) bs.length (fl bc bs) :: blk X (bc b) 88 :: rs) := (hs2.quiet o2).sel 5 [1, 2, 3, 4, 0]
      have hX2 := o2.at hY (by simp)
      have hln : ∀ w', Only w2.drew w' [] → w'.cell? ⟨g, k * 14 + 7, none⟩ = some (.int .u32 xc.b.sg) := fun w' ho => (hlrow w' (s3.quiet ((Only.drew w2 []).trans ho)).head).1
      clear hs2 o2 hY howk hrd hc13 hrng
      cases hbh : b.has with
      | false =>
        rw [hbh] at g7
        have hx7 := (cell_in hX2 7).trans g7
        by_cases hsg : b.sg < xc.b.sg
        · have dsg : decide (b.sg < xc.b.sg) = true := by simpa using hsg
          have Hp : Hid (pubS (xc.b, xc.os) b = (xc.b, xc.os)) := by show _ = _; simp [pubS, hbh, hsg]
          go_upto_region 11 with fail
          refine wp_region_held_drew (S := fun w' => Only w2.drew w' []) (by kernel_rfl) (Only.refl _ _) (fun hHeld => ?_)
          refine' wpAnyH_take (i := 0) (v := _) (op_at rfl) (by kernel_rfl) (by kernel_rfl) (by kernel_rfl) (fun _ _ _ h => h) (Or.inl ⟨by rfl, ?hy16⟩) (by assumption) ?rest16
          case hy16 =>
            intro w' hS
            go_simp
            try with_reducible rfl
          try simp only [Act.put, List.setIfInBounds_toArray, List.set_cons_zero, List.set_cons_succ]
          refine' wpAnyH_take (i := 1) (v := _) (op_at rfl) (by kernel_rfl) (by kernel_rfl) (by kernel_rfl) (fun _ _ _ h => h) (Or.inl ⟨by rfl, ?hy17⟩) (by assumption) ?rest17
          case hy17 =>
            intro w' hS
            have hXb := hS.at (show w2.drew.heap[X]? = _ from hX2) (by simp)
            have q := (cell_in hXb 7).trans g7
            go_simp
            try with_reducible rfl
          try simp only [Act.put, List.setIfInBounds_toArray, List.set_cons_zero, List.set_cons_succ]
          refine' wpAnyH_take (i := 2) (v := _) (op_at rfl) (by kernel_rfl) (by kernel_rfl) (by kernel_rfl) (fun _ _ _ h => h) (Or.inl ⟨by rfl, ?hy18⟩) (by assumption) ?rest18
          case hy18 =>
            intro w' hS
            go_simp
            try with_reducible rfl
          try simp only [Act.put, List.setIfInBounds_toArray, List.set_cons_zero, List.set_cons_succ]
          refine' wpAnyH_take (i := 3) (v := _) (op_at rfl) (by kernel_rfl) (by kernel_rfl) (by kernel_rfl) (fun _ _ _ h => h) (Or.inl ⟨by rfl, ?hy19⟩) (by assumption) ?rest19
          case hy19 =>
            intro w' hS
            go_simp
            try with_reducible rfl
          try simp only [Act.put, List.setIfInBounds_toArray, List.set_cons_zero, List.set_cons_succ]
          refine' wpAnyH_take (i := 4) (v := _) (op_at rfl) (by kernel_rfl) (by kernel_rfl) (by kernel_rfl) (fun _ _ _ h => h) (Or.inl ⟨by rfl, ?hy20⟩) (by assumption) ?rest20
          case hy20 =>
            intro w' hS
            go_simp
            try with_reducible rfl
          try simp only [Act.put, List.setIfInBounds_toArray, List.set_cons_zero, List.set_cons_succ]
          refine' wpAnyH_take (i := 5) (v := _) (op_at rfl) (by kernel_rfl) (by kernel_rfl) (by kernel_rfl) (fun _ _ _ h => h) (Or.inl ⟨by rfl, ?hy21⟩) (by assumption) ?rest21
          case hy21 =>
            intro w' hS
            have hXb := hS.at (show w2.drew.heap[X]? = _ from hX2) (by simp)
            have q := (cell_in hXb 4).trans g4
            go_simp
            try with_reducible rfl
          try simp only [Act.put, List.setIfInBounds_toArray, List.set_cons_zero, List.set_cons_succ]
          refine' wpAnyH_take (i := 6) (v := _) (op_at rfl) (by kernel_rfl) (by kernel_rfl) (by kernel_rfl) (fun _ _ _ h => h) (Or.inl ⟨by rfl, ?hy22⟩) (by assumption) ?rest22
          case hy22 =>
            intro w' hS
            go_simp
            try with_reducible rfl
          try simp only [Act.put, List.setIfInBounds_toArray, List.set_cons_zero, List.set_cons_succ]
          refine' wpAnyH_take (i := 7) (v := _) (op_at rfl) (by kernel_rfl) (by kernel_rfl) (by kernel_rfl) (fun _ _ _ h => h) (Or.inl ⟨by rfl, ?hy23⟩) (by assumption) ?rest23
          case hy23 =>
            intro w' hS
            go_simp
            try with_reducible rfl
          try simp only [Act.put, List.setIfInBounds_toArray, List.set_cons_zero, List.set_cons_succ]
          refine' wpAnyH_take (i := 8) (v := _) (op_at rfl) (by kernel_rfl) (by kernel_rfl) (by kernel_rfl) (fun _ _ _ h => h) (Or.inl ⟨by rfl, ?hy24⟩) (by assumption) ?rest24
          case hy24 =>
            intro w' hS
            go_simp
            try with_reducible rfl
          try simp only [Act.put, List.setIfInBounds_toArray, List.set_cons_zero, List.set_cons_succ]
          refine' wpAnyH_take (i := 9) (v := _) (op_at rfl) (by kernel_rfl) (by kernel_rfl) (by kernel_rfl) (fun _ _ _ h => h) (Or.inl ⟨by rfl, ?hy25⟩) (by assumption) ?rest25
          case hy25 =>
            intro w' hS
            go_simp
            try with_reducible rfl
          try simp only [Act.put, List.setIfInBounds_toArray, List.set_cons_zero, List.set_cons_succ]
          refine' wpAnyH_take (i := 10) (v := _) (op_at rfl) (by kernel_rfl) (by kernel_rfl) (by kernel_rfl) (fun _ _ _ h => h) (Or.inl ⟨by rfl, ?hy26⟩) (by assumption) ?rest26
          case hy26 =>
            intro w' hS
            have q := hln _ hS
            go_simp
            try with_reducible rfl
          try simp only [Act.put, List.setIfInBounds_toArray, List.set_cons_zero, List.set_cons_succ]
          refine' wpAnyH_take (i := 11) (v := _) (op_at rfl) (by kernel_rfl) (by kernel_rfl) (by kernel_rfl) (fun _ _ _ h => h) (Or.inl ⟨by rfl, ?hy27⟩) (by assumption) ?rest27
          case hy27 =>
            intro w' hS
            go_simp
            try with_reducible rfl
          try simp only [Act.put, List.setIfInBounds_toArray, List.set_cons_zero, List.set_cons_succ]
          refine' wpAnyH_take (i := 12) (v := _) (op_at rfl) (by kernel_rfl) (by kernel_rfl) (by kernel_rfl) (fun _ _ _ h => h) (Or.inl ⟨by rfl, ?hy28⟩) (by assumption) ?rest28
          case hy28 =>
            intro w' hS
            go_simp
            try with_reducible rfl
          try simp only [Act.put, List.setIfInBounds_toArray, List.set_cons_zero, List.set_cons_succ]
          refine' wpAnyH_take (i := 13) (v := _) (op_at rfl) (by kernel_rfl) (by kernel_rfl) (by kernel_rfl) (fun _ _ _ h => h) (Or.inl ⟨by rfl, ?hy29⟩) (by assumption) ?rest29
          case hy29 =>
            intro w' hS
            go_simp
            try with_reducible rfl
          try simp only [Act.put, List.setIfInBounds_toArray, List.set_cons_zero, List.set_cons_succ]
          refine wpAnyH_done (by kernel_rfl) ?_ _
          clear hln hX2 hlrow hmid hmany hsg
          go_wp2_with fail
          refine ⟨⟨j + 1, xc, by simp, by omega, Hx.out.1, Hx.out.2.1, Hx.out.2.2, by rw [Hfold.out, Hp.out], hxos, ((s3.quiet (Only.drew w2 [])).quiet hHeld).sel 5 [0, 1, 2, 3]⟩, by simp [intOf]; omega⟩
        · have dsg : decide (b.sg < xc.b.sg) = false := by simpa using hsg
          have Hp : Hid (pubS (xc.b, xc.os) b = (b, xc.os)) := by show _ = _; simp [pubS, hbh, hsg]
          go_upto_region 11 with fail
          refine wp_region_held_drew (S := fun w' => Only w2.drew w' []) (by kernel_rfl) (Only.refl _ _) (fun hHeld => ?_)
          refine' wpAnyH_take (i := 0) (v := _) (op_at rfl) (by kernel_rfl) (by kernel_rfl) (by kernel_rfl) (fun _ _ _ h => h) (Or.inl ⟨by rfl, ?hy30⟩) (by assumption) ?rest30
          case hy30 =>
            intro w' hS
            go_simp
            try with_reducible rfl
          try simp only [Act.put, List.setIfInBounds_toArray, List.set_cons_zero, List.set_cons_succ]
          refine' wpAnyH_take (i := 1) (v := _) (op_at rfl) (by kernel_rfl) (by kernel_rfl) (by kernel_rfl) (fun _ _ _ h => h) (Or.inl ⟨by rfl, ?hy31⟩) (by assumption) ?rest31
          case hy31 =>
            intro w' hS
            have hXb := hS.at (show w2.drew.heap[X]? = _ from hX2) (by simp)
            have q := (cell_in hXb 7).trans g7
            go_simp
            try with_reducible rfl
          try simp only [Act.put, List.setIfInBounds_toArray, List.set_cons_zero, List.set_cons_succ]
          refine' wpAnyH_take (i := 2) (v := _) (op_at rfl) (by kernel_rfl) (by kernel_rfl) (by kernel_rfl) (fun _ _ _ h => h) (Or.inl ⟨by rfl, ?hy32⟩) (by assumption) ?rest32
          case hy32 =>
            intro w' hS
            go_simp
            try with_reducible rfl
          try simp only [Act.put, List.setIfInBounds_toArray, List.set_cons_zero, List.set_cons_succ]
          refine' wpAnyH_take (i := 3) (v := _) (op_at rfl) (by kernel_rfl) (by kernel_rfl) (by kernel_rfl) (fun _ _ _ h => h) (Or.inl ⟨by rfl, ?hy33⟩) (by assumption) ?rest33
          case hy33 =>
            intro w' hS
            go_simp
            try with_reducible rfl
          try simp only [Act.put, List.setIfInBounds_toArray, List.set_cons_zero, List.set_cons_succ]
          refine' wpAnyH_take (i := 4) (v := _) (op_at rfl) (by kernel_rfl) (by kernel_rfl) (by kernel_rfl) (fun _ _ _ h => h) (Or.inl ⟨by rfl, ?hy34⟩) (by assumption) ?rest34
          case hy34 =>
            intro w' hS
            go_simp
            try with_reducible rfl
          try simp only [Act.put, List.setIfInBounds_toArray, List.set_cons_zero, List.set_cons_succ]
          refine' wpAnyH_take (i := 5) (v := _) (op_at rfl) (by kernel_rfl) (by kernel_rfl) (by kernel_rfl) (fun _ _ _ h => h) (Or.inl ⟨by rfl, ?hy35⟩) (by assumption) ?rest35
          case hy35 =>
            intro w' hS
            have hXb := hS.at (show w2.drew.heap[X]? = _ from hX2) (by simp)
            have q := (cell_in hXb 4).trans g4
            go_simp
            try with_reducible rfl
          try simp only [Act.put, List.setIfInBounds_toArray, List.set_cons_zero, List.set_cons_succ]
          refine' wpAnyH_take (i := 6) (v := _) (op_at rfl) (by kernel_rfl) (by kernel_rfl) (by kernel_rfl) (fun _ _ _ h => h) (Or.inl ⟨by rfl, ?hy36⟩) (by assumption) ?rest36
          case hy36 =>
            intro w' hS
            go_simp
            try with_reducible rfl
          try simp only [Act.put, List.setIfInBounds_toArray, List.set_cons_zero, List.set_cons_succ]
          refine' wpAnyH_take (i := 7) (v := _) (op_at rfl) (by kernel_rfl) (by kernel_rfl) (by kernel_rfl) (fun _ _ _ h => h) (Or.inl ⟨by rfl, ?hy37⟩) (by assumption) ?rest37
          case hy37 =>
            intro w' hS
            go_simp
            try with_reducible rfl
          try simp only [Act.put, List.setIfInBounds_toArray, List.set_cons_zero, List.set_cons_succ]
          refine' wpAnyH_take (i := 8) (v := _) (op_at rfl) (by kernel_rfl) (by kernel_rfl) (by kernel_rfl) (fun _ _ _ h => h) (Or.inl ⟨by rfl, ?hy38⟩) (by assumption) ?rest38
          case hy38 =>
            intro w' hS
            go_simp
            try with_reducible rfl
          try simp only [Act.put, List.setIfInBounds_toArray, List.set_cons_zero, List.set_cons_succ]
          refine' wpAnyH_take (i := 9) (v := _) (op_at rfl) (by kernel_rfl) (by kernel_rfl) (by kernel_rfl) (fun _ _ _ h => h) (Or.inl ⟨by rfl, ?hy39⟩) (by assumption) ?rest39
          case hy39 =>
            intro w' hS
            go_simp
            try with_reducible rfl
          try simp only [Act.put, List.setIfInBounds_toArray, List.set_cons_zero, List.set_cons_succ]
          refine' wpAnyH_take (i := 10) (v := _) (op_at rfl) (by kernel_rfl) (by kernel_rfl) (by kernel_rfl) (fun _ _ _ h => h) (Or.inl ⟨by rfl, ?hy40⟩) (by assumption) ?rest40
          case hy40 =>
            intro w' hS
            have q := hln _ hS
            go_simp
            try with_reducible rfl
          try simp only [Act.put, List.setIfInBounds_toArray, List.set_cons_zero, List.set_cons_succ]
          refine' wpAnyH_take (i := 11) (v := _) (op_at rfl) (by kernel_rfl) (by kernel_rfl) (by kernel_rfl) (fun _ _ _ h => h) (Or.inl ⟨by rfl, ?hy41⟩) (by assumption) ?rest41
          case hy41 =>
            intro w' hS
            go_simp
            try with_reducible rfl
          try simp only [Act.put, List.setIfInBounds_toArray, List.set_cons_zero, List.set_cons_succ]
          refine' wpAnyH_take (i := 12) (v := _) (op_at rfl) (by kernel_rfl) (by kernel_rfl) (by kernel_rfl) (fun _ _ _ h => h) (Or.inl ⟨by rfl, ?hy42⟩) (by assumption) ?rest42
          case hy42 =>
            intro w' hS
            go_simp
            try with_reducible rfl
          try simp only [Act.put, List.setIfInBounds_toArray, List.set_cons_zero, List.set_cons_succ]
          refine' wpAnyH_take (i := 13) (v := _) (op_at rfl) (by kernel_rfl) (by kernel_rfl) (by kernel_rfl) (fun _ _ _ h => h) (Or.inl ⟨by rfl, ?hy43⟩) (by assumption) ?rest43
          case hy43 =>
            intro w' hS
            go_simp
            try with_reducible rfl
          try simp only [Act.put, List.setIfInBounds_toArray, List.set_cons_zero, List.set_cons_succ]
          refine wpAnyH_done (by kernel_rfl) ?_ _
          have s4 := (s3.quiet (Only.drew w2 [])).quiet hHeld
          have hX4 := ((Only.drew w2 []).trans hHeld).at hX2 (by simp)
          have Hm : Hid (setL (fl lc (l.set k xc)) (k * 14 + 3) (bc b) = fl lc (l.set k { xc with b := b })) := hmid { xc with b := b } 3 (bc b) (by rw [bc_len]; decide) rfl
          have Hw : Hid ((l.set k { xc with b := b }).map ow = (l.set k xc).map ow) := by
            show _ = _
            rw [List.map_set, List.map_set]
            rfl
          have hle : k * 14 + 3 + (bc b).length ≤ l.length * 14 := by rw [hlb]; omega
          clear hln hX2 hlrow hmid hmany hsg s3
          go_wp2_with (first
            | (refine wpList_load_blk rfl 88 _ rfl X rfl (bc b) _ hX4 Tryz.underlying88 (by rfl) (by rw [hlb]; kernel_rfl) ?_)
            | (refine wpList_store_rec rfl 88 _ _ rfl g (k * 14 + 3) _ _ _ _ (bc b) _ rfl rfl s4 hle (by rw [hlb]; kernel_rfl) h1c ?_; intro w5 s5; rw [Hm.out] at s5))
          refine ⟨⟨j + 1, { xc with b := b }, by simp, by omega, Hx.out.1, Hx.out.2.1, Hx.out.2.2, by rw [Hfold.out, Hp.out], hxos, by rw [Hw.out]; exact s5.sel 5 [0, 1, 2, 3]⟩, by simp [intOf]; omega⟩
      | true =>
        rw [hbh] at g7
        have hx7 := (cell_in hX2 7).trans g7
        go_upto_region 11 with fail
        refine wp_region_held_drew (S := fun w' => Only w2.drew w' []) (by kernel_rfl) (Only.refl _ _) (fun hHeld => ?_)
        refine' wpAnyH_take (i := 0) (v := _) (op_at rfl) (by kernel_rfl) (by kernel_rfl) (by kernel_rfl) (fun _ _ _ h => h) (Or.inl ⟨by rfl, ?hy44⟩) (by assumption) ?rest44
        case hy44 =>
          intro w' hS
          go_simp
          try with_reducible rfl
        try simp only [Act.put, List.setIfInBounds_toArray, List.set_cons_zero, List.set_cons_succ]
        refine' wpAnyH_take (i := 1) (v := _) (op_at rfl) (by kernel_rfl) (by kernel_rfl) (by kernel_rfl) (fun _ _ _ h => h) (Or.inl ⟨by rfl, ?hy45⟩) (by assumption) ?rest45
        case hy45 =>
          intro w' hS
          have hXb := hS.at (show w2.drew.heap[X]? = _ from hX2) (by simp)
          have q := (cell_in hXb 7).trans g7
          go_simp
          try with_reducible rfl
        try simp only [Act.put, List.setIfInBounds_toArray, List.set_cons_zero, List.set_cons_succ]
        refine' wpAnyH_take (i := 2) (v := _) (op_at rfl) (by kernel_rfl) (by kernel_rfl) (by kernel_rfl) (fun _ _ _ h => h) (Or.inl ⟨by rfl, ?hy46⟩) (by assumption) ?rest46
        case hy46 =>
          intro w' hS
          go_simp
          try with_reducible rfl
        try simp only [Act.put, List.setIfInBounds_toArray, List.set_cons_zero, List.set_cons_succ]
        refine' wpAnyH_take (i := 3) (v := _) (op_at rfl) (by kernel_rfl) (by kernel_rfl) (by kernel_rfl) (fun _ _ _ h => h) (Or.inl ⟨by rfl, ?hy47⟩) (by assumption) ?rest47
        case hy47 =>
          intro w' hS
          go_simp
          try with_reducible rfl
        try simp only [Act.put, List.setIfInBounds_toArray, List.set_cons_zero, List.set_cons_succ]
        refine wpAnyH_take (i := 4) (v := undef) (op_at rfl) (by kernel_rfl) (by kernel_rfl) (by kernel_rfl) (fun _ _ _ h => h) (Or.inr ⟨by rfl, rfl⟩) (by assumption) ?_
        try simp only [Act.put, List.setIfInBounds_toArray, List.set_cons_zero, List.set_cons_succ]
        refine wpAnyH_take (i := 5) (v := undef) (op_at rfl) (by kernel_rfl) (by kernel_rfl) (by kernel_rfl) (fun _ _ _ h => h) (Or.inr ⟨by rfl, rfl⟩) (by assumption) ?_
        try simp only [Act.put, List.setIfInBounds_toArray, List.set_cons_zero, List.set_cons_succ]
        refine wpAnyH_take (i := 6) (v := undef) (op_at rfl) (by kernel_rfl) (by kernel_rfl) (by kernel_rfl) (fun _ _ _ h => h) (Or.inr ⟨by rfl, rfl⟩) (by assumption) ?_
        try simp only [Act.put, List.setIfInBounds_toArray, List.set_cons_zero, List.set_cons_succ]
        refine wpAnyH_take (i := 7) (v := undef) (op_at rfl) (by kernel_rfl) (by kernel_rfl) (by kernel_rfl) (fun _ _ _ h => h) (Or.inr ⟨by rfl, rfl⟩) (by assumption) ?_
        try simp only [Act.put, List.setIfInBounds_toArray, List.set_cons_zero, List.set_cons_succ]
        refine wpAnyH_take (i := 8) (v := undef) (op_at rfl) (by kernel_rfl) (by kernel_rfl) (by kernel_rfl) (fun _ _ _ h => h) (Or.inr ⟨by rfl, rfl⟩) (by assumption) ?_
        try simp only [Act.put, List.setIfInBounds_toArray, List.set_cons_zero, List.set_cons_succ]
        refine wpAnyH_take (i := 9) (v := undef) (op_at rfl) (by kernel_rfl) (by kernel_rfl) (by kernel_rfl) (fun _ _ _ h => h) (Or.inr ⟨by rfl, rfl⟩) (by assumption) ?_
        try simp only [Act.put, List.setIfInBounds_toArray, List.set_cons_zero, List.set_cons_succ]
        refine wpAnyH_take (i := 10) (v := undef) (op_at rfl) (by kernel_rfl) (by kernel_rfl) (by kernel_rfl) (fun _ _ _ h => h) (Or.inr ⟨by rfl, rfl⟩) (by assumption) ?_
        try simp only [Act.put, List.setIfInBounds_toArray, List.set_cons_zero, List.set_cons_succ]
        refine wpAnyH_take (i := 11) (v := undef) (op_at rfl) (by kernel_rfl) (by kernel_rfl) (by kernel_rfl) (fun _ _ _ h => h) (Or.inr ⟨by rfl, rfl⟩) (by assumption) ?_
        try simp only [Act.put, List.setIfInBounds_toArray, List.set_cons_zero, List.set_cons_succ]
        refine' wpAnyH_take (i := 12) (v := _) (op_at rfl) (by kernel_rfl) (by kernel_rfl) (by kernel_rfl) (fun _ _ _ h => h) (Or.inl ⟨by rfl, ?hy56⟩) (by assumption) ?rest56
        case hy56 =>
          intro w' hS
          go_simp
          try with_reducible rfl
        try simp only [Act.put, List.setIfInBounds_toArray, List.set_cons_zero, List.set_cons_succ]
        refine' wpAnyH_take (i := 13) (v := _) (op_at rfl) (by kernel_rfl) (by kernel_rfl) (by kernel_rfl) (fun _ _ _ h => h) (Or.inl ⟨by rfl, ?hy57⟩) (by assumption) ?rest57
        case hy57 =>
          intro w' hS
          go_simp
          try with_reducible rfl
        try simp only [Act.put, List.setIfInBounds_toArray, List.set_cons_zero, List.set_cons_succ]
        refine wpAnyH_done (by kernel_rfl) ?_ _
        have oW := (Only.drew w2 []).trans hHeld
        have s4 := s3.quiet oW
        have hX4 := oW.at hX2 (by simp)
        have hwv : w2.ownsRow 0 88 10 xc.v xc.os.length (fl bc xc.os) := many_ok (s3.sel 3 [2]).head (List.mem_of_getElem? hpk)
        have hc13w := (hlrow w2 s3.head).2
        clear hln hX2 s3
        by_cases hix : xc.os.findIdx (fun y => y.on == b.on) < xc.os.length
        · have hI : Hid (idxB (fun y => y.on == b.on) xc.os = (xc.os.findIdx (fun y => y.on == b.on) : Nat)) := by show _ = _; rw [idxB, if_pos hix]
          have Hp : Hid (pubS (xc.b, xc.os) b = (xc.b, xc.os.set (xc.os.findIdx fun y => y.on == b.on) b)) := by show _ = _; simp [pubS, hbh, hix]
          rw [hI.out]
          obtain ⟨i, hii⟩ : ∃ i, xc.os.findIdx (fun y => y.on == b.on) = i := ⟨_, rfl⟩
          rw [hii] at hix Hp ⊢
          clear hI hii
          obtain ⟨av, cv, hv⟩ := own_slice (show w2.ownsRow 0 88 10 xc.v xc.os.length (fl bc xc.os) from hwv)
          obtain ⟨gv, rfl, _⟩ := own_some (show w2.ownsRow 0 88 10 (.slice av xc.os.length cv) xc.os.length (fl bc xc.os) from by rw [← hv]; exact hwv) (by omega)
          have hii : (i : Int) < xc.os.length := by omega
          have hi0 : decide ((0 : Int) ≤ i) = true := by simp
          have q1 : Sep w0 w2.drew.drew (row 88 10 (.slice (some ⟨gv, 0, none⟩) xc.os.length cv) xc.os.length (fl bc xc.os) :: many (((l.set k xc).map ow).eraseIdx k) :: row 90 14 (.slice (some ⟨g, 0, none⟩) l.length c) l.length (fl lc (l.set k xc)) :: blk B [.slice (some ⟨g, 0, none⟩) l.length c] 93 :: row 88 10 (.slice (some ⟨gb, 0, none⟩) bs.length cb) bs.length (fl bc bs) :: blk X (bc b) 88 :: rs) := by
            rw [← hv]
            exact ((s4.quiet (Only.drew _ [])).sel 5 [2, 0, 1, 3, 4]).pick k hpk
          have hgv : ∀ i ∈ (row 90 14 (.slice (some ⟨g, 0, none⟩) l.length c) l.length (fl lc (l.set k xc))).fp, i ∉ [gv] := fun i hi hm => q1.two_at (i := 0) (j := 2) rfl rfl (by decide) i (by simpa [row, Value.ownBlock] using hm) hi
          have hlv : ∀ w', Only w2.drew.drew w' [gv] → w'.cell? ⟨g, k * 14 + 13, none⟩ = some (.slice (some ⟨gv, 0, none⟩) xc.os.length cv) := fun w' ho => by
            rw [← hv]
            exact (hlrow w' (Res.only (q1.sel 3 [2]).head ho hgv)).2
          have hXv : X ∉ [gv] := fun hm => q1.two_at (i := 0) (j := 5) rfl rfl (by decide) X (by simpa [row, Value.ownBlock] using hm) (by simp [blk])
          have hXW : w2.drew.drew.heap[X]? = some (.cells (bc b).toArray 88 (0, 0)) := hX4
          have hiw : i * 10 + 10 ≤ xc.os.length * 10 := by omega
          have Hs : Hid (setL (fl bc xc.os) (i * 10) (bc b) = fl bc (xc.os.set i b)) := fl_set (enc := bc) (k := 10) bc_len hix b
          have Hl : Hid (fl lc (l.set k xc) = fl lc (l.set k { xc with os := xc.os.set i b })) := fl_set_same rfl
          have Hmy := Lib.hid (hmany { xc with os := xc.os.set i b })
          have hkm : k < ((l.set k xc).map ow).length := by rw [List.length_map]; exact hkl'
          go_upto_region 15 with fail
          refine wp_region_t (S := fun w' => Only w2.drew.drew w' [gv]) 7 (by kernel_rfl) (by kernel_rfl) (Only.refl _ _) (fun hZ hHeld => ?_)
          refine' wpAnyT_take (i := 0) (v := _) hZ (op_at' rfl) (by rfl) (by kernel_rfl) (by kernel_rfl) (by kernel_rfl) (by kernel_rfl) (fun _ _ _ h => h) (Or.inl ⟨by rfl, ?hy1⟩) (by assumption) ?rest1
          case hy1 =>
            intro w' hS
            go_simp
            try with_reducible rfl
          try simp only [Act.put, List.setIfInBounds_toArray, List.set_cons_zero, List.set_cons_succ]
          refine' wpAnyT_take (i := 1) (v := _) hZ (op_at' rfl) (by rfl) (by kernel_rfl) (by kernel_rfl) (by kernel_rfl) (by kernel_rfl) (fun _ _ _ h => h) (Or.inl ⟨by rfl, ?hy2⟩) (by assumption) ?rest2
          case hy2 =>
            intro w' hS
            go_simp
            try with_reducible rfl
          try simp only [Act.put, List.setIfInBounds_toArray, List.set_cons_zero, List.set_cons_succ]
          refine' wpAnyT_take (i := 2) (v := _) hZ (op_at' rfl) (by rfl) (by kernel_rfl) (by kernel_rfl) (by kernel_rfl) (by kernel_rfl) (fun _ _ _ h => h) (Or.inl ⟨by rfl, ?hy3⟩) (by assumption) ?rest3
          case hy3 =>
            intro w' hS
            go_simp
            try with_reducible rfl
          try simp only [Act.put, List.setIfInBounds_toArray, List.set_cons_zero, List.set_cons_succ]
          refine' wpAnyT_take (i := 3) (v := _) hZ (op_at' rfl) (by rfl) (by kernel_rfl) (by kernel_rfl) (by kernel_rfl) (by kernel_rfl) (fun _ _ _ h => h) (Or.inl ⟨by rfl, ?hy4⟩) (by assumption) ?rest4
          case hy4 =>
            intro w' hS
            have q := hlv _ hS
            go_simp
            try with_reducible rfl
          try simp only [Act.put, List.setIfInBounds_toArray, List.set_cons_zero, List.set_cons_succ]
          refine' wpAnyT_take (i := 4) (v := _) hZ (op_at' rfl) (by rfl) (by kernel_rfl) (by kernel_rfl) (by kernel_rfl) (by kernel_rfl) (fun _ _ _ h => h) (Or.inl ⟨by rfl, ?hy5⟩) (by assumption) ?rest5
          case hy5 =>
            intro w' hS
            go_simp
            try with_reducible rfl
          try simp only [Act.put, List.setIfInBounds_toArray, List.set_cons_zero, List.set_cons_succ]
          refine wpAnyT_take (i := 5) hZ (op_at' rfl) (by rfl) (by kernel_rfl) (by kernel_rfl) (by kernel_rfl) (by kernel_rfl) (fun _ _ _ h => h) (yieldsIf_load_mid (by rfl) _ _ rfl X 0 rfl (bc b) _ (fun w' hS => block_range (hS.at (show w2.drew.drew.heap[X]? = _ from hXW) hXv)) Tryz.underlying88 (by rfl) (by rw [bc_len]; kernel_rfl)) (by assumption) ?_
          try simp only [Act.put, List.setIfInBounds_toArray, List.set_cons_zero, List.set_cons_succ]
          refine' wpAnyT_take (i := 6) (v := _) hZ (op_at' rfl) (by rfl) (by kernel_rfl) (by kernel_rfl) (by kernel_rfl) (by kernel_rfl) (fun _ _ _ h => h) (Or.inl ⟨by rfl, ?hy7⟩) (by assumption) ?rest7
          case hy7 =>
            intro w' hS
            go_simp
            try with_reducible rfl
          try simp only [Act.put, List.setIfInBounds_toArray, List.set_cons_zero, List.set_cons_succ]
          refine wpAnyT_last (by kernel_rfl) (op_at' rfl) (by kernel_rfl) (fun K hK => ?_)
          refine step_store_rec (by rfl) 88 _ _ (by rfl) gv (i * 10) (.agg (bc b).toArray) (bc b) (by rfl) 88 10 xc.os.length cv _ (by rfl) (by rfl) q1 (by rw [bc_len]; exact hiw) (by rw [bc_len]; kernel_rfl) (bc_one b) (fun w7 o7 s7 => ?_)
          go_wp2_with fail
          refine hK.out _ _ ?_
          clear hK K
          try simp only [Act.put, List.setIfInBounds_toArray, List.set_cons_zero, List.set_cons_succ]
          clear hlv hXv hXW hgv hlrow hmid hmany hX4 s4 q1 hZ hHeld hwv
          go_wp2_with fail
          have q2 : Sep w0 w7 (ow { xc with os := xc.os.set i b } :: many (((l.set k xc).map ow).eraseIdx k) :: row 90 14 (.slice (some ⟨g, 0, none⟩) l.length c) l.length (fl lc (l.set k { xc with os := xc.os.set i b })) :: blk B [.slice (some ⟨g, 0, none⟩) l.length c] 93 :: row 88 10 (.slice (some ⟨gb, 0, none⟩) bs.length cb) bs.length (fl bc bs) :: blk X (bc b) 88 :: rs) := by
            show Sep w0 w7 (row 88 10 xc.v (xc.os.set i b).length (fl bc (xc.os.set i b)) :: _)
            rw [List.length_set, ← Hs.out, ← Hl.out, hv]
            exact s7
          have q3 := q2.putk k hkm
          rw [Hmy.out] at q3
          refine ⟨⟨j + 1, { xc with os := xc.os.set i b }, by simp, by omega, Hx.out.1, Hx.out.2.1, Hx.out.2.2, by rw [Hfold.out, Hp.out], by simpa using hxos, q3.sel 5 [1, 2, 0, 3]⟩, by simp [intOf]; omega⟩
        · have hI : Hid (idxB (fun y => y.on == b.on) xc.os = -1) := by show _ = _; rw [idxB, if_neg hix]
          rw [hI.out]
          clear hI
          obtain ⟨av, cv, hv⟩ := own_slice (show w2.ownsRow 0 88 10 xc.v xc.os.length (fl bc xc.os) from hwv)
          rw [hv] at hc13w
          by_cases hlt : xc.os.length < 16
          · have Hp : Hid (pubS (xc.b, xc.os) b = (xc.b, xc.os ++ [b])) := by show _ = _; simp [pubS, hbh, hix, hlt]
            have dlt : decide ((xc.os.length : Int) < 16) = true := by simp; omega
            have q1 : Sep w0 w2.drew.drew (row 88 10 (.slice av xc.os.length cv) xc.os.length (fl bc xc.os) :: many (((l.set k xc).map ow).eraseIdx k) :: row 90 14 (.slice (some ⟨g, 0, none⟩) l.length c) l.length (fl lc (l.set k xc)) :: blk B [.slice (some ⟨g, 0, none⟩) l.length c] 93 :: row 88 10 (.slice (some ⟨gb, 0, none⟩) bs.length cb) bs.length (fl bc bs) :: blk X (bc b) 88 :: rs) := by
              rw [← hv]
              exact ((s4.quiet (Only.drew _ [])).sel 5 [2, 0, 1, 3, 4]).pick k hpk
            have hgv : ∀ i ∈ (row 90 14 (.slice (some ⟨g, 0, none⟩) l.length c) l.length (fl lc (l.set k xc))).fp, i ∉ (Value.ownBlock (.slice av xc.os.length cv)).toList := fun i hi hm => q1.two_at (i := 0) (j := 2) rfl rfl (by decide) i (by simpa [row] using hm) hi
            have hlv : ∀ w', Only w2.drew.drew w' (Value.ownBlock (.slice av xc.os.length cv)).toList → w'.cell? ⟨g, k * 14 + 13, none⟩ = some (.slice av xc.os.length cv) := fun w' ho => by
              rw [← hv]
              exact (hlrow w' (Res.only (q1.sel 3 [2]).head ho hgv)).2
            have hXv : X ∉ (Value.ownBlock (.slice av xc.os.length cv)).toList := fun hm => q1.two_at (i := 0) (j := 5) rfl rfl (by decide) X (by simpa [row] using hm) (by simp [blk])
            have hXW : w2.drew.drew.heap[X]? = some (.cells (bc b).toArray 88 (0, 0)) := hX4
            have Hof : Hid (fl bc (xc.os ++ [b]) = fl bc xc.os ++ bc b) := fl_snoc _ _
            have HmF := Lib.hid hmid
            have HmY := Lib.hid hmany
            have hkm : k < ((l.set k xc).map ow).length := by rw [List.length_map]; exact hkl'
            clear hmid hmany hix
            go_upto_region 17 with fail
            refine wp_region_t (S := fun w' => Only w2.drew.drew w' (Value.ownBlock (.slice av xc.os.length cv)).toList) 10 (by kernel_rfl) (by kernel_rfl) (Only.refl _ _) (fun hZ hHeld => ?_)
            refine' wpAnyT_take (i := 0) (v := _) hZ (op_at' rfl) (by rfl) (by kernel_rfl) (by kernel_rfl) (by kernel_rfl) (by kernel_rfl) (fun _ _ _ h => h) (Or.inl ⟨by rfl, ?hy8⟩) (by assumption) ?rest8
            case hy8 =>
              intro w' hS
              go_simp
              try with_reducible rfl
            try simp only [Act.put, List.setIfInBounds_toArray, List.set_cons_zero, List.set_cons_succ]
            refine' wpAnyT_take (i := 1) (v := _) hZ (op_at' rfl) (by rfl) (by kernel_rfl) (by kernel_rfl) (by kernel_rfl) (by kernel_rfl) (fun _ _ _ h => h) (Or.inl ⟨by rfl, ?hy9⟩) (by assumption) ?rest9
            case hy9 =>
              intro w' hS
              go_simp
              try with_reducible rfl
            try simp only [Act.put, List.setIfInBounds_toArray, List.set_cons_zero, List.set_cons_succ]
            refine' wpAnyT_take (i := 2) (v := _) hZ (op_at' rfl) (by rfl) (by kernel_rfl) (by kernel_rfl) (by kernel_rfl) (by kernel_rfl) (fun _ _ _ h => h) (Or.inl ⟨by rfl, ?hy10⟩) (by assumption) ?rest10
            case hy10 =>
              intro w' hS
              go_simp
              try with_reducible rfl
            try simp only [Act.put, List.setIfInBounds_toArray, List.set_cons_zero, List.set_cons_succ]
            refine' wpAnyT_take (i := 3) (v := _) hZ (op_at' rfl) (by rfl) (by kernel_rfl) (by kernel_rfl) (by kernel_rfl) (by kernel_rfl) (fun _ _ _ h => h) (Or.inl ⟨by rfl, ?hy11⟩) (by assumption) ?rest11
            case hy11 =>
              intro w' hS
              go_simp
              try with_reducible rfl
            try simp only [Act.put, List.setIfInBounds_toArray, List.set_cons_zero, List.set_cons_succ]
            refine' wpAnyT_take (i := 4) (v := _) hZ (op_at' rfl) (by rfl) (by kernel_rfl) (by kernel_rfl) (by kernel_rfl) (by kernel_rfl) (fun _ _ _ h => h) (Or.inl ⟨by rfl, ?hy12⟩) (by assumption) ?rest12
            case hy12 =>
              intro w' hS
              have q := hlv _ hS
              go_simp
              try with_reducible rfl
            try simp only [Act.put, List.setIfInBounds_toArray, List.set_cons_zero, List.set_cons_succ]
            refine wpAnyT_take (i := 5) hZ (op_at' rfl) (by rfl) (by kernel_rfl) (by kernel_rfl) (by kernel_rfl) (by kernel_rfl) (fun _ _ _ h => h) (yieldsIf_load_mid (by rfl) _ _ rfl X 0 rfl (bc b) _ (fun w' hS => block_range (hS.at (show w2.drew.drew.heap[X]? = _ from hXW) hXv)) Tryz.underlying88 (by rfl) (by rw [bc_len]; kernel_rfl)) (by assumption) ?_
            try simp only [Act.put, List.setIfInBounds_toArray, List.set_cons_zero, List.set_cons_succ]
            refine wpAnyT_one (i := 6) (by kernel_rfl) (op_at' rfl) (fun K hK => ?_)
            refine step_buildSlice_one (by rfl) 69 _ (by rfl) 88 i0 _ (bc b) (by rfl) Tryz.underlying69 hi hz0 (by rw [hz1, bc_len]) (by rw [bc_len]; rfl) (by rw [bc_len]; decide) (by rw [bc_len]; decide) (fun Y wS oS hYl hYS => ?_)
            go_wp2_with fail
            refine hK.out _ _ (oS.mono (by simp)) (fun hHeld => ?_)
            clear hK K
            try simp only [Act.put, List.setIfInBounds_toArray, List.set_cons_zero, List.set_cons_succ]
            refine wpAnyT_one (i := 7) (by kernel_rfl) (op_at' rfl) (fun K hK => ?_)
            refine step_append_sep (by rfl) _ _ 69 (by rfl) 88 i0 _ 10 152 Tryz.underlying69 hi hz0 hz1 hz2 rfl (by decide) (.slice av xc.os.length cv) xc.os.length _ (by rfl) (q1.quiet oS) _ 1 (bc b) (by rfl) (src_blk hYS (by rw [bc_len])) (bc_one b) (by unfold maxLen; omega) (by omega) (fun a8 c8 w8 o8 s8 => ?_)
            go_wp2_with fail
            refine hK.out _ _ ((oS.mono (by simp)).trans o8) (fun hHeld => ?_)
            clear hK K
            try simp only [Act.put, List.setIfInBounds_toArray, List.set_cons_zero, List.set_cons_succ]
            refine' wpAnyT_take (i := 8) (v := _) hZ (op_at' rfl) (by rfl) (by kernel_rfl) (by kernel_rfl) (by kernel_rfl) (by kernel_rfl) (fun _ _ _ h => h) (Or.inl ⟨by rfl, ?hy14⟩) (by assumption) ?rest14
            case hy14 =>
              intro w' hS
              go_simp
              try with_reducible rfl
            try simp only [Act.put, List.setIfInBounds_toArray, List.set_cons_zero, List.set_cons_succ]
            refine' wpAnyT_take (i := 9) (v := _) hZ (op_at' rfl) (by rfl) (by kernel_rfl) (by kernel_rfl) (by kernel_rfl) (by kernel_rfl) (fun _ _ _ h => h) (Or.inl ⟨by rfl, ?hy15⟩) (by assumption) ?rest15
            case hy15 =>
              intro w' hS
              go_simp
              try with_reducible rfl
            try simp only [Act.put, List.setIfInBounds_toArray, List.set_cons_zero, List.set_cons_succ]
            refine wpAnyT_last (by kernel_rfl) (op_at' rfl) (by kernel_rfl) (fun K hK => ?_)
            refine step_store_rec (by rfl) 69 _ _ (by rfl) g (k * 14 + 13) (.slice a8 (xc.os.length + 1) c8) [.slice a8 (xc.os.length + 1) c8] (by rfl) 90 14 l.length c _ (by rfl) (by rfl) (s8.sel 3 [2, 0, 1]) (by simp; omega) (by kernel_rfl) (by simp [Value.oneCell']) (fun w9 o9 s9 => ?_)
            go_wp2_with fail
            refine hK.out _ _ ?_
            clear hK K
            try simp only [Act.put, List.setIfInBounds_toArray, List.set_cons_zero, List.set_cons_succ]
            clear hlv hXv hXW hgv hlrow hX4 s4 q1 hZ hHeld hwv s8
            go_wp2_with fail
            have q2 : Sep w0 w9 (ow { xc with v := .slice a8 (xc.os.length + 1) c8, os := xc.os ++ [b], ok := rfl } :: many (((l.set k xc).map ow).eraseIdx k) :: row 90 14 (.slice (some ⟨g, 0, none⟩) l.length c) l.length (fl lc (l.set k { xc with v := .slice a8 (xc.os.length + 1) c8, os := xc.os ++ [b], ok := rfl })) :: blk B [.slice (some ⟨g, 0, none⟩) l.length c] 93 :: row 88 10 (.slice (some ⟨gb, 0, none⟩) bs.length cb) bs.length (fl bc bs) :: blk X (bc b) 88 :: rs) := by
              show Sep w0 w9 (row 88 10 (.slice a8 (xc.os.length + 1) c8) (xc.os ++ [b]).length (fl bc (xc.os ++ [b])) :: _)
              rw [Hof.out, List.length_append, List.length_singleton, ← HmF.out { xc with v := .slice a8 (xc.os.length + 1) c8, os := xc.os ++ [b], ok := rfl } 13 [.slice a8 (xc.os.length + 1) c8] (by simp) rfl]
              exact s9.sel 3 [1, 2, 0]
            have q3 := q2.putk k hkm
            rw [HmY.out { xc with v := .slice a8 (xc.os.length + 1) c8, os := xc.os ++ [b], ok := rfl }] at q3
            refine ⟨⟨j + 1, { xc with v := .slice a8 (xc.os.length + 1) c8, os := xc.os ++ [b], ok := rfl }, by simp, by omega, Hx.out.1, Hx.out.2.1, Hx.out.2.2, by rw [Hfold.out, Hp.out], by simp; omega, q3.sel 5 [1, 2, 0, 3]⟩, by simp [intOf]; omega⟩
          · have Hp : Hid (pubS (xc.b, xc.os) b = (xc.b, xc.os)) := by show _ = _; simp [pubS, hbh, hix, hlt]
            have dlt : decide ((xc.os.length : Int) < 16) = false := by simp; omega
            clear hlrow hmid hmany hix hX4 hwv
            go_wp2_with fail
            refine ⟨⟨j + 1, xc, by simp, by omega, Hx.out.1, Hx.out.2.1, Hx.out.2.2, by rw [Hfold.out, Hp.out], hxos, s4.sel 5 [0, 1, 2, 3]⟩, by simp [intOf]; omega⟩
    · obtain rfl : j = bs.length := by omega
      have d1 : decide ((bs.length : Int) < bs.length) = false := by simp
      rw [List.take_length] at hfold
      have Hx := Lib.hid (And.intro hxu (And.intro hxd (And.intro hxon (And.intro hfold hxos))))
      have hll' : (l.set k xc).length = l.length := List.length_set ..
      clear hfold hxu hxd hxon hxos
      go_wp2_with fail
      go_ret
      exact ⟨rfl, xc, Hx.out.1, Hx.out.2.1, Hx.out.2.2.1, Hx.out.2.2.2.1, Hx.out.2.2.2.2, by simp only [regR]; rw [hll']; exact hs⟩
end Go.Proofs.YtmmhbehlpppdiaaGreatDoor
namespace Go.Proofs.YtmmhbehlpppdiaaGreatDoor.Wl
open Go.RowKit Go.Pw

theorem kc_range {w : World} {KB : Nat} {u d nx : Int} {ag sg sv ov mv : Value} (h : w.heap[KB]? = some (.cells (kc u d ag sg sv ov nx mv).toArray 176 (0, 0))) : w.rangeAt KB 0 [.int .i64 u, .int .i64 d] := fun j x hx => by
  have hj : j < 2 := (List.getElem?_eq_some_iff.1 hx).1
  rw [Nat.zero_add, cell_in h]
  have : j = 0 ∨ j = 1 := by omega
  rcases this with rfl | rfl <;> simpa using hx
theorem pc_one (x : Pa) : ∀ u ∈ pc x, u.oneCell' = true := by
  intro u hu
  simp only [pc, List.mem_cons, List.not_mem_nil, or_false] at hu
  rcases hu with rfl | rfl | rfl
  · rfl
  · exact x.ok
  · rfl
theorem pc_arr (x : Pa) : (pc x).toArray.all (·.oneCell') = true := all_oneCell_toArray (pc_one x)
theorem There.imp {rs rs' : List Res} {p : Value} (h : There rs p) (hs : ∀ w, (∀ r ∈ rs', r.ok w) → ∀ r ∈ rs, r.ok w) : There rs' p := fun w' hr => h w' (hs w' hr)
theorem there_by {rs : List Res} {p : Value} {n : Nat} (h : byR p n ∈ rs) (hn : n ≤ 1000000) : There rs p := fun w' hr => by
  obtain ⟨xs, h1, h2, h3⟩ := by_src (hr _ h)
  exact ⟨xs, by omega, h2, h3⟩
theorem there_nil {rs : List Res} : There rs (.slice none 0 0) := fun w' _ => ⟨[], by decide, fun x hx => by simp at hx, src_nil⟩
theorem ThereB.imp {rs rs' : List Res} {b : Bu} (h : ThereB rs b) (hs : ∀ w, (∀ r ∈ rs', r.ok w) → ∀ r ∈ rs, r.ok w) : ThereB rs' b :=
  ⟨h.1.imp hs, h.2.1.imp hs, h.2.2.1.imp hs, h.2.2.2.1.imp hs, h.2.2.2.2.imp hs⟩
def BundP (w0 : World) (PB TB TM KB : Nat) (k : Nat) (m : Int) (sv : Value) (u d : Int) (ag sg : Value) (Y c : Nat) (se si ov : Value) (os : List Pa) (rs : List Res) (e : Ending) (w' : World) : Prop :=
  ∃ (Rs : List Res) (bv : Value) (bs : List Bu) (v' : Value) (l' : List Tm) (m' : Int), e = .returned bv ∧ bs.length = 5 ∧ (∀ b ∈ bs, b.u = u ∧ b.d = d ∧ ThereB [byR si 64, many Rs] b) ∧ bs.any (fun b => !b.has) = true ∧ k ≤ l'.length ∧ l'.length ≤ k + 14 ∧ m ≤ m' ∧ m' ≤ m ∧
    Sep w0 w' (primR PB TB TM v' l' sv m' (keyR KB u d ag sg Y c se si ov os (row 88 10 bv bs.length (fl bc bs) :: many Rs :: rs)))
set_option maxRecDepth 100000 in
set_option maxHeartbeats 4000000 in
theorem kbundles_any {w0 : World} {rs : List Res} (PB TB TM KB : Nat) (v : Value) (l : List Tm) (sv : Value) (m : Int) (u d : Int) (ag sg : Value) (Y c : Nat) (se si ov : Value) (os : List Pa) (w : World) (h : Sep w0 w (primR PB TB TM v l sv m (keyR KB u d ag sg Y c se si ov os rs))) (hI : ItoaOK w0) (hl : l.length ≤ 600000) (ho4 : os.length = 4) :
    Calls Tryz.prog 86 #[.pointer (some ⟨KB, 0, none⟩), .pointer (some ⟨PB, 0, none⟩)] w (BundP w0 PB TB TM KB l.length m sv u d ag sg Y c se si ov os rs) := by
  obtain ⟨i0, hi, hz0, hz1, hz2⟩ := info_parts bun_info
  have HO4 := Lib.hid ho4
  clear ho4
  obtain ⟨ao, co, rfl⟩ := own_slice (show w.ownsRow 0 214 3 ov os.length (fl pc os) from h.get 7 rfl)
  obtain ⟨p4, q4, rfl⟩ := by_slice (h.get 9 rfl)
  obtain ⟨p3, q3, rfl⟩ := by_slice (h.get 10 rfl)
  have hY : ∀ w', Only w w' [] → w'.rangeAt Y 0 [.int .u32 1, .slice p4 32 q4, .slice p3 64 q3] := fun w' o => row_range (show w'.ownsRow 0 214 3 (.slice (some ⟨Y, 0, none⟩) 1 c) 1 _ from (h.quiet o).get 6 rfl) 0 0 _ (fun j _ => by rw [Nat.zero_add]) (by simp)
  obtain ⟨c0, c1, c2, c3, c4, c5, c6, c7⟩ := kc_at (show w.heap[KB]? = _ from h.get 5 rfl)
  clear c0 c1 c2 c3 c5 c6 c7
  go_enter Tryz.func86, Tryz.ntmps86
  go_upto_region 4 with (first
    | (refine wpList_alloc_new rfl 214 rfl (.agg #[.int .u32 0, .slice none 0 0, .slice none 0 0]) (fun _ => by kernel_rfl) ?_; intro X5 wX oX lX bX)
    | (refine wpList_load_mid rfl 214 _ rfl Y 0 rfl [.int .u32 1, .slice p4 32 q4, .slice p3 64 q3] _ (hY _ (Only.refl _ _)) Tryz.underlying214 (by rfl) (by kernel_rfl) ?_)
    | (refine wpList_store_blk rfl 214 _ _ rfl X5 [.int .u32 1, .slice p4 32 q4, .slice p3 64 q3] rfl rfl bX rfl (by kernel_rfl) (by simp [Value.oneCell']) ?_; intro wY oY bY))
  have oY2 : Only w wY [] := oX.new oY (fun k hk => by simp only [List.mem_singleton] at hk; omega)
  have sR : Sep w0 wY.drew (primR PB TB TM v l sv m (blk KB (kc u d ag sg (.slice (some ⟨Y, 0, none⟩) 1 c) (.slice ao os.length co) 6 (.slice none 0 0)) 176 :: blk X5 [.int .u32 1, .slice p4 32 q4, .slice p3 64 q3] 214 :: row 214 3 (.slice (some ⟨Y, 0, none⟩) 1 c) 1 [.int .u32 1, .slice p4 32 q4, .slice p3 64 q3] :: row 214 3 (.slice ao os.length co) os.length (fl pc os) :: many (os.map paR) :: byR (.slice p4 32 q4) 32 :: byR (.slice p3 64 q3) 64 :: byR sg 32 :: byR ag 32 :: rs)) := ((h.add (b := blk X5 [.int .u32 1, .slice p4 32 q4, .slice p3 64 q3] 214) oY2 bY (fun k hk => by simp [blk] at hk; omega)).sel 7 [1, 2, 3, 4, 5, 6, 0]).quiet (Only.drew wY [])
  clear h oY2 bY oX lX bX oY c4 hY
  simp only [Act.put, List.setIfInBounds_toArray, List.set_cons_zero, List.set_cons_succ]
  go_cut [6] from 6 to 34 (fun u6 wx => ∃ (X6 : Nat) (p1 p2 p5 : Option Addr) (q1 q2 q5 : Nat) (v2 : Value) (l2 : List Tm) (m2 : Int), u6 = .pointer (some ⟨X6, 0, none⟩) ∧ l.length ≤ l2.length ∧ l2.length ≤ l.length + 6 ∧ m ≤ m2 ∧ m2 ≤ m ∧ Sep w0 wx (primR PB TB TM v2 l2 sv m2 (blk X6 [.int .i64 u, .int .i64 d, .slice p1 32 q1, .slice p2 32 q2, .int .u32 1, .slice p5 32 q5, .slice p3 64 q3, .bool false, .int .u32 0, .slice none 0 0] 88 :: byR (.slice p5 32 q5) 32 :: byR (.slice p1 32 q1) 32 :: byR (.slice p2 32 q2) 32 :: blk KB (kc u d ag sg (.slice (some ⟨Y, 0, none⟩) 1 c) (.slice ao os.length co) 6 (.slice none 0 0)) 176 :: row 214 3 (.slice (some ⟨Y, 0, none⟩) 1 c) 1 [.int .u32 1, .slice p4 32 q4, .slice p3 64 q3] :: row 214 3 (.slice ao os.length co) os.length (fl pc os) :: many (os.map paR) :: byR (.slice p4 32 q4) 32 :: byR (.slice p3 64 q3) 64 :: byR sg 32 :: byR ag 32 :: rs)))
  case first =>
    refine wp_region_u (S := fun w' => w'.heap[KB]? = some (.cells (kc u d ag sg (.slice (some ⟨Y, 0, none⟩) 1 c) (.slice ao os.length co) 6 (.slice none 0 0)).toArray 176 (0, 0)) ∧ w'.heap[X5]? = some (.cells ([.int .u32 1, .slice p4 32 q4, .slice p3 64 q3] : List Value).toArray 214 (0, 0))) 17 [] (by kernel_rfl) (by kernel_rfl) ⟨sR.get 5 rfl, sR.get 6 rfl⟩ (fun hZ hHeld => ?_)
    refine' wpAnyU_take (i := 0) (v := _) hZ (op_at' rfl) (by kernel_rfl) (by kernel_rfl) (by kernel_rfl) (by kernel_rfl) (by kernel_rfl) (fun _ _ _ h => h) (Or.inl ⟨by rfl, ?hy1⟩) (by assumption) ?rest1
    case hy1 =>
      intro w' hS
      go_simp
      try with_reducible rfl
    try simp only [Act.put, List.setIfInBounds_toArray, List.set_cons_zero, List.set_cons_succ]
    refine' wpAnyU_take (i := 1) (v := _) hZ (op_at' rfl) (by kernel_rfl) (by kernel_rfl) (by kernel_rfl) (by kernel_rfl) (by kernel_rfl) (fun _ _ _ h => h) (Or.inl ⟨by rfl, ?hy2⟩) (by assumption) ?rest2
    case hy2 =>
      intro w' hS
      go_simp
      try with_reducible rfl
    try simp only [Act.put, List.setIfInBounds_toArray, List.set_cons_zero, List.set_cons_succ]
    refine' wpAnyU_take (i := 2) (v := _) hZ (op_at' rfl) (by kernel_rfl) (by kernel_rfl) (by kernel_rfl) (by kernel_rfl) (by kernel_rfl) (fun _ _ _ h => h) (Or.inl ⟨by rfl, ?hy3⟩) (by assumption) ?rest3
    case hy3 =>
      intro w' hS
      go_simp
      try with_reducible rfl
    try simp only [Act.put, List.setIfInBounds_toArray, List.set_cons_zero, List.set_cons_succ]
    refine wpAnyU_take (i := 3) hZ (op_at' rfl) (by kernel_rfl) (by kernel_rfl) (by kernel_rfl) (by kernel_rfl) (by kernel_rfl) (fun _ _ _ h => h) (yieldsIf_load_mid (by rfl) _ _ rfl KB 0 rfl ([.int .i64 u, .int .i64 d]) _ (fun w' hS => kc_range hS.1) Tryz.underlying40 (by rfl) (by kernel_rfl)) (by assumption) ?_
    try simp only [Act.put, List.setIfInBounds_toArray, List.set_cons_zero, List.set_cons_succ]
    refine' wpAnyU_take (i := 4) (v := _) hZ (op_at' rfl) (by kernel_rfl) (by kernel_rfl) (by kernel_rfl) (by kernel_rfl) (by kernel_rfl) (fun _ _ _ h => h) (Or.inl ⟨by rfl, ?hy5⟩) (by assumption) ?rest5
    case hy5 =>
      intro w' hS
      go_simp
      try with_reducible rfl
    try simp only [Act.put, List.setIfInBounds_toArray, List.set_cons_zero, List.set_cons_succ]
    refine' wpAnyU_take (i := 5) (v := _) hZ (op_at' rfl) (by kernel_rfl) (by kernel_rfl) (by kernel_rfl) (by kernel_rfl) (by kernel_rfl) (fun _ _ _ h => h) (Or.inl ⟨by rfl, ?hy6⟩) (by assumption) ?rest6
    case hy6 =>
      intro w' hS
      go_simp
      try with_reducible rfl
    try simp only [Act.put, List.setIfInBounds_toArray, List.set_cons_zero, List.set_cons_succ]
    refine' wpAnyU_take (i := 7) (v := _) hZ (op_at' rfl) (by kernel_rfl) (by kernel_rfl) (by kernel_rfl) (by kernel_rfl) (by kernel_rfl) (fun _ _ _ h => h) (Or.inl ⟨by rfl, ?hy7⟩) (by assumption) ?rest7
    case hy7 =>
      intro w' hS
      go_simp
      try with_reducible rfl
    try simp only [Act.put, List.setIfInBounds_toArray, List.set_cons_zero, List.set_cons_succ]
    refine' wpAnyU_take (i := 8) (v := _) hZ (op_at' rfl) (by kernel_rfl) (by kernel_rfl) (by kernel_rfl) (by kernel_rfl) (by kernel_rfl) (fun _ _ _ h => h) (Or.inl ⟨by rfl, ?hy8⟩) (by assumption) ?rest8
    case hy8 =>
      intro w' hS
      obtain ⟨c0, c1, c2, c3, c4, c5, c6, c7⟩ := kc_at hS.1
      have x0 := cell_in hS.2 0
      have x1 := cell_in hS.2 1
      have x2 := cell_in hS.2 2
      go_simp
      try with_reducible rfl
    try simp only [Act.put, List.setIfInBounds_toArray, List.set_cons_zero, List.set_cons_succ]
    refine' wpAnyU_take (i := 9) (v := _) hZ (op_at' rfl) (by kernel_rfl) (by kernel_rfl) (by kernel_rfl) (by kernel_rfl) (by kernel_rfl) (fun _ _ _ h => h) (Or.inl ⟨by rfl, ?hy9⟩) (by assumption) ?rest9
    case hy9 =>
      intro w' hS
      go_simp
      try with_reducible rfl
    try simp only [Act.put, List.setIfInBounds_toArray, List.set_cons_zero, List.set_cons_succ]
    refine' wpAnyU_take (i := 10) (v := _) hZ (op_at' rfl) (by kernel_rfl) (by kernel_rfl) (by kernel_rfl) (by kernel_rfl) (by kernel_rfl) (fun _ _ _ h => h) (Or.inl ⟨by rfl, ?hy10⟩) (by assumption) ?rest10
    case hy10 =>
      intro w' hS
      go_simp
      try with_reducible rfl
    try simp only [Act.put, List.setIfInBounds_toArray, List.set_cons_zero, List.set_cons_succ]
    refine' wpAnyU_take (i := 11) (v := _) hZ (op_at' rfl) (by kernel_rfl) (by kernel_rfl) (by kernel_rfl) (by kernel_rfl) (by kernel_rfl) (fun _ _ _ h => h) (Or.inl ⟨by rfl, ?hy11⟩) (by assumption) ?rest11
    case hy11 =>
      intro w' hS
      obtain ⟨c0, c1, c2, c3, c4, c5, c6, c7⟩ := kc_at hS.1
      have x0 := cell_in hS.2 0
      have x1 := cell_in hS.2 1
      have x2 := cell_in hS.2 2
      go_simp
      try with_reducible rfl
    try simp only [Act.put, List.setIfInBounds_toArray, List.set_cons_zero, List.set_cons_succ]
    refine' wpAnyU_take (i := 13) (v := _) hZ (op_at' rfl) (by kernel_rfl) (by kernel_rfl) (by kernel_rfl) (by kernel_rfl) (by kernel_rfl) (fun _ _ _ h => h) (Or.inl ⟨by rfl, ?hy12⟩) (by assumption) ?rest12
    case hy12 =>
      intro w' hS
      go_simp
      try with_reducible rfl
    try simp only [Act.put, List.setIfInBounds_toArray, List.set_cons_zero, List.set_cons_succ]
    refine' wpAnyU_take (i := 14) (v := _) hZ (op_at' rfl) (by kernel_rfl) (by kernel_rfl) (by kernel_rfl) (by kernel_rfl) (by kernel_rfl) (fun _ _ _ h => h) (Or.inl ⟨by rfl, ?hy13⟩) (by assumption) ?rest13
    case hy13 =>
      intro w' hS
      obtain ⟨c0, c1, c2, c3, c4, c5, c6, c7⟩ := kc_at hS.1
      have x0 := cell_in hS.2 0
      have x1 := cell_in hS.2 1
      have x2 := cell_in hS.2 2
      go_simp
      try with_reducible rfl
    try simp only [Act.put, List.setIfInBounds_toArray, List.set_cons_zero, List.set_cons_succ]
    refine wpAnyU_two (i := 6) (k := 16) (by kernel_rfl) (op_at' rfl) (op_at' rfl) (fun K hK => ?bt14a) (fun K hK => ?bt14b)
    case bt14a =>
      go_simp
      refine (ident_any PB TB TM KB v l sv m u d ag sg _ _ _ _ _ sR hI (by omega) (by simp) (by simp)).mono ?_
      rintro e w6 ⟨p1, p2, q1, q2, v6, l6, m6, rfl, a6, b6, c6, d6, s6⟩
      go_wp2_with fail
      refine hK.out _ _ ⟨s6.get 5 rfl, s6.get 8 rfl⟩ (fun hHeld => ?_)
      clear hK K
      try simp only [Act.put, List.setIfInBounds_toArray, List.set_cons_zero, List.set_cons_succ]
      refine wpAnyU_two (i := 12) (k := 16) (by kernel_rfl) (op_at' rfl) (op_at' rfl) (fun K hK => ?bt15a) (fun K hK => ?bt15b)
      case bt15a =>
        go_simp
        refine (public_any PB TB TM v6 l6 sv m6 (.slice p4 32 q4) 32 _ s6 hI (by omega) (by simp) (by decide)).mono ?_
        rintro e w12 ⟨r5, v12, l12, m12, rfl, a12, b12, c12, d12, s12⟩
        obtain ⟨p5, q5, rfl⟩ := by_slice (s12.get 5 rfl)
        go_wp2_with fail
        refine hK.out _ _ ⟨s12.get 6 rfl, s12.get 9 rfl⟩ (fun hHeld => ?_)
        clear hK K
        try simp only [Act.put, List.setIfInBounds_toArray, List.set_cons_zero, List.set_cons_succ]
        refine' wpAnyU_take (i := 15) (v := _) hZ (op_at' rfl) (by kernel_rfl) (by kernel_rfl) (by kernel_rfl) (by kernel_rfl) (by kernel_rfl) (fun _ _ _ h => h) (Or.inl ⟨by rfl, ?hy16⟩) (by assumption) ?rest16
        case hy16 =>
          intro w' hS
          go_simp
          try with_reducible rfl
        try simp only [Act.put, List.setIfInBounds_toArray, List.set_cons_zero, List.set_cons_succ]
        refine wpAnyU_one (i := 16) (by kernel_rfl) (op_at' rfl) (fun K hK => ?_)
        refine step_alloc_new (by rfl) 88 (by rfl) (.agg #[.int .i64 0, .int .i64 0, .slice none 0 0, .slice none 0 0, .int .u32 0, .slice none 0 0, .slice none 0 0, .bool false, .int .u32 0, .slice none 0 0]) (fun _ => by kernel_rfl) (fun X6 w16 o16 l16 b16 => ?_)
        go_wp2_with fail
        refine hK.out _ _ ⟨o16.at hHeld.1 (by simp), o16.at hHeld.2 (by simp)⟩ (fun hHeld => ?_)
        clear hK K
        try simp only [Act.put, List.setIfInBounds_toArray, List.set_cons_zero, List.set_cons_succ]
        have s16 : Sep w0 w16 (primR PB TB TM v12 l12 sv m12 (byR (.slice p5 32 q5) 32 :: blk KB (kc u d ag sg (.slice (some ⟨Y, 0, none⟩) 1 c) (.slice ao os.length co) 6 (.slice none 0 0)) 176 :: byR (.slice p1 32 q1) 32 :: byR (.slice p2 32 q2) 32 :: blk X6 [.int .i64 0, .int .i64 0, .slice none 0 0, .slice none 0 0, .int .u32 0, .slice none 0 0, .slice none 0 0, .bool false, .int .u32 0, .slice none 0 0] 88 :: blk X5 [.int .u32 1, .slice p4 32 q4, .slice p3 64 q3] 214 :: row 214 3 (.slice (some ⟨Y, 0, none⟩) 1 c) 1 [.int .u32 1, .slice p4 32 q4, .slice p3 64 q3] :: row 214 3 (.slice ao os.length co) os.length (fl pc os) :: many (os.map paR) :: byR (.slice p4 32 q4) 32 :: byR (.slice p3 64 q3) 64 :: byR sg 32 :: byR ag 32 :: rs)) := (s12.add (b := blk X6 [.int .i64 0, .int .i64 0, .slice none 0 0, .slice none 0 0, .int .u32 0, .slice none 0 0, .slice none 0 0, .bool false, .int .u32 0, .slice none 0 0] 88) o16 b16 (fun k hk => by simp [blk] at hk; omega)).sel 11 [1, 2, 3, 4, 5, 6, 7, 8, 9, 0, 10]
        refine wpAnyU_next (i := 17) (by kernel_rfl) (by simp) (op_at' rfl) (fun K hK => ?_)
        refine step_store_blk (by rfl) 88 _ _ (by rfl) X6 0 (.agg #[.int .i64 u, .int .i64 d, .slice p1 32 q1, .slice p2 32 q2, .int .u32 1, .slice p5 32 q5, .slice p3 64 q3, .bool false, .int .u32 0, .slice none 0 0]) [.int .i64 u, .int .i64 d, .slice p1 32 q1, .slice p2 32 q2, .int .u32 1, .slice p5 32 q5, .slice p3 64 q3, .bool false, .int .u32 0, .slice none 0 0] [.int .i64 0, .int .i64 0, .slice none 0 0, .slice none 0 0, .int .u32 0, .slice none 0 0, .slice none 0 0, .bool false, .int .u32 0, .slice none 0 0] 88 (by rfl) (by rfl) (by rfl) (s16.sel 11 [9, 0, 1, 2, 3, 4, 5, 6, 7, 8, 10]) (by simp) (by kernel_rfl) (by simp [Value.oneCell']) (fun w17 o17 s17 => ?_)
        go_wp2_with fail
        refine hK.out _ _ ?_
        clear hK K
        try simp only [Act.put, List.setIfInBounds_toArray, List.set_cons_zero, List.set_cons_succ]
        refine wpAnyU_done (by kernel_rfl) ?_ _
        go_wp2_with fail
        go_meet
        case rel => exact ⟨X6, p1, p2, p5, q1, q2, q5, v12, l12, m12, rfl, by omega, by omega, by omega, by omega, s17.sel 11 [1, 2, 3, 4, 5, 0, 6, 8, 9, 7]⟩
      case bt15b =>
        refine step_alloc_new (by rfl) 88 (by rfl) (.agg #[.int .i64 0, .int .i64 0, .slice none 0 0, .slice none 0 0, .int .u32 0, .slice none 0 0, .slice none 0 0, .bool false, .int .u32 0, .slice none 0 0]) (fun _ => by kernel_rfl) (fun X6 w16 o16 l16 b16 => ?_)
        go_wp2_with fail
        refine hK.out _ _ ⟨o16.at hHeld.1 (by simp), o16.at hHeld.2 (by simp)⟩ (fun hHeld => ?_)
        clear hK K
        try simp only [Act.put, List.setIfInBounds_toArray, List.set_cons_zero, List.set_cons_succ]
        have s16 : Sep w0 w16 (primR PB TB TM v6 l6 sv m6 (blk KB (kc u d ag sg (.slice (some ⟨Y, 0, none⟩) 1 c) (.slice ao os.length co) 6 (.slice none 0 0)) 176 :: byR (.slice p1 32 q1) 32 :: byR (.slice p2 32 q2) 32 :: blk X6 [.int .i64 0, .int .i64 0, .slice none 0 0, .slice none 0 0, .int .u32 0, .slice none 0 0, .slice none 0 0, .bool false, .int .u32 0, .slice none 0 0] 88 :: blk X5 [.int .u32 1, .slice p4 32 q4, .slice p3 64 q3] 214 :: row 214 3 (.slice (some ⟨Y, 0, none⟩) 1 c) 1 [.int .u32 1, .slice p4 32 q4, .slice p3 64 q3] :: row 214 3 (.slice ao os.length co) os.length (fl pc os) :: many (os.map paR) :: byR (.slice p4 32 q4) 32 :: byR (.slice p3 64 q3) 64 :: byR sg 32 :: byR ag 32 :: rs)) := (s6.add (b := blk X6 [.int .i64 0, .int .i64 0, .slice none 0 0, .slice none 0 0, .int .u32 0, .slice none 0 0, .slice none 0 0, .bool false, .int .u32 0, .slice none 0 0] 88) o16 b16 (fun k hk => by simp [blk] at hk; omega)).sel 10 [1, 2, 3, 4, 5, 6, 7, 8, 0, 9]
        refine wpAnyU_one (i := 12) (by kernel_rfl) (op_at' rfl) (fun K hK => ?_)
        go_simp
        refine (public_any PB TB TM v6 l6 sv m6 (.slice p4 32 q4) 32 _ s16 hI (by omega) (by simp) (by decide)).mono ?_
        rintro e w12 ⟨r5, v12, l12, m12, rfl, a12, b12, c12, d12, s12⟩
        obtain ⟨p5, q5, rfl⟩ := by_slice (s12.get 5 rfl)
        go_wp2_with fail
        refine hK.out _ _ ⟨s12.get 6 rfl, s12.get 10 rfl⟩ (fun hHeld => ?_)
        clear hK K
        try simp only [Act.put, List.setIfInBounds_toArray, List.set_cons_zero, List.set_cons_succ]
        refine' wpAnyU_take (i := 15) (v := _) hZ (op_at' rfl) (by kernel_rfl) (by kernel_rfl) (by kernel_rfl) (by kernel_rfl) (by kernel_rfl) (fun _ _ _ h => h) (Or.inl ⟨by rfl, ?hy17⟩) (by assumption) ?rest17
        case hy17 =>
          intro w' hS
          go_simp
          try with_reducible rfl
        try simp only [Act.put, List.setIfInBounds_toArray, List.set_cons_zero, List.set_cons_succ]
        refine wpAnyU_next (i := 17) (by kernel_rfl) (by simp) (op_at' rfl) (fun K hK => ?_)
        refine step_store_blk (by rfl) 88 _ _ (by rfl) X6 0 (.agg #[.int .i64 u, .int .i64 d, .slice p1 32 q1, .slice p2 32 q2, .int .u32 1, .slice p5 32 q5, .slice p3 64 q3, .bool false, .int .u32 0, .slice none 0 0]) [.int .i64 u, .int .i64 d, .slice p1 32 q1, .slice p2 32 q2, .int .u32 1, .slice p5 32 q5, .slice p3 64 q3, .bool false, .int .u32 0, .slice none 0 0] [.int .i64 0, .int .i64 0, .slice none 0 0, .slice none 0 0, .int .u32 0, .slice none 0 0, .slice none 0 0, .bool false, .int .u32 0, .slice none 0 0] 88 (by rfl) (by rfl) (by rfl) (s12.sel 11 [9, 0, 1, 2, 3, 4, 5, 6, 7, 8, 10]) (by simp) (by kernel_rfl) (by simp [Value.oneCell']) (fun w17 o17 s17 => ?_)
        go_wp2_with fail
        refine hK.out _ _ ?_
        clear hK K
        try simp only [Act.put, List.setIfInBounds_toArray, List.set_cons_zero, List.set_cons_succ]
        refine wpAnyU_done (by kernel_rfl) ?_ _
        go_wp2_with fail
        go_meet
        case rel => exact ⟨X6, p1, p2, p5, q1, q2, q5, v12, l12, m12, rfl, by omega, by omega, by omega, by omega, s17.sel 11 [1, 2, 3, 4, 5, 0, 6, 8, 9, 7]⟩
    case bt14b =>
      refine step_alloc_new (by rfl) 88 (by rfl) (.agg #[.int .i64 0, .int .i64 0, .slice none 0 0, .slice none 0 0, .int .u32 0, .slice none 0 0, .slice none 0 0, .bool false, .int .u32 0, .slice none 0 0]) (fun _ => by kernel_rfl) (fun X6 w16 o16 l16 b16 => ?_)
      go_wp2_with fail
      refine hK.out _ _ ⟨o16.at hHeld.1 (by simp), o16.at hHeld.2 (by simp)⟩ (fun hHeld => ?_)
      clear hK K
      try simp only [Act.put, List.setIfInBounds_toArray, List.set_cons_zero, List.set_cons_succ]
      have s16 : Sep w0 w16 (primR PB TB TM v l sv m (blk KB (kc u d ag sg (.slice (some ⟨Y, 0, none⟩) 1 c) (.slice ao os.length co) 6 (.slice none 0 0)) 176 :: blk X6 [.int .i64 0, .int .i64 0, .slice none 0 0, .slice none 0 0, .int .u32 0, .slice none 0 0, .slice none 0 0, .bool false, .int .u32 0, .slice none 0 0] 88 :: blk X5 [.int .u32 1, .slice p4 32 q4, .slice p3 64 q3] 214 :: row 214 3 (.slice (some ⟨Y, 0, none⟩) 1 c) 1 [.int .u32 1, .slice p4 32 q4, .slice p3 64 q3] :: row 214 3 (.slice ao os.length co) os.length (fl pc os) :: many (os.map paR) :: byR (.slice p4 32 q4) 32 :: byR (.slice p3 64 q3) 64 :: byR sg 32 :: byR ag 32 :: rs)) := (sR.add (b := blk X6 [.int .i64 0, .int .i64 0, .slice none 0 0, .slice none 0 0, .int .u32 0, .slice none 0 0, .slice none 0 0, .bool false, .int .u32 0, .slice none 0 0] 88) o16 b16 (fun k hk => by simp [blk] at hk; omega)).sel 8 [1, 2, 3, 4, 5, 6, 0, 7]
      refine wpAnyU_one (i := 6) (by kernel_rfl) (op_at' rfl) (fun K hK => ?_)
      go_simp
      refine (ident_any PB TB TM KB v l sv m u d ag sg _ _ _ _ _ s16 hI (by omega) (by simp) (by simp)).mono ?_
      rintro e w6 ⟨p1, p2, q1, q2, v6, l6, m6, rfl, a6, b6, c6, d6, s6⟩
      go_wp2_with fail
      refine hK.out _ _ ⟨s6.get 5 rfl, s6.get 9 rfl⟩ (fun hHeld => ?_)
      clear hK K
      try simp only [Act.put, List.setIfInBounds_toArray, List.set_cons_zero, List.set_cons_succ]
      refine wpAnyU_one (i := 12) (by kernel_rfl) (op_at' rfl) (fun K hK => ?_)
      go_simp
      refine (public_any PB TB TM v6 l6 sv m6 (.slice p4 32 q4) 32 _ s6 hI (by omega) (by simp) (by decide)).mono ?_
      rintro e w12 ⟨r5, v12, l12, m12, rfl, a12, b12, c12, d12, s12⟩
      obtain ⟨p5, q5, rfl⟩ := by_slice (s12.get 5 rfl)
      go_wp2_with fail
      refine hK.out _ _ ⟨s12.get 6 rfl, s12.get 10 rfl⟩ (fun hHeld => ?_)
      clear hK K
      try simp only [Act.put, List.setIfInBounds_toArray, List.set_cons_zero, List.set_cons_succ]
      refine' wpAnyU_take (i := 15) (v := _) hZ (op_at' rfl) (by kernel_rfl) (by kernel_rfl) (by kernel_rfl) (by kernel_rfl) (by kernel_rfl) (fun _ _ _ h => h) (Or.inl ⟨by rfl, ?hy18⟩) (by assumption) ?rest18
      case hy18 =>
        intro w' hS
        go_simp
        try with_reducible rfl
      try simp only [Act.put, List.setIfInBounds_toArray, List.set_cons_zero, List.set_cons_succ]
      refine wpAnyU_next (i := 17) (by kernel_rfl) (by simp) (op_at' rfl) (fun K hK => ?_)
      refine step_store_blk (by rfl) 88 _ _ (by rfl) X6 0 (.agg #[.int .i64 u, .int .i64 d, .slice p1 32 q1, .slice p2 32 q2, .int .u32 1, .slice p5 32 q5, .slice p3 64 q3, .bool false, .int .u32 0, .slice none 0 0]) [.int .i64 u, .int .i64 d, .slice p1 32 q1, .slice p2 32 q2, .int .u32 1, .slice p5 32 q5, .slice p3 64 q3, .bool false, .int .u32 0, .slice none 0 0] [.int .i64 0, .int .i64 0, .slice none 0 0, .slice none 0 0, .int .u32 0, .slice none 0 0, .slice none 0 0, .bool false, .int .u32 0, .slice none 0 0] 88 (by rfl) (by rfl) (by rfl) (s12.sel 11 [9, 0, 1, 2, 3, 4, 5, 6, 7, 8, 10]) (by simp) (by kernel_rfl) (by simp [Value.oneCell']) (fun w17 o17 s17 => ?_)
      go_wp2_with fail
      refine hK.out _ _ ?_
      clear hK K
      try simp only [Act.put, List.setIfInBounds_toArray, List.set_cons_zero, List.set_cons_succ]
      refine wpAnyU_done (by kernel_rfl) ?_ _
      go_wp2_with fail
      go_meet
      case rel => exact ⟨X6, p1, p2, p5, q1, q2, q5, v12, l12, m12, rfl, by omega, by omega, by omega, by omega, s17.sel 11 [1, 2, 3, 4, 5, 0, 6, 8, 9, 7]⟩
  case rest =>
  obtain ⟨X6, p1, p2, p5, q1, q2, q5, v2, l2, m2, rfl, n1, n2, n3, n4, s2⟩ := hcut
  clear sR
  obtain ⟨b1, hb1, hu1, hd1, hh1, e1, e2, e3, e4, e5⟩ : ∃ b : Bu, bc b = [.int .i64 u, .int .i64 d, .slice p1 32 q1, .slice p2 32 q2, .int .u32 1, .slice p5 32 q5, .slice p3 64 q3, .bool false, .int .u32 0, .slice none 0 0] ∧ b.u = u ∧ b.d = d ∧ b.has = false ∧ b.s1 = .slice p1 32 q1 ∧ b.s2 = .slice p2 32 q2 ∧ b.s3 = .slice p5 32 q5 ∧ b.s4 = .slice p3 64 q3 ∧ b.s5 = .slice none 0 0 :=
    ⟨⟨u, d, .slice p1 32 q1, .slice p2 32 q2, 1, .slice p5 32 q5, .slice p3 64 q3, false, 0, .slice none 0 0, by simp [Value.oneCell']⟩, rfl, rfl, rfl, rfl, rfl, rfl, rfl, rfl, rfl⟩
  have hX6 : wc.heap[X6]? = some (.cells ([.int .i64 u, .int .i64 d, .slice p1 32 q1, .slice p2 32 q2, .int .u32 1, .slice p5 32 q5, .slice p3 64 q3, .bool false, .int .u32 0, .slice none 0 0] : List Value).toArray 88 (0, 0)) := s2.get 5 rfl
  obtain ⟨c0, c1, c2, c3, c4, c5, c6, c7⟩ := kc_at (show wc.heap[KB]? = _ from s2.get 9 rfl)
  clear c0 c1 c2 c3 c4 c6 c7
  go_upto_region 6 with (refine wpList_load_blk rfl 88 _ rfl X6 rfl ([.int .i64 u, .int .i64 d, .slice p1 32 q1, .slice p2 32 q2, .int .u32 1, .slice p5 32 q5, .slice p3 64 q3, .bool false, .int .u32 0, .slice none 0 0]) _ hX6 Tryz.underlying88 (by rfl) (by kernel_rfl) ?_)
  have hZ := heap_alloc_new wc (.cells ([.int .i64 u, .int .i64 d, .slice p1 32 q1, .slice p2 32 q2, .int .u32 1, .slice p5 32 q5, .slice p3 64 q3, .bool false, .int .u32 0, .slice none 0 0] : List Value).toArray 88)
  have oZ := Only.alloc wc (.cells ([.int .i64 u, .int .i64 d, .slice p1 32 q1, .slice p2 32 q2, .int .u32 1, .slice p5 32 q5, .slice p3 64 q3, .bool false, .int .u32 0, .slice none 0 0] : List Value).toArray 88) []
  have sZ : Sep w0 (wc.alloc (.cells ([.int .i64 u, .int .i64 d, .slice p1 32 q1, .slice p2 32 q2, .int .u32 1, .slice p5 32 q5, .slice p3 64 q3, .bool false, .int .u32 0, .slice none 0 0] : List Value).toArray 88)) (row 88 10 (.slice (some ⟨wc.heap.size, 0, none⟩) 1 1) 1 ([.int .i64 u, .int .i64 d, .slice p1 32 q1, .slice p2 32 q2, .int .u32 1, .slice p5 32 q5, .slice p3 64 q3, .bool false, .int .u32 0, .slice none 0 0]) :: ((primR PB TB TM v2 l2 sv m2 (blk X6 [.int .i64 u, .int .i64 d, .slice p1 32 q1, .slice p2 32 q2, .int .u32 1, .slice p5 32 q5, .slice p3 64 q3, .bool false, .int .u32 0, .slice none 0 0] 88 :: byR (.slice p5 32 q5) 32 :: byR (.slice p1 32 q1) 32 :: byR (.slice p2 32 q2) 32 :: blk KB (kc u d ag sg (.slice (some ⟨Y, 0, none⟩) 1 c) (.slice ao os.length co) 6 (.slice none 0 0)) 176 :: row 214 3 (.slice (some ⟨Y, 0, none⟩) 1 c) 1 [.int .u32 1, .slice p4 32 q4, .slice p3 64 q3] :: row 214 3 (.slice ao os.length co) os.length (fl pc os) :: many (os.map paR) :: byR (.slice p4 32 q4) 32 :: byR (.slice p3 64 q3) 64 :: byR sg 32 :: byR ag 32 :: rs)))) :=
    s2.add oZ (blk_row hZ rfl (by decide)) (fun k hk => by simp [row, Value.ownBlock] at hk; omega)
  have c5 := cell_al c5 (.cells ([.int .i64 u, .int .i64 d, .slice p1 32 q1, .slice p2 32 q2, .int .u32 1, .slice p5 32 q5, .slice p3 64 q3, .bool false, .int .u32 0, .slice none 0 0] : List Value).toArray 88)
  generalize wc.alloc (.cells ([.int .i64 u, .int .i64 d, .slice p1 32 q1, .slice p2 32 q2, .int .u32 1, .slice p5 32 q5, .slice p3 64 q3, .bool false, .int .u32 0, .slice none 0 0] : List Value).toArray 88) = wd at *
  generalize wc.heap.size = Z at *
  have hT0 : ThereB (many [] :: byR (.slice p3 64 q3) 64 :: byR (.slice p5 32 q5) 32 :: byR (.slice p1 32 q1) 32 :: byR (.slice p2 32 q2) 32 :: []) b1 := by
    refine ⟨?_, ?_, ?_, ?_, ?_⟩
    · rw [e1]; exact there_by (n := 32) (by simp) (by decide)
    · rw [e2]; exact there_by (n := 32) (by simp) (by decide)
    · rw [e3]; exact there_by (n := 32) (by simp) (by decide)
    · rw [e4]; exact there_by (n := 64) (by simp) (by decide)
    · rw [e5]; exact there_nil
  clear s2 hX6 hZ oZ
  rw [← hb1] at sZ
  have HB1 := Lib.hid hb1
  clear hb1
  go_wp2_with fail
  go_loopw [7, 42] (fun x y wr => ∃ (k : Nat) (bs : List Bu) (bv : Value) (ks : List Res) (v3 : Value) (l3 : List Tm) (m3 : Int), x = bv ∧ y = .int .i64 k ∧ k ≤ os.length ∧ bs.length = k + 1 ∧ bs.head? = some b1 ∧
    (∀ b ∈ bs, b.u = u ∧ b.d = d ∧ ThereB (many ks :: byR (.slice p3 64 q3) 64 :: byR (.slice p5 32 q5) 32 :: byR (.slice p1 32 q1) 32 :: byR (.slice p2 32 q2) 32 :: []) b) ∧ l2.length ≤ l3.length ∧ l3.length ≤ l2.length + 2 * k ∧ m2 ≤ m3 ∧ m3 ≤ m2 ∧
    Sep w0 wr (primR PB TB TM v3 l3 sv m3 (row 88 10 bv bs.length (fl bc bs) :: many ks :: blk X6 (bc b1) 88 :: byR (.slice p5 32 q5) 32 :: byR (.slice p1 32 q1) 32 :: byR (.slice p2 32 q2) 32 :: blk KB (kc u d ag sg (.slice (some ⟨Y, 0, none⟩) 1 c) (.slice ao os.length co) 6 (.slice none 0 0)) 176 :: row 214 3 (.slice (some ⟨Y, 0, none⟩) 1 c) 1 [.int .u32 1, .slice p4 32 q4, .slice p3 64 q3] :: row 214 3 (.slice ao os.length co) os.length (fl pc os) :: many (os.map paR) :: byR (.slice p4 32 q4) 32 :: byR (.slice p3 64 q3) 64 :: byR sg 32 :: byR ag 32 :: rs))) (fun _ y _ => os.length - (intOf y).toNat)
  case atStart =>
    refine ⟨0, [b1], _, [], v2, l2, m2, rfl, rfl, Nat.zero_le _, rfl, rfl, ?_, Nat.le_refl _, Nat.le_refl _, Int.le_refl _, Int.le_refl _, ?_⟩
    · intro b hb
      obtain rfl : b = b1 := by simpa using hb
      exact ⟨hu1, hd1, hT0⟩
    · have q := (sZ.many_nil).sel 7 [2, 3, 4, 5, 6, 1, 0]
      have hf : fl bc [b1] = bc b1 := by rw [fl_cons, fl_nil, List.append_nil]
      rw [hf]
      exact q
  case round =>
    obtain ⟨k, bs, bv, ks, v3, l3, m3, rfl, rfl, hk, hbl, hhd, hall, t1, t2, t3, t4, s3⟩ := hrel
    clear sZ
    have hbn : bs.length ≤ 5 := by have := HO4.out; omega
    have HBL := Lib.hid hbl
    clear hbl
    obtain ⟨ab, cb, rfl⟩ := own_slice (show wr.ownsRow 0 88 10 _ bs.length (fl bc bs) from s3.get 5 rfl)
    by_cases hkl : k < os.length
    · have e1 : decide ((k : Int) < os.length) = true := by simpa using hkl
      have e9 : (k : Int) < os.length := by omega
      have hk4 : k < 4 := by have := HO4.out; omega
      have hrow := (show wr.ownsRow 0 214 3 (.slice ao os.length co) os.length (fl pc os) from s3.get 13 rfl)
      obtain ⟨go, rfl, _⟩ := own_some hrow (by omega)
      have hrng : wr.rangeAt go (k * 3) (pc os[k]) := rec_range pc_len hrow hkl
      have hmem : paR os[k] ∈ os.map paR := List.mem_map.2 ⟨os[k], List.getElem_mem hkl, rfl⟩
      have hX6 : wr.heap[X6]? = some (.cells (bc b1).toArray 88 (0, 0)) := s3.get 7 rfl
      have hlo := os[k].lo
      generalize os[k] = o at *
      clear hrow
      go_upto_region 10 with (first
        | (refine wpList_alloc_new rfl 214 rfl (.agg #[.int .u32 0, .slice none 0 0, .slice none 0 0]) (fun _ => by kernel_rfl) ?_; intro X9 w9 o9 l9 b9)
        | (refine wpList_load_mid rfl 214 _ rfl go (k * 3) rfl (pc o) _ hrng Tryz.underlying214 (by rfl) (by kernel_rfl) ?_)
        | (refine wpList_store_blk rfl 214 _ _ rfl X9 (pc o) rfl rfl b9 rfl (by kernel_rfl) (pc_arr _) ?_; intro wA oA bA; have oN : Only wr wA [] := o9.new oA (fun k hk => by simp only [List.mem_singleton] at hk; omega); have hX6 := oN.at hX6 (by simp))
        | (refine wpList_load_blk rfl 88 _ rfl X6 rfl (bc b1) _ hX6 Tryz.underlying88 (by rfl) (by kernel_rfl) ?_)
        | (refine wpList_alloc_new rfl 88 rfl (.agg (bc b0).toArray) (fun _ => by kernel_rfl) ?_; intro X10 w10 o10 l10 b10)
        | (refine wpList_store_blk rfl 88 _ _ rfl X10 (bc b1) rfl rfl b10 rfl (by kernel_rfl) (bc_arr _) ?_; intro wB oB bB))
      have oM : Only wA wB [] := o10.new oB (fun k hk => by simp only [List.mem_singleton] at hk; omega)
      have sR : Sep w0 wB.drew (primR PB TB TM v3 l3 sv m3 (blk X9 (pc o) 214 :: blk X10 (bc b1) 88 :: row 88 10 (.slice ab bs.length cb) bs.length (fl bc bs) :: many ks :: blk X6 (bc b1) 88 :: byR (.slice p5 32 q5) 32 :: byR (.slice p1 32 q1) 32 :: byR (.slice p2 32 q2) 32 :: blk KB (kc u d ag sg (.slice (some ⟨Y, 0, none⟩) 1 c) (.slice (some ⟨go, 0, none⟩) os.length co) 6 (.slice none 0 0)) 176 :: row 214 3 (.slice (some ⟨Y, 0, none⟩) 1 c) 1 [.int .u32 1, .slice p4 32 q4, .slice p3 64 q3] :: row 214 3 (.slice (some ⟨go, 0, none⟩) os.length co) os.length (fl pc os) :: many (os.map paR) :: byR (.slice p4 32 q4) 32 :: byR (.slice p3 64 q3) 64 :: byR sg 32 :: byR ag 32 :: rs)) := (((s3.add (b := blk X9 (pc o) 214) oN bA (fun k hk => by simp [blk] at hk; omega)).add (b := blk X10 (bc b1) 88) oM bB (fun k hk => by simp [blk] at hk; omega)).sel 8 [2, 3, 4, 5, 6, 1, 0, 7]).quiet (Only.drew wB [])
      clear s3 oM oN bA bB b9 b10 o9 o10 oA oB hrng hX6
      refine wp_region_u (S := fun w' => w'.heap[X9]? = some (.cells (pc o).toArray 214 (0, 0))) 12 [] (by kernel_rfl) (by kernel_rfl) (sR.get 5 rfl) (fun hZ hHeld => ?_)
      refine' wpAnyU_take (i := 0) (v := _) hZ (op_at' rfl) (by kernel_rfl) (by kernel_rfl) (by kernel_rfl) (by kernel_rfl) (by kernel_rfl) (fun _ _ _ h => h) (Or.inl ⟨by rfl, ?hy19⟩) (by assumption) ?rest19
      case hy19 =>
        intro w' hS
        go_simp
        try with_reducible rfl
      try simp only [Act.put, List.setIfInBounds_toArray, List.set_cons_zero, List.set_cons_succ]
      refine' wpAnyU_take (i := 1) (v := _) hZ (op_at' rfl) (by kernel_rfl) (by kernel_rfl) (by kernel_rfl) (by kernel_rfl) (by kernel_rfl) (fun _ _ _ h => h) (Or.inl ⟨by rfl, ?hy20⟩) (by assumption) ?rest20
      case hy20 =>
        intro w' hS
        have x0 : w'.cell? ⟨X9, 0, none⟩ = some (.int .u32 o.n) := cell_in hS 0
        have x1 : w'.cell? ⟨X9, 1, none⟩ = some o.s := cell_in hS 1
        go_simp
        try with_reducible rfl
      try simp only [Act.put, List.setIfInBounds_toArray, List.set_cons_zero, List.set_cons_succ]
      refine' wpAnyU_take (i := 2) (v := _) hZ (op_at' rfl) (by kernel_rfl) (by kernel_rfl) (by kernel_rfl) (by kernel_rfl) (by kernel_rfl) (fun _ _ _ h => h) (Or.inl ⟨by rfl, ?hy21⟩) (by assumption) ?rest21
      case hy21 =>
        intro w' hS
        go_simp
        try with_reducible rfl
      try simp only [Act.put, List.setIfInBounds_toArray, List.set_cons_zero, List.set_cons_succ]
      refine' wpAnyU_take (i := 3) (v := _) hZ (op_at' rfl) (by kernel_rfl) (by kernel_rfl) (by kernel_rfl) (by kernel_rfl) (by kernel_rfl) (fun _ _ _ h => h) (Or.inl ⟨by rfl, ?hy22⟩) (by assumption) ?rest22
      case hy22 =>
        intro w' hS
        go_simp
        try with_reducible rfl
      try simp only [Act.put, List.setIfInBounds_toArray, List.set_cons_zero, List.set_cons_succ]
      refine' wpAnyU_take (i := 4) (v := _) hZ (op_at' rfl) (by kernel_rfl) (by kernel_rfl) (by kernel_rfl) (by kernel_rfl) (by kernel_rfl) (fun _ _ _ h => h) (Or.inl ⟨by rfl, ?hy23⟩) (by assumption) ?rest23
      case hy23 =>
        intro w' hS
        have x0 : w'.cell? ⟨X9, 0, none⟩ = some (.int .u32 o.n) := cell_in hS 0
        have x1 : w'.cell? ⟨X9, 1, none⟩ = some o.s := cell_in hS 1
        go_simp
        try with_reducible rfl
      try simp only [Act.put, List.setIfInBounds_toArray, List.set_cons_zero, List.set_cons_succ]
      refine' wpAnyU_take (i := 6) (v := _) hZ (op_at' rfl) (by kernel_rfl) (by kernel_rfl) (by kernel_rfl) (by kernel_rfl) (by kernel_rfl) (fun _ _ _ h => h) (Or.inl ⟨by rfl, ?hy24⟩) (by assumption) ?rest24
      case hy24 =>
        intro w' hS
        go_simp
        try with_reducible rfl
      try simp only [Act.put, List.setIfInBounds_toArray, List.set_cons_zero, List.set_cons_succ]
      refine wpAnyU_one (i := 5) (by kernel_rfl) (op_at' rfl) (fun K hK => ?_)
      go_simp
      refine (public_held PB TB TM v3 l3 sv m3 o.s 32 _ sR hI (by omega) (fun w' hr => many_ok (hr (many (os.map paR)) (by simp)) hmem) (by decide)).mono ?_
      rintro e w5 ⟨r7, v5, l5, m5, rfl, i5, j5, g5, h5, s5⟩
      obtain ⟨p7, q7, rfl⟩ := by_slice (s5.get 5 rfl)
      go_wp2_with fail
      refine hK.out _ _ (s5.get 6 rfl) (fun hHeld => ?_)
      clear hK K
      try simp only [Act.put, List.setIfInBounds_toArray, List.set_cons_zero, List.set_cons_succ]
      refine wpAnyU_one (i := 7) (by kernel_rfl) (op_at' rfl) (fun K hK => ?_)
      refine step_store_blk (by rfl) 4 _ _ (by rfl) X10 7 (.bool true) [.bool true] _ 88 (by rfl) (by rfl) (by rfl) (s5.sel 8 [7, 0, 1, 2, 3, 4, 5, 6]) (by simp [setL_length, bc_len]) (by kernel_rfl) (by simp [Value.oneCell']) (fun w7 o7 s7 => ?_)
      go_wp2_with fail
      refine hK.out _ _ (s7.get 7 rfl) (fun hHeld => ?_)
      clear hK K
      try simp only [Act.put, List.setIfInBounds_toArray, List.set_cons_zero, List.set_cons_succ]
      refine' wpAnyU_take (i := 8) (v := _) hZ (op_at' rfl) (by kernel_rfl) (by kernel_rfl) (by kernel_rfl) (by kernel_rfl) (by kernel_rfl) (fun _ _ _ h => h) (Or.inl ⟨by rfl, ?hy25⟩) (by assumption) ?rest25
      case hy25 =>
        intro w' hS
        go_simp
        try with_reducible rfl
      try simp only [Act.put, List.setIfInBounds_toArray, List.set_cons_zero, List.set_cons_succ]
      refine wpAnyU_one (i := 9) (by kernel_rfl) (op_at' rfl) (fun K hK => ?_)
      refine step_store_blk (by rfl) 50 _ _ (by rfl) X10 8 (.int .u32 o.n) [.int .u32 o.n] _ 88 (by rfl) (by rfl) (by rfl) s7 (by simp [setL_length, bc_len]) (by kernel_rfl) (by simp [Value.oneCell']) (fun w9 o9 s9 => ?_)
      go_wp2_with fail
      refine hK.out _ _ (s9.get 7 rfl) (fun hHeld => ?_)
      clear hK K
      try simp only [Act.put, List.setIfInBounds_toArray, List.set_cons_zero, List.set_cons_succ]
      refine' wpAnyU_take (i := 10) (v := _) hZ (op_at' rfl) (by kernel_rfl) (by kernel_rfl) (by kernel_rfl) (by kernel_rfl) (by kernel_rfl) (fun _ _ _ h => h) (Or.inl ⟨by rfl, ?hy26⟩) (by assumption) ?rest26
      case hy26 =>
        intro w' hS
        go_simp
        try with_reducible rfl
      try simp only [Act.put, List.setIfInBounds_toArray, List.set_cons_zero, List.set_cons_succ]
      refine wpAnyU_one (i := 11) (by kernel_rfl) (op_at' rfl) (fun K hK => ?_)
      refine step_store_blk (by rfl) 22 _ _ (by rfl) X10 9 (.slice p7 32 q7) [.slice p7 32 q7] _ 88 (by rfl) (by rfl) (by rfl) s9 (by simp [setL_length, bc_len]) (by kernel_rfl) (by simp [Value.oneCell']) (fun w11 o11 s11 => ?_)
      go_wp2_with fail
      refine hK.out _ _ (s11.get 7 rfl) (fun hHeld => ?_)
      clear hK K
      try simp only [Act.put, List.setIfInBounds_toArray, List.set_cons_zero, List.set_cons_succ]
      refine wpAnyU_done (by kernel_rfl) ?_ _
      obtain ⟨bk, hbk, k1, k2, k3, k4, k5, k6, k7⟩ : ∃ b : Bu, bc b = setL (setL (setL (bc b1) 7 [.bool true]) 8 [.int .u32 o.n]) 9 [.slice p7 32 q7] ∧ b.u = b1.u ∧ b.d = b1.d ∧ b.s1 = b1.s1 ∧ b.s2 = b1.s2 ∧ b.s3 = b1.s3 ∧ b.s4 = b1.s4 ∧ b.s5 = .slice p7 32 q7 :=
        ⟨⟨b1.u, b1.d, b1.s1, b1.s2, b1.sg, b1.s3, b1.s4, true, o.n, .slice p7 32 q7, ⟨b1.ok.1, b1.ok.2.1, b1.ok.2.2.1, b1.ok.2.2.2.1, by simp [Value.oneCell']⟩⟩, rfl, rfl, rfl, rfl, rfl, rfl, rfl, rfl⟩
      have sD : Sep w0 w11 (row 88 10 (.slice ab bs.length cb) bs.length (fl bc bs) :: (primR PB TB TM v5 l5 sv m5 (many ks :: byR (.slice p7 32 q7) 32 :: blk X6 (bc b1) 88 :: byR (.slice p5 32 q5) 32 :: byR (.slice p1 32 q1) 32 :: byR (.slice p2 32 q2) 32 :: blk KB (kc u d ag sg (.slice (some ⟨Y, 0, none⟩) 1 c) (.slice (some ⟨go, 0, none⟩) os.length co) 6 (.slice none 0 0)) 176 :: row 214 3 (.slice (some ⟨Y, 0, none⟩) 1 c) 1 [.int .u32 1, .slice p4 32 q4, .slice p3 64 q3] :: row 214 3 (.slice (some ⟨go, 0, none⟩) os.length co) os.length (fl pc os) :: many (os.map paR) :: byR (.slice p4 32 q4) 32 :: byR (.slice p3 64 q3) 64 :: byR sg 32 :: byR ag 32 :: rs))) := s11.sel 10 [8, 1, 2, 3, 4, 5, 9, 6]
      have hX10 : w11.heap[X10]? = some (.cells (bc bk).toArray 88 (0, 0)) := by rw [hbk]; exact s11.get 0 rfl
      clear s11 s9 s7 s5 sR hHeld
      have HBK := Lib.hid hbk
      clear hbk
      go_wp2_with (first
        | (refine wpList_load_blk rfl 88 _ rfl X10 rfl (bc bk) _ hX10 Tryz.underlying88 (by rfl) (by kernel_rfl) ?_)
        | (refine wpList_buildSlice_one rfl 69 _ rfl 88 i0 _ (bc bk) rfl Tryz.underlying69 hi hz0 (by rw [hz1, bc_len]) (by rw [bc_len]; rfl) (by rw [bc_len]; decide) (by rw [bc_len]; decide) ?_; intro Z2 wZ oZ lZ bZ)
        | (at_builtin; refine wpList_append_sep rfl _ _ 69 rfl 88 i0 _ 10 152 Tryz.underlying69 hi hz0 hz1 hz2 rfl (by decide) (.slice ab bs.length cb) bs.length _ rfl (sD.quiet oZ) _ 1 (bc bk) rfl (src_blk bZ (bc_len bk)) (bc_one _) (by unfold maxLen; omega) (by omega) ?_; intro a8 c8 w8 o8 s8))
      have sF := ((s8.sel 8 [6, 7, 0, 1, 2, 3, 4, 5]).many_snoc).sel 7 [2, 3, 4, 5, 6, 1, 0]
      refine ⟨⟨k + 1, bs ++ [bk], .slice a8 (bs.length + 1) c8, ks ++ [byR (.slice p7 32 q7) 32], v5, l5, m5, rfl, by simp, by omega, by simp [HBL.out], by rw [List.head?_append, hhd]; rfl, ?_, by omega, by omega, by omega, by omega, ?_⟩, by simp [intOf]; omega⟩
      · have hsub : ∀ w', (∀ r ∈ (many (ks ++ [byR (.slice p7 32 q7) 32]) :: byR (.slice p3 64 q3) 64 :: byR (.slice p5 32 q5) 32 :: byR (.slice p1 32 q1) 32 :: byR (.slice p2 32 q2) 32 :: []), r.ok w') → ∀ r ∈ (many ks :: byR (.slice p3 64 q3) 64 :: byR (.slice p5 32 q5) 32 :: byR (.slice p1 32 q1) 32 :: byR (.slice p2 32 q2) 32 :: []), r.ok w' := fun w' hr r hm => by
          rcases List.mem_cons.1 hm with rfl | hm
          · exact many_sub (hr (many (ks ++ [byR (.slice p7 32 q7) 32])) (by simp)) (List.sublist_append_left _ _)
          · exact hr r (List.mem_cons_of_mem _ hm)
        have hb1 : b1 ∈ bs := List.mem_of_mem_head? (by rw [hhd]; rfl)
        obtain ⟨y1, y2, y3⟩ := hall b1 hb1
        intro b hb
        rcases List.mem_append.1 hb with hb | hb
        · obtain ⟨x1, x2, x3⟩ := hall b hb
          exact ⟨x1, x2, x3.imp hsub⟩
        · obtain rfl : b = bk := by simpa using hb
          refine ⟨by rw [k1]; exact y1, by rw [k2]; exact y2, by rw [k3]; exact y3.1.imp hsub, by rw [k4]; exact y3.2.1.imp hsub, by rw [k5]; exact y3.2.2.1.imp hsub, by rw [k6]; exact y3.2.2.2.1.imp hsub, ?_⟩
          rw [k7]
          intro w' hr
          have hm := many_ok (show (many (ks ++ [byR (.slice p7 32 q7) 32])).ok w' from hr _ (by simp)) (show byR (.slice p7 32 q7) 32 ∈ ks ++ [byR (.slice p7 32 q7) 32] by simp)
          obtain ⟨xs, x1, x2, x3⟩ := by_src hm
          exact ⟨xs, by omega, x2, x3⟩
      · rw [fl_snoc, List.length_append, List.length_singleton]
        exact sF
    · obtain rfl : k = os.length := by omega
      have e1 : decide ((os.length : Int) < os.length) = false := by simp
      go_wp2_with fail
      go_ret
      refine ⟨[many ks, byR (.slice p5 32 q5) 32, byR (.slice p1 32 q1) 32, byR (.slice p2 32 q2) 32], .slice ab bs.length cb, bs, v3, l3, m3, rfl, by rw [HBL.out, HO4.out], fun b hb => ⟨(hall b hb).1, (hall b hb).2.1, (hall b hb).2.2.imp (fun w' hr r hm => ?_)⟩, ?_, by omega, by have := HO4.out; omega, by omega, by omega, ?_⟩
      · rcases List.mem_cons.1 hm with rfl | hm
        · exact many_ok (hr (many [many ks, byR (.slice p5 32 q5) 32, byR (.slice p1 32 q1) 32, byR (.slice p2 32 q2) 32]) (by simp)) (by simp)
        · rcases List.mem_cons.1 hm with rfl | hm
          · exact hr _ (by simp)
          · exact many_ok (hr (many [many ks, byR (.slice p5 32 q5) 32, byR (.slice p1 32 q1) 32, byR (.slice p2 32 q2) 32]) (by simp)) (List.mem_cons_of_mem _ hm)
      · rw [List.any_eq_true]
        exact ⟨b1, List.mem_of_mem_head? (by rw [hhd]; rfl), by simp [hh1]⟩
      · have sG := Sep.gather (L := [many ks, byR (.slice p5 32 q5) 32, byR (.slice p1 32 q1) 32, byR (.slice p2 32 q2) 32]) (s3.sel 19 [6, 8, 9, 10, 0, 1, 2, 3, 4, 11, 12, 13, 14, 15, 16, 17, 18, 5])
        exact sG.sel 15 [1, 2, 3, 4, 5, 6, 7, 8, 9, 10, 11, 12, 13, 14, 0]
end Go.Proofs.YtmmhbehlpppdiaaGreatDoor.Wl
