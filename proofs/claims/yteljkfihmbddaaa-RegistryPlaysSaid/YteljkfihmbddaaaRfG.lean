/- The reference's Publish where nothing is refused (layer 17). Printed by gen_rfg.py (with rfg.txt). -/
import Derived.Test.YteljkfihmbddaaaRf9
import Derived.Test.YteljkfihmbddaaaRoP
set_option linter.unusedSimpArgs false
set_option linter.unusedVariables false
namespace Go.Proofs.Yteljkfihmbddaaa
open Go.RowKit Go.Pw
set_option linter.unusedVariables false

theorem cells_one {v : Value} (h : v.oneCell' = true) : v.cells = #[v] := by
  cases v <;> simp_all [Value.oneCell', Value.cells]
theorem pubS_unlike (s : Bu × List Bu) (b : Bu) (h : (s.2.map (·.on)).Nodup) : ((pubS s b).2.map (·.on)).Nodup := by
  unfold pubS
  split
  · split
    · exact h
    · exact h
  · split
    · rename_i h1
      have h2 := of_decide_eq_true (List.findIdx_getElem (w := h1))
      rw [List.map_set]
      have h3 : (s.2.map (·.on)).set (s.2.findIdx fun x => x.on == b.on) b.on = s.2.map (·.on) := by
        refine List.ext_getElem? fun i => ?_
        rw [List.getElem?_set]
        split
        · rename_i h4
          subst h4
          rw [if_pos (by simpa using h1), List.getElem?_map, List.getElem?_eq_getElem h1]
          simp at h2 ⊢
          exact h2.symm
        · rfl
      show (List.set _ _ b.on).Nodup
      rw [h3]
      exact h
    · rename_i h1
      split
      · rw [List.map_append, List.nodup_append]
        refine ⟨h, by simp, fun a ha c hc => ?_⟩
        obtain ⟨y, hy, rfl⟩ := List.mem_map.1 ha
        simp at hc
        subst hc
        intro e
        exact h1 (List.findIdx_lt_length_of_exists ⟨y, hy, by simpa using e⟩)
      · exact h
theorem unlike_at {os : List Bu} (h : (os.map (·.on)).Nodup) {m : Nat} (hm : m < os.length) {o : Int} (e : os[m].on = o) : os.findIdx (fun y => y.on == o) = m := by
  rw [List.findIdx_eq hm]
  refine ⟨by simpa using e, fun i hi => ?_⟩
  have h1 := List.pairwise_iff_getElem.1 h i m (by simp; omega) (by simpa using hm) hi
  simp at h1 ⊢
  rw [← e]
  exact h1
theorem unlike_not {os : List Bu} {m : Nat} (hm : m < os.length) {o : Int} (e : ¬ os[m].on = o) : os.findIdx (fun y => y.on == o) ≠ m := by
  intro h
  have h1 := List.findIdx_getElem (xs := os) (p := fun y => y.on == o) (w := by rw [h]; exact hm)
  simp only [h] at h1
  exact e (by simpa using h1)

/-- What the reference's Publish leaves: x is the device's line, bs the bundles. -/
def RPubd (w0 : World) (rs : List Res) (S : Nat) (v : Value) (ms : List Rl) (k : Nat) (x : Rl) (vb : Value) (bs : List Bu) (e : Ending) (w' : World) : Prop :=
  e = .returned (.int .i64 0) ∧ ∃ x' : Rl, x'.u = x.u ∧ x'.d = x.d ∧ x'.on = true ∧ (x'.b, x'.os) = bs.foldl pubS (x.b, x.os) ∧ x'.os.length ≤ 16 ∧ (x'.os.map (·.on)).Nodup ∧ Pw.Sep w0 w' (refR S v (ms.set k x') (row 40 10 vb bs.length (fl bc bs) :: rs))

set_option maxRecDepth 100000 in
set_option maxHeartbeats 1600000 in
theorem rpub_ok {w0 : World} {rs : List Res} (S : Nat) (ms : List Rl) (v : Value) (u d : Int) (vb : Value) (bs : List Bu) (k : Nat) (x : Rl) (w : World) (h : Pw.Sep w0 w (refR S v ms (row 40 10 vb bs.length (fl bc bs) :: rs))) (hl : ms.length ≤ 1000) (hbl : bs.length ≤ 1000) (hI : ris ms u d = true) (hp : rfp ms u d = k) (hk : k < ms.length) (hx : ms[k] = x) (hos : x.os.length ≤ 16) (hnd : (x.os.map (·.on)).Nodup) (hall : ∀ b ∈ bs, b.u = u ∧ b.d = d) :
    Calls Try.prog 20 #[.pointer (some ⟨S, 0, none⟩), wv u d, vb] w (RPubd w0 rs S v ms k x vb bs) := by
  obtain ⟨i0, hi0, hz0, hz1, hz2⟩ := info_parts bun_info
  have hon : x.on = true := by
    obtain ⟨hk', h1, _⟩ := ris_at hI
    subst hp
    rw [← hx]
    exact h1
  obtain ⟨ao, c, rfl⟩ := own_slice (show w.ownsRow 0 _ 18 v ms.length (fl rlc ms) from h.head)
  obtain ⟨mg, rfl, _⟩ := own_some (show w.ownsRow 0 _ 18 (.slice ao ms.length c) ms.length (fl rlc ms) from h.head) (by omega)
  have hvb : w.ownsRow 0 40 10 vb bs.length (fl bc bs) := (h.sel 4 [3]).head
  obtain ⟨ab, cb, rfl⟩ := own_slice hvb
  have HS := fun (hp : 0 < bs.length) => src_rec bc_len (by decide) (own_src hvb) hp
  clear hvb
  have HI := fun (w' : World) (o : Only w w' []) => ris_any S ms _ u d w' (h.quiet o) (by omega)
  have HF := fun (w' : World) (o : Only w w' []) => rfind_any S ms _ u d w' (h.quiet o) (by omega)
  rw [hI] at HI
  have hfi : rfi ms u d = (k : Int) := by unfold rfi; rw [hp, if_pos hk]
  rw [hfi] at HF
  clear hI hp hfi
  have hset0 : ms.set k x = ms := by rw [← hx]; exact List.set_getElem_self hk
  have hx := Lib.hid hx
  have hall := Lib.hid hall
  simp only [wv] at *
  go_enter Try.func20, Try.ntmps20
  go_wp2_with (refine wpList_box_new rfl 30 _ rfl (.agg #[.int .i64 u, .int .i64 d]) rfl ?_; intro Z wZ oZ hZl hZ; have z0 := cell_two0 hZ; have z1 := cell_two1 hZ)
  refine (HI _ oZ).mono ?_
  rintro e w1 ⟨rfl, o1⟩
  clear HI z0 z1
  go_wp2_with fail
  go_loopw [7] (fun y wr => ∃ i : Nat, y = .int .i64 i ∧ i ≤ bs.length ∧ Only w1 wr []) (fun y _ => bs.length - (intOf y).toNat)
  case atStart => exact ⟨0, rfl, Nat.zero_le _, Only.refl _ _⟩
  case round =>
    obtain ⟨i, rfl, hi, oR⟩ := hrel
    by_cases hil : i < bs.length
    · have d1 : decide ((i : Int) < bs.length) = true := by simpa using hil
      obtain ⟨gb, ob, rfl, HR0⟩ := HS (by omega)
      have HR : Hid (∀ w', Only w w' [] → w'.rangeAt gb (ob + i * 10) (bc bs[i])) := fun w' o => HR0 w' o i hil
      have oW := ((oZ.trans o1).trans oR).trans (Only.drew wr [])
      have HO := Lib.hid (hall.out bs[i] (List.getElem_mem hil))
      clear HS HR0 h HF hset0
      go_upto_region 6 with fail
      refine wp_region_held_drew (S := fun w' => Only wr.drew w' []) (by kernel_rfl) (Only.refl _ _) (fun hHeld => ?_)
      refine' wpAnyH_take (i := 0) (v := _) (op_at rfl) (by kernel_rfl) (by kernel_rfl) (by kernel_rfl) (fun _ _ _ h => h) (Or.inl ⟨by rfl, ?hy1⟩) (by assumption) ?rest1
      case hy1 =>
        intro w' hS
        go_simp
        try with_reducible rfl
      try simp only [Act.put, List.setIfInBounds_toArray, List.set_cons_zero, List.set_cons_succ]
      refine' wpAnyH_take (i := 1) (v := _) (op_at rfl) (by kernel_rfl) (by kernel_rfl) (by kernel_rfl) (fun _ _ _ h => h) (Or.inl ⟨by rfl, ?hy2⟩) (by assumption) ?rest2
      case hy2 =>
        intro w' hS
        go_simp
        try with_reducible rfl
      try simp only [Act.put, List.setIfInBounds_toArray, List.set_cons_zero, List.set_cons_succ]
      refine' wpAnyH_take (i := 2) (v := _) (op_at rfl) (by kernel_rfl) (by kernel_rfl) (by kernel_rfl) (fun _ _ _ h => h) (Or.inl ⟨by rfl, ?hy3⟩) (by assumption) ?rest3
      case hy3 =>
        intro w' hS
        go_simp
        try with_reducible rfl
      try simp only [Act.put, List.setIfInBounds_toArray, List.set_cons_zero, List.set_cons_succ]
      refine' wpAnyH_take (i := 3) (v := _) (op_at rfl) (by kernel_rfl) (by kernel_rfl) (by kernel_rfl) (fun _ _ _ h => h) (Or.inl ⟨by rfl, ?hy4⟩) (by assumption) ?rest4
      case hy4 =>
        intro w' hS
        go_simp
        try with_reducible rfl
      try simp only [Act.put, List.setIfInBounds_toArray, List.set_cons_zero, List.set_cons_succ]
      refine' wpAnyH_take (i := 4) (v := _) (op_at rfl) (by kernel_rfl) (by kernel_rfl) (by kernel_rfl) (fun _ _ _ h => h) (Or.inl ⟨by rfl, ?hy5⟩) (by assumption) ?rest5
      case hy5 =>
        intro w' hS
        have hr_ := HR.out w' (oW.trans hS)
        have b0_ : w'.cell? ⟨gb, ob + i * 10, none⟩ = some (.int .i64 bs[i].u) := hr_ 0 _ rfl
        have b1_ : w'.cell? ⟨gb, ob + i * 10 + 1, none⟩ = some (.int .i64 bs[i].d) := hr_ 1 _ rfl
        rw [HO.out.1] at b0_
        rw [HO.out.2] at b1_
        go_simp
        try with_reducible rfl
      try simp only [Act.put, List.setIfInBounds_toArray, List.set_cons_zero, List.set_cons_succ]
      refine' wpAnyH_take (i := 5) (v := _) (op_at rfl) (by kernel_rfl) (by kernel_rfl) (by kernel_rfl) (fun _ _ _ h => h) (Or.inl ⟨by rfl, ?hy6⟩) (by assumption) ?rest6
      case hy6 =>
        intro w' hS
        have hz_ := (((o1.trans oR).trans (Only.drew wr [])).trans hS).at hZ (by simp)
        have z0 := cell_two0 hz_
        have z1 := cell_two1 hz_
        go_simp
        try with_reducible rfl
      try simp only [Act.put, List.setIfInBounds_toArray, List.set_cons_zero, List.set_cons_succ]
      refine' wpAnyH_take (i := 6) (v := _) (op_at rfl) (by kernel_rfl) (by kernel_rfl) (by kernel_rfl) (fun _ _ _ h => h) (Or.inl ⟨by rfl, ?hy7⟩) (by assumption) ?rest7
      case hy7 =>
        intro w' hS
        go_simp
        try with_reducible rfl
      try simp only [Act.put, List.setIfInBounds_toArray, List.set_cons_zero, List.set_cons_succ]
      refine wpAnyH_done (by kernel_rfl) ?_ _
      go_wp2_with fail
      exact ⟨⟨i + 1, by simp, by omega, oR.trans (Only.drew wr [])⟩, by simp [intOf]; omega⟩
    · obtain rfl : i = bs.length := by omega
      have d1 : decide ((bs.length : Int) < bs.length) = false := by simp
      have hz_ := (o1.trans oR).at hZ (by simp)
      have z0 := cell_two0 hz_
      have z1 := cell_two1 hz_
      have oF := (oZ.trans o1).trans oR
      clear hz_ HS hil hi
      go_wp2_with fail
      refine (HF _ oF).mono ?_
      rintro e w2 ⟨rfl, o2⟩
      have s2 : Pw.Sep w0 w2 (row 85 18 (.slice (some ⟨mg, 0, none⟩) ms.length c) ms.length (fl rlc ms) :: blk S [.slice (some ⟨mg, 0, none⟩) ms.length c, .slice none 0 0] 53 :: many (ms.map oo) :: row 40 10 (.slice ab bs.length cb) bs.length (fl bc bs) :: rs) := h.quiet (oF.trans o2)
      clear HF z0 z1 h oZ o1 o2 hZ oF oR hall d1 hZl
      have hkz : (0 : Int) ≤ (k : Int) ∧ (k : Int) < ms.length := by omega
      go_wp2_with fail
      go_loopw [9, 10, 11] (fun y _ _ wr => ∃ (j : Nat) (xc : Rl), y = .int .i64 j ∧ j ≤ bs.length ∧ xc.u = x.u ∧ xc.d = x.d ∧ xc.on = true ∧ (xc.b, xc.os) = (bs.take j).foldl pubS (x.b, x.os) ∧ xc.os.length ≤ 16 ∧ (xc.os.map (·.on)).Nodup ∧ Pw.Sep w0 wr (row 85 18 (.slice (some ⟨mg, 0, none⟩) ms.length c) ms.length (fl rlc (ms.set k xc)) :: blk S [.slice (some ⟨mg, 0, none⟩) ms.length c, .slice none 0 0] 53 :: many ((ms.set k xc).map oo) :: row 40 10 (.slice ab bs.length cb) bs.length (fl bc bs) :: rs)) (fun y _ _ _ => bs.length - (intOf y).toNat)
      case atStart => exact ⟨0, x, rfl, Nat.zero_le _, rfl, rfl, hon, rfl, hos, hnd, by rw [hset0]; exact s2⟩
      case round =>
        clear s2 hset0 hx hos hnd hon
        obtain ⟨j, xc, rfl, hj, hxu, hxd, hxon, hfold, hxos, hxn, hs⟩ := hrel
        by_cases hjl : j < bs.length
        · have d1 : decide ((j : Int) < bs.length) = true := by simpa using hjl
          have hbr : wr.ownsRow 0 40 10 (.slice ab bs.length cb) bs.length (fl bc bs) := (hs.sel 4 [3]).head
          obtain ⟨gb, rfl, _⟩ := own_some hbr (by omega)
          have hfold' : (bs.take (j + 1)).foldl pubS (x.b, x.os) = pubS (xc.b, xc.os) bs[j] := by
            rw [List.take_succ_eq_append_getElem hjl, foldl_snoc, ← hfold]
          have hun := pubS_unlike (xc.b, xc.os) bs[j] hxn
          have hll' : (ms.set k xc).length = ms.length := List.length_set ..
          have hkl' : k < (ms.set k xc).length := by omega
          have hxk : (ms.set k xc)[k] = xc := List.getElem_set_self ..
          have hpk : ((ms.set k xc).map oo)[k]? = some (oo xc) := by rw [List.getElem?_map, List.getElem?_eq_getElem hkl', hxk]; rfl
          have hrow : ∀ w' : World, w'.ownsRow 0 85 18 (.slice (some ⟨mg, 0, none⟩) ms.length c) ms.length (fl rlc (ms.set k xc)) → w'.cell? ⟨mg, k * 18 + 7, none⟩ = some (.int .u32 xc.b.sg) ∧ w'.cell? ⟨mg, k * 18 + 13, none⟩ = some xc.v := fun w' h' => by
            rw [← hll'] at h'
            exact ⟨rec_cell rlc_len h' hkl' 7 (by rw [hxk]; rfl), rec_cell rlc_len h' hkl' 13 (by rw [hxk]; rfl)⟩
          have hrng : ∀ w' : World, w'.ownsRow 0 40 10 (.slice (some ⟨gb, 0, none⟩) bs.length cb) bs.length (fl bc bs) → w'.rangeAt gb (j * 10) (bc bs[j]) := fun w' h' => rec_range bc_len h' hjl
          clear hbr
          generalize hbj : bs[j] = b at *
          clear hbj
          have HQ : Hid (∀ w', Only wr w' [] → w'.cell? ⟨gb, j * 10 + 4, none⟩ = some (.int .u32 b.sg) ∧ w'.cell? ⟨gb, j * 10 + 7, none⟩ = some (.bool b.has) ∧ w'.cell? ⟨gb, j * 10 + 8, none⟩ = some (.int .u32 b.on) ∧ w'.cell? ⟨S, 0, none⟩ = some (.slice (some ⟨mg, 0, none⟩) ms.length c) ∧ w'.cell? ⟨mg, k * 18 + 7, none⟩ = some (.int .u32 xc.b.sg) ∧ w'.cell? ⟨mg, k * 18 + 13, none⟩ = some xc.v ∧ w'.rangeAt gb (j * 10) (bc b)) := fun w' o => by
            have s := hs.quiet o
            have r := hrng w' (s.sel 4 [3]).head
            have p := hrow w' s.head
            exact ⟨r 4 _ rfl, r 7 _ rfl, r 8 _ rfl, cell_two0 (show w'.heap[S]? = _ from (s.sel 2 [1]).head), p.1, p.2, r⟩
          have Hrow := Lib.hid hrow
          have Hrng := Lib.hid hrng
          have hmid := fun (x' : Rl) (o : Nat) (us : List Value) (ho : o + us.length ≤ 18) (he : rlc x' = setL (rlc xc) o us) => (show setL (fl rlc (ms.set k xc)) (k * 18 + o) us = fl rlc (ms.set k x') by
            rw [fl_cells rlc_len hkl' o us ho x' (by rw [hxk]; exact he), List.set_set])
          have hmany := fun (x' : Rl) => (show ((ms.set k xc).map oo).set k (oo x') = (ms.set k x').map oo by rw [← List.map_set, List.set_set])
          have Hmid := Lib.hid hmid
          have Hmany := Lib.hid hmany
          have hlb := bc_len b
          have Hfold := Lib.hid hfold'
          have Hx := Lib.hid (And.intro hxu (And.intro hxd hxon))
          have hkm : k < ((ms.set k xc).map oo).length := by rw [List.length_map]; exact hkl'
          have Hpk := Lib.hid hpk
          clear hfold hfold' hxu hxd hxon hrow hrng hmid hmany hpk hxk
          have hjI : (0 : Int) ≤ (j : Int) ∧ (j : Int) < bs.length := by omega
          cases hbh : b.has with
          | false =>
            have q7 := (HQ.out wr (Only.refl _ _)).2.1
            rw [hbh] at q7
            by_cases hsg : b.sg < xc.b.sg
            · have dsg : decide (b.sg < xc.b.sg) = true := by simpa using hsg
              have dsg2 : decide (xc.b.sg ≤ b.sg) = false := by simpa using hsg
              have Hp : Hid (pubS (xc.b, xc.os) b = (xc.b, xc.os)) := by show _ = _; simp [pubS, hbh, hsg]
              go_upto_region 13 with fail
              refine wp_region_held_drew (S := fun w' => Only wr.drew w' []) (by kernel_rfl) (Only.refl _ _) (fun hHeld => ?_)
              refine' wpAnyH_take (i := 0) (v := _) (op_at rfl) (by kernel_rfl) (by kernel_rfl) (by kernel_rfl) (fun _ _ _ h => h) (Or.inl ⟨by rfl, ?hy8⟩) (by assumption) ?rest8
              case hy8 =>
                intro w' hS
                go_simp
                try with_reducible rfl
              try simp only [Act.put, List.setIfInBounds_toArray, List.set_cons_zero, List.set_cons_succ]
              refine' wpAnyH_take (i := 1) (v := _) (op_at rfl) (by kernel_rfl) (by kernel_rfl) (by kernel_rfl) (fun _ _ _ h => h) (Or.inl ⟨by rfl, ?hy9⟩) (by assumption) ?rest9
              case hy9 =>
                intro w' hS
                go_simp
                try with_reducible rfl
              try simp only [Act.put, List.setIfInBounds_toArray, List.set_cons_zero, List.set_cons_succ]
              refine' wpAnyH_take (i := 2) (v := _) (op_at rfl) (by kernel_rfl) (by kernel_rfl) (by kernel_rfl) (fun _ _ _ h => h) (Or.inl ⟨by rfl, ?hy10⟩) (by assumption) ?rest10
              case hy10 =>
                intro w' hS
                go_simp
                try with_reducible rfl
              try simp only [Act.put, List.setIfInBounds_toArray, List.set_cons_zero, List.set_cons_succ]
              refine' wpAnyH_take (i := 3) (v := _) (op_at rfl) (by kernel_rfl) (by kernel_rfl) (by kernel_rfl) (fun _ _ _ h => h) (Or.inl ⟨by rfl, ?hy11⟩) (by assumption) ?rest11
              case hy11 =>
                intro w' hS
                go_simp
                try with_reducible rfl
              try simp only [Act.put, List.setIfInBounds_toArray, List.set_cons_zero, List.set_cons_succ]
              refine' wpAnyH_take (i := 4) (v := _) (op_at rfl) (by kernel_rfl) (by kernel_rfl) (by kernel_rfl) (fun _ _ _ h => h) (Or.inl ⟨by rfl, ?hy12⟩) (by assumption) ?rest12
              case hy12 =>
                intro w' hS
                have q_ := (HQ.out w' ((Only.drew wr []).trans hS)).1
                go_simp
                try with_reducible rfl
              try simp only [Act.put, List.setIfInBounds_toArray, List.set_cons_zero, List.set_cons_succ]
              refine' wpAnyH_take (i := 5) (v := _) (op_at rfl) (by kernel_rfl) (by kernel_rfl) (by kernel_rfl) (fun _ _ _ h => h) (Or.inl ⟨by rfl, ?hy13⟩) (by assumption) ?rest13
              case hy13 =>
                intro w' hS
                go_simp
                try with_reducible rfl
              try simp only [Act.put, List.setIfInBounds_toArray, List.set_cons_zero, List.set_cons_succ]
              refine' wpAnyH_take (i := 6) (v := _) (op_at rfl) (by kernel_rfl) (by kernel_rfl) (by kernel_rfl) (fun _ _ _ h => h) (Or.inl ⟨by rfl, ?hy14⟩) (by assumption) ?rest14
              case hy14 =>
                intro w' hS
                go_simp
                try with_reducible rfl
              try simp only [Act.put, List.setIfInBounds_toArray, List.set_cons_zero, List.set_cons_succ]
              refine' wpAnyH_take (i := 7) (v := _) (op_at rfl) (by kernel_rfl) (by kernel_rfl) (by kernel_rfl) (fun _ _ _ h => h) (Or.inl ⟨by rfl, ?hy15⟩) (by assumption) ?rest15
              case hy15 =>
                intro w' hS
                go_simp
                try with_reducible rfl
              try simp only [Act.put, List.setIfInBounds_toArray, List.set_cons_zero, List.set_cons_succ]
              refine' wpAnyH_take (i := 8) (v := _) (op_at rfl) (by kernel_rfl) (by kernel_rfl) (by kernel_rfl) (fun _ _ _ h => h) (Or.inl ⟨by rfl, ?hy16⟩) (by assumption) ?rest16
              case hy16 =>
                intro w' hS
                have q_ := (HQ.out w' ((Only.drew wr []).trans hS)).2.2.2.1
                go_simp
                try with_reducible rfl
              try simp only [Act.put, List.setIfInBounds_toArray, List.set_cons_zero, List.set_cons_succ]
              refine' wpAnyH_take (i := 9) (v := _) (op_at rfl) (by kernel_rfl) (by kernel_rfl) (by kernel_rfl) (fun _ _ _ h => h) (Or.inl ⟨by rfl, ?hy17⟩) (by assumption) ?rest17
              case hy17 =>
                intro w' hS
                go_simp
                try with_reducible rfl
              try simp only [Act.put, List.setIfInBounds_toArray, List.set_cons_zero, List.set_cons_succ]
              refine' wpAnyH_take (i := 10) (v := _) (op_at rfl) (by kernel_rfl) (by kernel_rfl) (by kernel_rfl) (fun _ _ _ h => h) (Or.inl ⟨by rfl, ?hy18⟩) (by assumption) ?rest18
              case hy18 =>
                intro w' hS
                go_simp
                try with_reducible rfl
              try simp only [Act.put, List.setIfInBounds_toArray, List.set_cons_zero, List.set_cons_succ]
              refine' wpAnyH_take (i := 11) (v := _) (op_at rfl) (by kernel_rfl) (by kernel_rfl) (by kernel_rfl) (fun _ _ _ h => h) (Or.inl ⟨by rfl, ?hy19⟩) (by assumption) ?rest19
              case hy19 =>
                intro w' hS
                go_simp
                try with_reducible rfl
              try simp only [Act.put, List.setIfInBounds_toArray, List.set_cons_zero, List.set_cons_succ]
              refine' wpAnyH_take (i := 12) (v := _) (op_at rfl) (by kernel_rfl) (by kernel_rfl) (by kernel_rfl) (fun _ _ _ h => h) (Or.inl ⟨by rfl, ?hy20⟩) (by assumption) ?rest20
              case hy20 =>
                intro w' hS
                go_simp
                try with_reducible rfl
              try simp only [Act.put, List.setIfInBounds_toArray, List.set_cons_zero, List.set_cons_succ]
              refine' wpAnyH_take (i := 13) (v := _) (op_at rfl) (by kernel_rfl) (by kernel_rfl) (by kernel_rfl) (fun _ _ _ h => h) (Or.inl ⟨by rfl, ?hy21⟩) (by assumption) ?rest21
              case hy21 =>
                intro w' hS
                have q_ := (HQ.out w' ((Only.drew wr []).trans hS)).2.2.2.2.1
                go_simp
                try with_reducible rfl
              try simp only [Act.put, List.setIfInBounds_toArray, List.set_cons_zero, List.set_cons_succ]
              refine' wpAnyH_take (i := 14) (v := _) (op_at rfl) (by kernel_rfl) (by kernel_rfl) (by kernel_rfl) (fun _ _ _ h => h) (Or.inl ⟨by rfl, ?hy22⟩) (by assumption) ?rest22
              case hy22 =>
                intro w' hS
                go_simp
                try with_reducible rfl
              try simp only [Act.put, List.setIfInBounds_toArray, List.set_cons_zero, List.set_cons_succ]
              refine wpAnyH_done (by kernel_rfl) ?_ _
              go_wp2_with fail
              exact ⟨⟨j + 1, xc, by simp, by omega, Hx.out.1, Hx.out.2.1, Hx.out.2.2, by rw [Hfold.out, Hp.out], hxos, hxn, (hs.quiet (Only.drew wr [])).quiet hHeld⟩, by simp [intOf]; omega⟩
            · have dsg : decide (b.sg < xc.b.sg) = false := by simpa using hsg
              have dsg2 : decide (xc.b.sg ≤ b.sg) = true := by simp at hsg ⊢; omega
              have Hp : Hid (pubS (xc.b, xc.os) b = (b, xc.os)) := by show _ = _; simp [pubS, hbh, hsg]
              have sD := (hs.quiet (Only.drew wr [])).quiet (Only.drew wr.drew [])
              go_upto_region 13 with fail
              refine wp_region_held_drew (S := fun w' => Only wr.drew w' []) (by kernel_rfl) (Only.refl _ _) (fun hHeld => ?_)
              refine' wpAnyH_take (i := 0) (v := _) (op_at rfl) (by kernel_rfl) (by kernel_rfl) (by kernel_rfl) (fun _ _ _ h => h) (Or.inl ⟨by rfl, ?hy67⟩) (by assumption) ?rest67
              case hy67 =>
                intro w' hS
                go_simp
                try with_reducible rfl
              try simp only [Act.put, List.setIfInBounds_toArray, List.set_cons_zero, List.set_cons_succ]
              refine' wpAnyH_take (i := 1) (v := _) (op_at rfl) (by kernel_rfl) (by kernel_rfl) (by kernel_rfl) (fun _ _ _ h => h) (Or.inl ⟨by rfl, ?hy68⟩) (by assumption) ?rest68
              case hy68 =>
                intro w' hS
                go_simp
                try with_reducible rfl
              try simp only [Act.put, List.setIfInBounds_toArray, List.set_cons_zero, List.set_cons_succ]
              refine' wpAnyH_take (i := 2) (v := _) (op_at rfl) (by kernel_rfl) (by kernel_rfl) (by kernel_rfl) (fun _ _ _ h => h) (Or.inl ⟨by rfl, ?hy69⟩) (by assumption) ?rest69
              case hy69 =>
                intro w' hS
                go_simp
                try with_reducible rfl
              try simp only [Act.put, List.setIfInBounds_toArray, List.set_cons_zero, List.set_cons_succ]
              refine' wpAnyH_take (i := 3) (v := _) (op_at rfl) (by kernel_rfl) (by kernel_rfl) (by kernel_rfl) (fun _ _ _ h => h) (Or.inl ⟨by rfl, ?hy70⟩) (by assumption) ?rest70
              case hy70 =>
                intro w' hS
                go_simp
                try with_reducible rfl
              try simp only [Act.put, List.setIfInBounds_toArray, List.set_cons_zero, List.set_cons_succ]
              refine' wpAnyH_take (i := 4) (v := _) (op_at rfl) (by kernel_rfl) (by kernel_rfl) (by kernel_rfl) (fun _ _ _ h => h) (Or.inl ⟨by rfl, ?hy71⟩) (by assumption) ?rest71
              case hy71 =>
                intro w' hS
                have q_ := (HQ.out w' ((Only.drew wr []).trans hS)).1
                go_simp
                try with_reducible rfl
              try simp only [Act.put, List.setIfInBounds_toArray, List.set_cons_zero, List.set_cons_succ]
              refine' wpAnyH_take (i := 5) (v := _) (op_at rfl) (by kernel_rfl) (by kernel_rfl) (by kernel_rfl) (fun _ _ _ h => h) (Or.inl ⟨by rfl, ?hy72⟩) (by assumption) ?rest72
              case hy72 =>
                intro w' hS
                go_simp
                try with_reducible rfl
              try simp only [Act.put, List.setIfInBounds_toArray, List.set_cons_zero, List.set_cons_succ]
              refine' wpAnyH_take (i := 6) (v := _) (op_at rfl) (by kernel_rfl) (by kernel_rfl) (by kernel_rfl) (fun _ _ _ h => h) (Or.inl ⟨by rfl, ?hy73⟩) (by assumption) ?rest73
              case hy73 =>
                intro w' hS
                go_simp
                try with_reducible rfl
              try simp only [Act.put, List.setIfInBounds_toArray, List.set_cons_zero, List.set_cons_succ]
              refine' wpAnyH_take (i := 7) (v := _) (op_at rfl) (by kernel_rfl) (by kernel_rfl) (by kernel_rfl) (fun _ _ _ h => h) (Or.inl ⟨by rfl, ?hy74⟩) (by assumption) ?rest74
              case hy74 =>
                intro w' hS
                go_simp
                try with_reducible rfl
              try simp only [Act.put, List.setIfInBounds_toArray, List.set_cons_zero, List.set_cons_succ]
              refine' wpAnyH_take (i := 8) (v := _) (op_at rfl) (by kernel_rfl) (by kernel_rfl) (by kernel_rfl) (fun _ _ _ h => h) (Or.inl ⟨by rfl, ?hy75⟩) (by assumption) ?rest75
              case hy75 =>
                intro w' hS
                have q_ := (HQ.out w' ((Only.drew wr []).trans hS)).2.2.2.1
                go_simp
                try with_reducible rfl
              try simp only [Act.put, List.setIfInBounds_toArray, List.set_cons_zero, List.set_cons_succ]
              refine' wpAnyH_take (i := 9) (v := _) (op_at rfl) (by kernel_rfl) (by kernel_rfl) (by kernel_rfl) (fun _ _ _ h => h) (Or.inl ⟨by rfl, ?hy76⟩) (by assumption) ?rest76
              case hy76 =>
                intro w' hS
                go_simp
                try with_reducible rfl
              try simp only [Act.put, List.setIfInBounds_toArray, List.set_cons_zero, List.set_cons_succ]
              refine' wpAnyH_take (i := 10) (v := _) (op_at rfl) (by kernel_rfl) (by kernel_rfl) (by kernel_rfl) (fun _ _ _ h => h) (Or.inl ⟨by rfl, ?hy77⟩) (by assumption) ?rest77
              case hy77 =>
                intro w' hS
                go_simp
                try with_reducible rfl
              try simp only [Act.put, List.setIfInBounds_toArray, List.set_cons_zero, List.set_cons_succ]
              refine' wpAnyH_take (i := 11) (v := _) (op_at rfl) (by kernel_rfl) (by kernel_rfl) (by kernel_rfl) (fun _ _ _ h => h) (Or.inl ⟨by rfl, ?hy78⟩) (by assumption) ?rest78
              case hy78 =>
                intro w' hS
                go_simp
                try with_reducible rfl
              try simp only [Act.put, List.setIfInBounds_toArray, List.set_cons_zero, List.set_cons_succ]
              refine' wpAnyH_take (i := 12) (v := _) (op_at rfl) (by kernel_rfl) (by kernel_rfl) (by kernel_rfl) (fun _ _ _ h => h) (Or.inl ⟨by rfl, ?hy79⟩) (by assumption) ?rest79
              case hy79 =>
                intro w' hS
                go_simp
                try with_reducible rfl
              try simp only [Act.put, List.setIfInBounds_toArray, List.set_cons_zero, List.set_cons_succ]
              refine' wpAnyH_take (i := 13) (v := _) (op_at rfl) (by kernel_rfl) (by kernel_rfl) (by kernel_rfl) (fun _ _ _ h => h) (Or.inl ⟨by rfl, ?hy80⟩) (by assumption) ?rest80
              case hy80 =>
                intro w' hS
                have q_ := (HQ.out w' ((Only.drew wr []).trans hS)).2.2.2.2.1
                go_simp
                try with_reducible rfl
              try simp only [Act.put, List.setIfInBounds_toArray, List.set_cons_zero, List.set_cons_succ]
              refine' wpAnyH_take (i := 14) (v := _) (op_at rfl) (by kernel_rfl) (by kernel_rfl) (by kernel_rfl) (fun _ _ _ h => h) (Or.inl ⟨by rfl, ?hy81⟩) (by assumption) ?rest81
              case hy81 =>
                intro w' hS
                go_simp
                try with_reducible rfl
              try simp only [Act.put, List.setIfInBounds_toArray, List.set_cons_zero, List.set_cons_succ]
              refine wpAnyH_done (by kernel_rfl) ?_ _
              go_upto_region 14 with fail
              refine wp_region_t (S := fun w' => Only wr.drew.drew w' []) 11 (by kernel_rfl) (by kernel_rfl) (Only.refl _ _) (fun hZ hHeld => ?_)
              refine' wpAnyT_take (i := 0) (v := _) hZ (op_at' rfl) (by rfl) (by kernel_rfl) (by kernel_rfl) (by kernel_rfl) (by kernel_rfl) (fun _ _ _ h => h) (Or.inl ⟨by rfl, ?hy23⟩) (by assumption) ?rest23
              case hy23 =>
                intro w' hS
                go_simp
                try with_reducible rfl
              try simp only [Act.put, List.setIfInBounds_toArray, List.set_cons_zero, List.set_cons_succ]
              refine' wpAnyT_take (i := 1) (v := _) hZ (op_at' rfl) (by rfl) (by kernel_rfl) (by kernel_rfl) (by kernel_rfl) (by kernel_rfl) (fun _ _ _ h => h) (Or.inl ⟨by rfl, ?hy24⟩) (by assumption) ?rest24
              case hy24 =>
                intro w' hS
                go_simp
                try with_reducible rfl
              try simp only [Act.put, List.setIfInBounds_toArray, List.set_cons_zero, List.set_cons_succ]
              refine' wpAnyT_take (i := 2) (v := _) hZ (op_at' rfl) (by rfl) (by kernel_rfl) (by kernel_rfl) (by kernel_rfl) (by kernel_rfl) (fun _ _ _ h => h) (Or.inl ⟨by rfl, ?hy25⟩) (by assumption) ?rest25
              case hy25 =>
                intro w' hS
                go_simp
                try with_reducible rfl
              try simp only [Act.put, List.setIfInBounds_toArray, List.set_cons_zero, List.set_cons_succ]
              refine' wpAnyT_take (i := 3) (v := _) hZ (op_at' rfl) (by rfl) (by kernel_rfl) (by kernel_rfl) (by kernel_rfl) (by kernel_rfl) (fun _ _ _ h => h) (Or.inl ⟨by rfl, ?hy26⟩) (by assumption) ?rest26
              case hy26 =>
                intro w' hS
                have q_ := (HQ.out w' (((Only.drew wr []).trans (Only.drew _ [])).trans hS)).2.2.2.1
                go_simp
                try with_reducible rfl
              try simp only [Act.put, List.setIfInBounds_toArray, List.set_cons_zero, List.set_cons_succ]
              refine' wpAnyT_take (i := 4) (v := _) hZ (op_at' rfl) (by rfl) (by kernel_rfl) (by kernel_rfl) (by kernel_rfl) (by kernel_rfl) (fun _ _ _ h => h) (Or.inl ⟨by rfl, ?hy27⟩) (by assumption) ?rest27
              case hy27 =>
                intro w' hS
                go_simp
                try with_reducible rfl
              try simp only [Act.put, List.setIfInBounds_toArray, List.set_cons_zero, List.set_cons_succ]
              refine' wpAnyT_take (i := 5) (v := _) hZ (op_at' rfl) (by rfl) (by kernel_rfl) (by kernel_rfl) (by kernel_rfl) (by kernel_rfl) (fun _ _ _ h => h) (Or.inl ⟨by rfl, ?hy28⟩) (by assumption) ?rest28
              case hy28 =>
                intro w' hS
                go_simp
                try with_reducible rfl
              try simp only [Act.put, List.setIfInBounds_toArray, List.set_cons_zero, List.set_cons_succ]
              refine' wpAnyT_take (i := 6) (v := _) hZ (op_at' rfl) (by rfl) (by kernel_rfl) (by kernel_rfl) (by kernel_rfl) (by kernel_rfl) (fun _ _ _ h => h) (Or.inl ⟨by rfl, ?hy29⟩) (by assumption) ?rest29
              case hy29 =>
                intro w' hS
                go_simp
                try with_reducible rfl
              try simp only [Act.put, List.setIfInBounds_toArray, List.set_cons_zero, List.set_cons_succ]
              refine' wpAnyT_take (i := 7) (v := _) hZ (op_at' rfl) (by rfl) (by kernel_rfl) (by kernel_rfl) (by kernel_rfl) (by kernel_rfl) (fun _ _ _ h => h) (Or.inl ⟨by rfl, ?hy30⟩) (by assumption) ?rest30
              case hy30 =>
                intro w' hS
                go_simp
                try with_reducible rfl
              try simp only [Act.put, List.setIfInBounds_toArray, List.set_cons_zero, List.set_cons_succ]
              refine wpAnyT_take (i := 8) hZ (op_at' rfl) (by rfl) (by kernel_rfl) (by kernel_rfl) (by kernel_rfl) (by kernel_rfl) (fun _ _ _ h => h) (yieldsIf_load_mid (by rfl) _ _ rfl gb (j * 10) rfl (bc b) _ (fun w' hS => (HQ.out w' (((Only.drew wr []).trans (Only.drew _ [])).trans hS)).2.2.2.2.2.2) Try.underlying40 (by rfl) (by rw [bc_len]; kernel_rfl)) (by assumption) ?_
              try simp only [Act.put, List.setIfInBounds_toArray, List.set_cons_zero, List.set_cons_succ]
              refine' wpAnyT_take (i := 9) (v := _) hZ (op_at' rfl) (by rfl) (by kernel_rfl) (by kernel_rfl) (by kernel_rfl) (by kernel_rfl) (fun _ _ _ h => h) (Or.inl ⟨by rfl, ?hy32⟩) (by assumption) ?rest32
              case hy32 =>
                intro w' hS
                go_simp
                try with_reducible rfl
              try simp only [Act.put, List.setIfInBounds_toArray, List.set_cons_zero, List.set_cons_succ]
              refine' wpAnyT_take (i := 10) (v := _) hZ (op_at' rfl) (by rfl) (by kernel_rfl) (by kernel_rfl) (by kernel_rfl) (by kernel_rfl) (fun _ _ _ h => h) (Or.inl ⟨by rfl, ?hy33⟩) (by assumption) ?rest33
              case hy33 =>
                intro w' hS
                go_simp
                try with_reducible rfl
              try simp only [Act.put, List.setIfInBounds_toArray, List.set_cons_zero, List.set_cons_succ]
              refine wpAnyT_last (by kernel_rfl) (op_at' rfl) (by kernel_rfl) (fun K hK => ?_)
              refine step_store_rec (by rfl) 40 _ _ (by rfl) mg (k * 18 + 3) (.agg (bc b).toArray) (bc b) (by rfl) 85 18 ms.length c _ (by rfl) (by rfl) sD (by rw [bc_len]; omega) (by rw [bc_len]; kernel_rfl) (bc_one b) (fun w11 o11 s11 => ?_)
              go_wp2_with fail
              refine hK.out _ _ ?_
              clear hK K
              try simp only [Act.put, List.setIfInBounds_toArray, List.set_cons_zero, List.set_cons_succ]
              rw [Hmid.out { xc with b := b } 3 (bc b) (by rw [bc_len]; decide) rfl] at s11
              have Hw : Hid ((ms.set k { xc with b := b }).map oo = (ms.set k xc).map oo) := by
                show _ = _
                rw [List.map_set, List.map_set]
                rfl
              clear sD hHeld hs
              go_wp2_with fail
              exact ⟨⟨j + 1, { xc with b := b }, by simp, by omega, Hx.out.1, Hx.out.2.1, Hx.out.2.2, by rw [Hfold.out, Hp.out], hxos, hxn, by rw [Hw.out]; exact s11⟩, by simp [intOf]; omega⟩
          | true =>
            have q7 := (HQ.out wr (Only.refl _ _)).2.1
            rw [hbh] at q7
            obtain ⟨wo, rfl⟩ : ∃ z, z = wr := ⟨_, rfl⟩
            have howk : OwnO wo 40 10 xc.v xc.os.length (fl bc xc.os) := many_ok (hs.sel 3 [2]).head (List.mem_of_getElem? Hpk.out)
            obtain ⟨av, cv, hv⟩ := howk.slice
            have Hv := Lib.hid hv
            obtain ⟨n, hn⟩ : ∃ n, n = xc.os.length := ⟨_, rfl⟩
            obtain ⟨fi, hfi⟩ : ∃ fi, fi = xc.os.findIdx (fun y => y.on == b.on) := ⟨_, rfl⟩
            have Hn := Lib.hid hn
            have Hfi := Lib.hid hfi
            have hfn : fi ≤ n := by rw [hfi, hn]; exact List.findIdx_le_length
            rw [← hn] at Hv
            have hn16 : n ≤ 16 := by rw [hn]; exact hxos
            clear hv hn hfi howk
            go_wp2_with fail
            go_loopw [10, 11] (fun a y wr => ∃ m : Nat, y = .int .i64 m ∧ m ≤ n ∧ a = .int .i64 (if fi < m then (fi : Int) else -1) ∧ Only wo wr []) (fun _ y _ => n - (intOf y).toNat)
            case atStart => exact ⟨0, rfl, Nat.zero_le _, by simp, Only.refl _ _⟩
            case round =>
              obtain ⟨m, rfl, hm, rfl, oM⟩ := hrel
              have qs := (HQ.out _ oM).2.2.2.1
              have qv := (HQ.out _ oM).2.2.2.2.2.1
              rw [Hv.out] at qv
              by_cases hmn : m < n
              · have d2 : decide ((m : Int) < n) = true := by simpa using hmn
                have hmI : (0 : Int) ≤ (m : Int) ∧ (m : Int) < n := by omega
                have hmo : m < xc.os.length := by rw [← Hn.out]; exact hmn
                obtain ⟨gv, off, rfl, _, _⟩ : ∃ gv off, av = some ⟨gv, off, none⟩ ∧ n ≤ cv ∧ cv ≤ maxLen := by
                  have h1 : OwnO wo 40 10 xc.v xc.os.length (fl bc xc.os) := many_ok (hs.sel 3 [2]).head (List.mem_of_getElem? Hpk.out)
                  rw [← Hn.out, Hv.out] at h1
                  exact h1.addr (by omega)
                have HV : Hid (∀ w', Only wo w' [] → w'.cell? ⟨gv, off + m * 10 + 8, none⟩ = some (.int .u32 xc.os[m].on) ∧ True) := fun w' o => by
                  have h1 : OwnO w' 40 10 xc.v xc.os.length (fl bc xc.os) := many_ok ((hs.quiet o).sel 3 [2]).head (List.mem_of_getElem? Hpk.out)
                  rw [← Hn.out, Hv.out] at h1
                  refine ⟨?_, trivial⟩
                  rw [Nat.add_assoc]
                  exact h1.at (by rw [fl_at bc_len hmo (by decide : 8 < 10)]; rfl)
                by_cases he : xc.os[m].on = b.on
                · have HE := Lib.hid he
                  have Hr : Hid (fi = m) := by show _ = _; rw [Hfi.out]; exact unlike_at hxn hmo he
                  have hr : fi = m := Hr.out
                  clear Hr Hfi
                  subst hr
                  clear he
                  go_upto_region 19 with fail
                  refine wp_region_held_drew (S := fun w' => Only wr.drew w' []) (by kernel_rfl) (Only.refl _ _) (fun hHeld => ?_)
                  refine' wpAnyH_take (i := 0) (v := _) (op_at rfl) (by kernel_rfl) (by kernel_rfl) (by kernel_rfl) (fun _ _ _ h => h) (Or.inl ⟨by rfl, ?hy82⟩) (by assumption) ?rest82
                  case hy82 =>
                    intro w' hS
                    go_simp
                    try with_reducible rfl
                  try simp only [Act.put, List.setIfInBounds_toArray, List.set_cons_zero, List.set_cons_succ]
                  refine' wpAnyH_take (i := 1) (v := _) (op_at rfl) (by kernel_rfl) (by kernel_rfl) (by kernel_rfl) (fun _ _ _ h => h) (Or.inl ⟨by rfl, ?hy83⟩) (by assumption) ?rest83
                  case hy83 =>
                    intro w' hS
                    go_simp
                    try with_reducible rfl
                  try simp only [Act.put, List.setIfInBounds_toArray, List.set_cons_zero, List.set_cons_succ]
                  refine' wpAnyH_take (i := 2) (v := _) (op_at rfl) (by kernel_rfl) (by kernel_rfl) (by kernel_rfl) (fun _ _ _ h => h) (Or.inl ⟨by rfl, ?hy84⟩) (by assumption) ?rest84
                  case hy84 =>
                    intro w' hS
                    go_simp
                    try with_reducible rfl
                  try simp only [Act.put, List.setIfInBounds_toArray, List.set_cons_zero, List.set_cons_succ]
                  refine' wpAnyH_take (i := 3) (v := _) (op_at rfl) (by kernel_rfl) (by kernel_rfl) (by kernel_rfl) (fun _ _ _ h => h) (Or.inl ⟨by rfl, ?hy85⟩) (by assumption) ?rest85
                  case hy85 =>
                    intro w' hS
                    have q_ := (HQ.out w' ((oM.trans (Only.drew wr [])).trans hS)).2.2.2.1
                    go_simp
                    try with_reducible rfl
                  try simp only [Act.put, List.setIfInBounds_toArray, List.set_cons_zero, List.set_cons_succ]
                  refine' wpAnyH_take (i := 4) (v := _) (op_at rfl) (by kernel_rfl) (by kernel_rfl) (by kernel_rfl) (fun _ _ _ h => h) (Or.inl ⟨by rfl, ?hy86⟩) (by assumption) ?rest86
                  case hy86 =>
                    intro w' hS
                    go_simp
                    try with_reducible rfl
                  try simp only [Act.put, List.setIfInBounds_toArray, List.set_cons_zero, List.set_cons_succ]
                  refine' wpAnyH_take (i := 5) (v := _) (op_at rfl) (by kernel_rfl) (by kernel_rfl) (by kernel_rfl) (fun _ _ _ h => h) (Or.inl ⟨by rfl, ?hy87⟩) (by assumption) ?rest87
                  case hy87 =>
                    intro w' hS
                    go_simp
                    try with_reducible rfl
                  try simp only [Act.put, List.setIfInBounds_toArray, List.set_cons_zero, List.set_cons_succ]
                  refine' wpAnyH_take (i := 6) (v := _) (op_at rfl) (by kernel_rfl) (by kernel_rfl) (by kernel_rfl) (fun _ _ _ h => h) (Or.inl ⟨by rfl, ?hy88⟩) (by assumption) ?rest88
                  case hy88 =>
                    intro w' hS
                    go_simp
                    try with_reducible rfl
                  try simp only [Act.put, List.setIfInBounds_toArray, List.set_cons_zero, List.set_cons_succ]
                  refine' wpAnyH_take (i := 7) (v := _) (op_at rfl) (by kernel_rfl) (by kernel_rfl) (by kernel_rfl) (fun _ _ _ h => h) (Or.inl ⟨by rfl, ?hy89⟩) (by assumption) ?rest89
                  case hy89 =>
                    intro w' hS
                    have q_ := (HQ.out w' ((oM.trans (Only.drew wr [])).trans hS)).2.2.2.2.2.1
                    rw [Hv.out] at q_
                    go_simp
                    try with_reducible rfl
                  try simp only [Act.put, List.setIfInBounds_toArray, List.set_cons_zero, List.set_cons_succ]
                  refine' wpAnyH_take (i := 8) (v := _) (op_at rfl) (by kernel_rfl) (by kernel_rfl) (by kernel_rfl) (fun _ _ _ h => h) (Or.inl ⟨by rfl, ?hy90⟩) (by assumption) ?rest90
                  case hy90 =>
                    intro w' hS
                    go_simp
                    try with_reducible rfl
                  try simp only [Act.put, List.setIfInBounds_toArray, List.set_cons_zero, List.set_cons_succ]
                  refine' wpAnyH_take (i := 9) (v := _) (op_at rfl) (by kernel_rfl) (by kernel_rfl) (by kernel_rfl) (fun _ _ _ h => h) (Or.inl ⟨by rfl, ?hy91⟩) (by assumption) ?rest91
                  case hy91 =>
                    intro w' hS
                    go_simp
                    try with_reducible rfl
                  try simp only [Act.put, List.setIfInBounds_toArray, List.set_cons_zero, List.set_cons_succ]
                  refine' wpAnyH_take (i := 10) (v := _) (op_at rfl) (by kernel_rfl) (by kernel_rfl) (by kernel_rfl) (fun _ _ _ h => h) (Or.inl ⟨by rfl, ?hy92⟩) (by assumption) ?rest92
                  case hy92 =>
                    intro w' hS
                    go_simp
                    try with_reducible rfl
                  try simp only [Act.put, List.setIfInBounds_toArray, List.set_cons_zero, List.set_cons_succ]
                  refine' wpAnyH_take (i := 11) (v := _) (op_at rfl) (by kernel_rfl) (by kernel_rfl) (by kernel_rfl) (fun _ _ _ h => h) (Or.inl ⟨by rfl, ?hy93⟩) (by assumption) ?rest93
                  case hy93 =>
                    intro w' hS
                    have b8_ := (HV.out w' ((oM.trans (Only.drew wr [])).trans hS)).1
                    rw [HE.out] at b8_
                    go_simp
                    try with_reducible rfl
                  try simp only [Act.put, List.setIfInBounds_toArray, List.set_cons_zero, List.set_cons_succ]
                  refine' wpAnyH_take (i := 12) (v := _) (op_at rfl) (by kernel_rfl) (by kernel_rfl) (by kernel_rfl) (fun _ _ _ h => h) (Or.inl ⟨by rfl, ?hy94⟩) (by assumption) ?rest94
                  case hy94 =>
                    intro w' hS
                    go_simp
                    try with_reducible rfl
                  try simp only [Act.put, List.setIfInBounds_toArray, List.set_cons_zero, List.set_cons_succ]
                  refine' wpAnyH_take (i := 13) (v := _) (op_at rfl) (by kernel_rfl) (by kernel_rfl) (by kernel_rfl) (fun _ _ _ h => h) (Or.inl ⟨by rfl, ?hy95⟩) (by assumption) ?rest95
                  case hy95 =>
                    intro w' hS
                    go_simp
                    try with_reducible rfl
                  try simp only [Act.put, List.setIfInBounds_toArray, List.set_cons_zero, List.set_cons_succ]
                  refine' wpAnyH_take (i := 14) (v := _) (op_at rfl) (by kernel_rfl) (by kernel_rfl) (by kernel_rfl) (fun _ _ _ h => h) (Or.inl ⟨by rfl, ?hy96⟩) (by assumption) ?rest96
                  case hy96 =>
                    intro w' hS
                    go_simp
                    try with_reducible rfl
                  try simp only [Act.put, List.setIfInBounds_toArray, List.set_cons_zero, List.set_cons_succ]
                  refine' wpAnyH_take (i := 15) (v := _) (op_at rfl) (by kernel_rfl) (by kernel_rfl) (by kernel_rfl) (fun _ _ _ h => h) (Or.inl ⟨by rfl, ?hy97⟩) (by assumption) ?rest97
                  case hy97 =>
                    intro w' hS
                    go_simp
                    try with_reducible rfl
                  try simp only [Act.put, List.setIfInBounds_toArray, List.set_cons_zero, List.set_cons_succ]
                  refine' wpAnyH_take (i := 16) (v := _) (op_at rfl) (by kernel_rfl) (by kernel_rfl) (by kernel_rfl) (fun _ _ _ h => h) (Or.inl ⟨by rfl, ?hy98⟩) (by assumption) ?rest98
                  case hy98 =>
                    intro w' hS
                    have q_ := (HQ.out w' ((oM.trans (Only.drew wr [])).trans hS)).2.2.1
                    go_simp
                    try with_reducible rfl
                  try simp only [Act.put, List.setIfInBounds_toArray, List.set_cons_zero, List.set_cons_succ]
                  refine' wpAnyH_take (i := 17) (v := _) (op_at rfl) (by kernel_rfl) (by kernel_rfl) (by kernel_rfl) (fun _ _ _ h => h) (Or.inl ⟨by rfl, ?hy99⟩) (by assumption) ?rest99
                  case hy99 =>
                    intro w' hS
                    go_simp
                    try with_reducible rfl
                  try simp only [Act.put, List.setIfInBounds_toArray, List.set_cons_zero, List.set_cons_succ]
                  refine wpAnyH_done (by kernel_rfl) ?_ _
                  go_wp2_with fail
                  exact ⟨⟨fi + 1, by simp, by omega, by simp, (oM.trans (Only.drew wr [])).trans hHeld⟩, by simp [intOf]; omega⟩
                · have de : decide (xc.os[m].on = b.on) = false := by simpa using he
                  have dE : (xc.os[m].on == b.on) = false := by simpa using he
                  have Hr : Hid (fi ≠ m) := by show _ ≠ _; rw [Hfi.out]; exact unlike_not hmo he
                  go_upto_region 19 with fail
                  refine wp_region_held_drew (S := fun w' => Only wr.drew w' []) (by kernel_rfl) (Only.refl _ _) (fun hHeld => ?_)
                  refine' wpAnyH_take (i := 0) (v := _) (op_at rfl) (by kernel_rfl) (by kernel_rfl) (by kernel_rfl) (fun _ _ _ h => h) (Or.inl ⟨by rfl, ?hy100⟩) (by assumption) ?rest100
                  case hy100 =>
                    intro w' hS
                    go_simp
                    try with_reducible rfl
                  try simp only [Act.put, List.setIfInBounds_toArray, List.set_cons_zero, List.set_cons_succ]
                  refine' wpAnyH_take (i := 1) (v := _) (op_at rfl) (by kernel_rfl) (by kernel_rfl) (by kernel_rfl) (fun _ _ _ h => h) (Or.inl ⟨by rfl, ?hy101⟩) (by assumption) ?rest101
                  case hy101 =>
                    intro w' hS
                    go_simp
                    try with_reducible rfl
                  try simp only [Act.put, List.setIfInBounds_toArray, List.set_cons_zero, List.set_cons_succ]
                  refine' wpAnyH_take (i := 2) (v := _) (op_at rfl) (by kernel_rfl) (by kernel_rfl) (by kernel_rfl) (fun _ _ _ h => h) (Or.inl ⟨by rfl, ?hy102⟩) (by assumption) ?rest102
                  case hy102 =>
                    intro w' hS
                    go_simp
                    try with_reducible rfl
                  try simp only [Act.put, List.setIfInBounds_toArray, List.set_cons_zero, List.set_cons_succ]
                  refine' wpAnyH_take (i := 3) (v := _) (op_at rfl) (by kernel_rfl) (by kernel_rfl) (by kernel_rfl) (fun _ _ _ h => h) (Or.inl ⟨by rfl, ?hy103⟩) (by assumption) ?rest103
                  case hy103 =>
                    intro w' hS
                    have q_ := (HQ.out w' ((oM.trans (Only.drew wr [])).trans hS)).2.2.2.1
                    go_simp
                    try with_reducible rfl
                  try simp only [Act.put, List.setIfInBounds_toArray, List.set_cons_zero, List.set_cons_succ]
                  refine' wpAnyH_take (i := 4) (v := _) (op_at rfl) (by kernel_rfl) (by kernel_rfl) (by kernel_rfl) (fun _ _ _ h => h) (Or.inl ⟨by rfl, ?hy104⟩) (by assumption) ?rest104
                  case hy104 =>
                    intro w' hS
                    go_simp
                    try with_reducible rfl
                  try simp only [Act.put, List.setIfInBounds_toArray, List.set_cons_zero, List.set_cons_succ]
                  refine' wpAnyH_take (i := 5) (v := _) (op_at rfl) (by kernel_rfl) (by kernel_rfl) (by kernel_rfl) (fun _ _ _ h => h) (Or.inl ⟨by rfl, ?hy105⟩) (by assumption) ?rest105
                  case hy105 =>
                    intro w' hS
                    go_simp
                    try with_reducible rfl
                  try simp only [Act.put, List.setIfInBounds_toArray, List.set_cons_zero, List.set_cons_succ]
                  refine' wpAnyH_take (i := 6) (v := _) (op_at rfl) (by kernel_rfl) (by kernel_rfl) (by kernel_rfl) (fun _ _ _ h => h) (Or.inl ⟨by rfl, ?hy106⟩) (by assumption) ?rest106
                  case hy106 =>
                    intro w' hS
                    go_simp
                    try with_reducible rfl
                  try simp only [Act.put, List.setIfInBounds_toArray, List.set_cons_zero, List.set_cons_succ]
                  refine' wpAnyH_take (i := 7) (v := _) (op_at rfl) (by kernel_rfl) (by kernel_rfl) (by kernel_rfl) (fun _ _ _ h => h) (Or.inl ⟨by rfl, ?hy107⟩) (by assumption) ?rest107
                  case hy107 =>
                    intro w' hS
                    have q_ := (HQ.out w' ((oM.trans (Only.drew wr [])).trans hS)).2.2.2.2.2.1
                    rw [Hv.out] at q_
                    go_simp
                    try with_reducible rfl
                  try simp only [Act.put, List.setIfInBounds_toArray, List.set_cons_zero, List.set_cons_succ]
                  refine' wpAnyH_take (i := 8) (v := _) (op_at rfl) (by kernel_rfl) (by kernel_rfl) (by kernel_rfl) (fun _ _ _ h => h) (Or.inl ⟨by rfl, ?hy108⟩) (by assumption) ?rest108
                  case hy108 =>
                    intro w' hS
                    go_simp
                    try with_reducible rfl
                  try simp only [Act.put, List.setIfInBounds_toArray, List.set_cons_zero, List.set_cons_succ]
                  refine' wpAnyH_take (i := 9) (v := _) (op_at rfl) (by kernel_rfl) (by kernel_rfl) (by kernel_rfl) (fun _ _ _ h => h) (Or.inl ⟨by rfl, ?hy109⟩) (by assumption) ?rest109
                  case hy109 =>
                    intro w' hS
                    go_simp
                    try with_reducible rfl
                  try simp only [Act.put, List.setIfInBounds_toArray, List.set_cons_zero, List.set_cons_succ]
                  refine' wpAnyH_take (i := 10) (v := _) (op_at rfl) (by kernel_rfl) (by kernel_rfl) (by kernel_rfl) (fun _ _ _ h => h) (Or.inl ⟨by rfl, ?hy110⟩) (by assumption) ?rest110
                  case hy110 =>
                    intro w' hS
                    go_simp
                    try with_reducible rfl
                  try simp only [Act.put, List.setIfInBounds_toArray, List.set_cons_zero, List.set_cons_succ]
                  refine' wpAnyH_take (i := 11) (v := _) (op_at rfl) (by kernel_rfl) (by kernel_rfl) (by kernel_rfl) (fun _ _ _ h => h) (Or.inl ⟨by rfl, ?hy111⟩) (by assumption) ?rest111
                  case hy111 =>
                    intro w' hS
                    have b8_ := (HV.out w' ((oM.trans (Only.drew wr [])).trans hS)).1
                    go_simp
                    try with_reducible rfl
                  try simp only [Act.put, List.setIfInBounds_toArray, List.set_cons_zero, List.set_cons_succ]
                  refine' wpAnyH_take (i := 12) (v := _) (op_at rfl) (by kernel_rfl) (by kernel_rfl) (by kernel_rfl) (fun _ _ _ h => h) (Or.inl ⟨by rfl, ?hy112⟩) (by assumption) ?rest112
                  case hy112 =>
                    intro w' hS
                    go_simp
                    try with_reducible rfl
                  try simp only [Act.put, List.setIfInBounds_toArray, List.set_cons_zero, List.set_cons_succ]
                  refine' wpAnyH_take (i := 13) (v := _) (op_at rfl) (by kernel_rfl) (by kernel_rfl) (by kernel_rfl) (fun _ _ _ h => h) (Or.inl ⟨by rfl, ?hy113⟩) (by assumption) ?rest113
                  case hy113 =>
                    intro w' hS
                    go_simp
                    try with_reducible rfl
                  try simp only [Act.put, List.setIfInBounds_toArray, List.set_cons_zero, List.set_cons_succ]
                  refine' wpAnyH_take (i := 14) (v := _) (op_at rfl) (by kernel_rfl) (by kernel_rfl) (by kernel_rfl) (fun _ _ _ h => h) (Or.inl ⟨by rfl, ?hy114⟩) (by assumption) ?rest114
                  case hy114 =>
                    intro w' hS
                    go_simp
                    try with_reducible rfl
                  try simp only [Act.put, List.setIfInBounds_toArray, List.set_cons_zero, List.set_cons_succ]
                  refine' wpAnyH_take (i := 15) (v := _) (op_at rfl) (by kernel_rfl) (by kernel_rfl) (by kernel_rfl) (fun _ _ _ h => h) (Or.inl ⟨by rfl, ?hy115⟩) (by assumption) ?rest115
                  case hy115 =>
                    intro w' hS
                    go_simp
                    try with_reducible rfl
                  try simp only [Act.put, List.setIfInBounds_toArray, List.set_cons_zero, List.set_cons_succ]
                  refine' wpAnyH_take (i := 16) (v := _) (op_at rfl) (by kernel_rfl) (by kernel_rfl) (by kernel_rfl) (fun _ _ _ h => h) (Or.inl ⟨by rfl, ?hy116⟩) (by assumption) ?rest116
                  case hy116 =>
                    intro w' hS
                    have q_ := (HQ.out w' ((oM.trans (Only.drew wr [])).trans hS)).2.2.1
                    go_simp
                    try with_reducible rfl
                  try simp only [Act.put, List.setIfInBounds_toArray, List.set_cons_zero, List.set_cons_succ]
                  refine' wpAnyH_take (i := 17) (v := _) (op_at rfl) (by kernel_rfl) (by kernel_rfl) (by kernel_rfl) (fun _ _ _ h => h) (Or.inl ⟨by rfl, ?hy117⟩) (by assumption) ?rest117
                  case hy117 =>
                    intro w' hS
                    go_simp
                    try with_reducible rfl
                  try simp only [Act.put, List.setIfInBounds_toArray, List.set_cons_zero, List.set_cons_succ]
                  refine wpAnyH_done (by kernel_rfl) ?_ _
                  go_wp2_with fail
                  exact ⟨⟨m + 1, by simp, by omega, by
                    have h1 := Hr.out
                    have h2 : (fi < m) = (fi < m + 1) := propext (by omega)
                    simp only [h2], (oM.trans (Only.drew wr [])).trans hHeld⟩, by simp [intOf]; omega⟩
              · obtain rfl : m = n := by omega
                have d2 : decide ((m : Int) < m) = false := by simp
                have sM := hs.quiet oM
                by_cases hix : fi < m
                · rw [if_pos hix]
                  have hi0' : decide ((0 : Int) ≤ (fi : Int)) = true := by simp
                  obtain ⟨i, rfl⟩ : ∃ i, i = fi := ⟨_, rfl⟩
                  have hiI : (0 : Int) ≤ (i : Int) ∧ (i : Int) < m := by omega
                  have hiw : i * 10 + 10 ≤ m * 10 := by omega
                  have hio : i < xc.os.length := by rw [← Hn.out]; exact hix
                  have Hp : Hid (pubS (xc.b, xc.os) b = (xc.b, xc.os.set i b)) := by
                    show _ = _
                    have h1 := Hfi.out
                    simp only [pubS, hbh]
                    rw [if_neg (by simp), ← h1, if_pos hio]
                  rw [Hp.out] at hun
                  obtain ⟨gv, off, rfl, _, _⟩ : ∃ gv off, av = some ⟨gv, off, none⟩ ∧ m ≤ cv ∧ cv ≤ maxLen := by
                    have h1 : OwnO wo 40 10 xc.v xc.os.length (fl bc xc.os) := many_ok (hs.sel 3 [2]).head (List.mem_of_getElem? Hpk.out)
                    rw [← Hn.out, Hv.out] at h1
                    exact h1.addr (by omega)
                  obtain ⟨n, rfl⟩ : ∃ n, n = m := ⟨_, rfl⟩
                  have q1 : Pw.Sep w0 wr.drew (rowO 40 10 (.slice (some ⟨gv, off, none⟩) n cv) n (fl bc xc.os) :: many (((ms.set k xc).map oo).eraseIdx k) :: row 85 18 (.slice (some ⟨mg, 0, none⟩) ms.length c) ms.length (fl rlc (ms.set k xc)) :: blk S [.slice (some ⟨mg, 0, none⟩) ms.length c, .slice none 0 0] 53 :: row 40 10 (.slice (some ⟨gb, 0, none⟩) bs.length cb) bs.length (fl bc bs) :: rs) := by
                    have h1 := ((sM.quiet (Only.drew wr [])).sel 4 [2, 0, 1, 3]).pick k Hpk.out
                    unfold oo at h1
                    rw [← Hn.out, Hv.out] at h1
                    exact h1
                  have Hs : Hid (setL (fl bc xc.os) (i * 10) (bc b) = fl bc (xc.os.set i b)) := fl_set (enc := bc) (k := 10) bc_len hio b
                  have Hl : Hid (fl rlc (ms.set k xc) = fl rlc (ms.set k { xc with os := xc.os.set i b })) := fl_set_same rfl
                  clear sM hs Hfi hfn
                  go_upto_region 22 with fail
                  refine wp_region_t (S := fun w' => Only wr.drew w' []) 14 (by kernel_rfl) (by kernel_rfl) (Only.refl _ _) (fun hZ hHeld => ?_)
                  refine' wpAnyT_take (i := 0) (v := _) hZ (op_at' rfl) (by rfl) (by kernel_rfl) (by kernel_rfl) (by kernel_rfl) (by kernel_rfl) (fun _ _ _ h => h) (Or.inl ⟨by rfl, ?hy34⟩) (by assumption) ?rest34
                  case hy34 =>
                    intro w' hS
                    go_simp
                    try with_reducible rfl
                  try simp only [Act.put, List.setIfInBounds_toArray, List.set_cons_zero, List.set_cons_succ]
                  refine' wpAnyT_take (i := 1) (v := _) hZ (op_at' rfl) (by rfl) (by kernel_rfl) (by kernel_rfl) (by kernel_rfl) (by kernel_rfl) (fun _ _ _ h => h) (Or.inl ⟨by rfl, ?hy35⟩) (by assumption) ?rest35
                  case hy35 =>
                    intro w' hS
                    go_simp
                    try with_reducible rfl
                  try simp only [Act.put, List.setIfInBounds_toArray, List.set_cons_zero, List.set_cons_succ]
                  refine' wpAnyT_take (i := 2) (v := _) hZ (op_at' rfl) (by rfl) (by kernel_rfl) (by kernel_rfl) (by kernel_rfl) (by kernel_rfl) (fun _ _ _ h => h) (Or.inl ⟨by rfl, ?hy36⟩) (by assumption) ?rest36
                  case hy36 =>
                    intro w' hS
                    go_simp
                    try with_reducible rfl
                  try simp only [Act.put, List.setIfInBounds_toArray, List.set_cons_zero, List.set_cons_succ]
                  refine' wpAnyT_take (i := 3) (v := _) hZ (op_at' rfl) (by rfl) (by kernel_rfl) (by kernel_rfl) (by kernel_rfl) (by kernel_rfl) (fun _ _ _ h => h) (Or.inl ⟨by rfl, ?hy37⟩) (by assumption) ?rest37
                  case hy37 =>
                    intro w' hS
                    have q_ := (HQ.out w' ((oM.trans (Only.drew wr [])).trans hS)).2.2.2.1
                    go_simp
                    try with_reducible rfl
                  try simp only [Act.put, List.setIfInBounds_toArray, List.set_cons_zero, List.set_cons_succ]
                  refine' wpAnyT_take (i := 4) (v := _) hZ (op_at' rfl) (by rfl) (by kernel_rfl) (by kernel_rfl) (by kernel_rfl) (by kernel_rfl) (fun _ _ _ h => h) (Or.inl ⟨by rfl, ?hy38⟩) (by assumption) ?rest38
                  case hy38 =>
                    intro w' hS
                    go_simp
                    try with_reducible rfl
                  try simp only [Act.put, List.setIfInBounds_toArray, List.set_cons_zero, List.set_cons_succ]
                  refine' wpAnyT_take (i := 5) (v := _) hZ (op_at' rfl) (by rfl) (by kernel_rfl) (by kernel_rfl) (by kernel_rfl) (by kernel_rfl) (fun _ _ _ h => h) (Or.inl ⟨by rfl, ?hy39⟩) (by assumption) ?rest39
                  case hy39 =>
                    intro w' hS
                    go_simp
                    try with_reducible rfl
                  try simp only [Act.put, List.setIfInBounds_toArray, List.set_cons_zero, List.set_cons_succ]
                  refine' wpAnyT_take (i := 6) (v := _) hZ (op_at' rfl) (by rfl) (by kernel_rfl) (by kernel_rfl) (by kernel_rfl) (by kernel_rfl) (fun _ _ _ h => h) (Or.inl ⟨by rfl, ?hy40⟩) (by assumption) ?rest40
                  case hy40 =>
                    intro w' hS
                    go_simp
                    try with_reducible rfl
                  try simp only [Act.put, List.setIfInBounds_toArray, List.set_cons_zero, List.set_cons_succ]
                  refine' wpAnyT_take (i := 7) (v := _) hZ (op_at' rfl) (by rfl) (by kernel_rfl) (by kernel_rfl) (by kernel_rfl) (by kernel_rfl) (fun _ _ _ h => h) (Or.inl ⟨by rfl, ?hy41⟩) (by assumption) ?rest41
                  case hy41 =>
                    intro w' hS
                    have q_ := (HQ.out w' ((oM.trans (Only.drew wr [])).trans hS)).2.2.2.2.2.1
                    rw [Hv.out] at q_
                    go_simp
                    try with_reducible rfl
                  try simp only [Act.put, List.setIfInBounds_toArray, List.set_cons_zero, List.set_cons_succ]
                  refine' wpAnyT_take (i := 8) (v := _) hZ (op_at' rfl) (by rfl) (by kernel_rfl) (by kernel_rfl) (by kernel_rfl) (by kernel_rfl) (fun _ _ _ h => h) (Or.inl ⟨by rfl, ?hy42⟩) (by assumption) ?rest42
                  case hy42 =>
                    intro w' hS
                    go_simp
                    try with_reducible rfl
                  try simp only [Act.put, List.setIfInBounds_toArray, List.set_cons_zero, List.set_cons_succ]
                  refine' wpAnyT_take (i := 9) (v := _) hZ (op_at' rfl) (by rfl) (by kernel_rfl) (by kernel_rfl) (by kernel_rfl) (by kernel_rfl) (fun _ _ _ h => h) (Or.inl ⟨by rfl, ?hy43⟩) (by assumption) ?rest43
                  case hy43 =>
                    intro w' hS
                    go_simp
                    try with_reducible rfl
                  try simp only [Act.put, List.setIfInBounds_toArray, List.set_cons_zero, List.set_cons_succ]
                  refine' wpAnyT_take (i := 10) (v := _) hZ (op_at' rfl) (by rfl) (by kernel_rfl) (by kernel_rfl) (by kernel_rfl) (by kernel_rfl) (fun _ _ _ h => h) (Or.inl ⟨by rfl, ?hy44⟩) (by assumption) ?rest44
                  case hy44 =>
                    intro w' hS
                    go_simp
                    try with_reducible rfl
                  try simp only [Act.put, List.setIfInBounds_toArray, List.set_cons_zero, List.set_cons_succ]
                  refine' wpAnyT_take (i := 11) (v := _) hZ (op_at' rfl) (by rfl) (by kernel_rfl) (by kernel_rfl) (by kernel_rfl) (by kernel_rfl) (fun _ _ _ h => h) (Or.inl ⟨by rfl, ?hy45⟩) (by assumption) ?rest45
                  case hy45 =>
                    intro w' hS
                    go_simp
                    try with_reducible rfl
                  try simp only [Act.put, List.setIfInBounds_toArray, List.set_cons_zero, List.set_cons_succ]
                  refine wpAnyT_take (i := 12) hZ (op_at' rfl) (by rfl) (by kernel_rfl) (by kernel_rfl) (by kernel_rfl) (by kernel_rfl) (fun _ _ _ h => h) (yieldsIf_load_mid (by rfl) _ _ rfl gb (j * 10) rfl (bc b) _ (fun w' hS => (HQ.out w' ((oM.trans (Only.drew wr [])).trans hS)).2.2.2.2.2.2) Try.underlying40 (by rfl) (by rw [bc_len]; kernel_rfl)) (by assumption) ?_
                  try simp only [Act.put, List.setIfInBounds_toArray, List.set_cons_zero, List.set_cons_succ]
                  refine' wpAnyT_take (i := 13) (v := _) hZ (op_at' rfl) (by rfl) (by kernel_rfl) (by kernel_rfl) (by kernel_rfl) (by kernel_rfl) (fun _ _ _ h => h) (Or.inl ⟨by rfl, ?hy47⟩) (by assumption) ?rest47
                  case hy47 =>
                    intro w' hS
                    go_simp
                    try with_reducible rfl
                  try simp only [Act.put, List.setIfInBounds_toArray, List.set_cons_zero, List.set_cons_succ]
                  refine wpAnyT_last (by kernel_rfl) (op_at' rfl) (by kernel_rfl) (fun K hK => ?_)
                  refine step_store_o (by rfl) 40 _ _ (by rfl) gv off (i * 10) (.agg (bc b).toArray) (bc b) (by rfl) 40 10 n cv _ (by rfl) (by rfl) q1 (by rw [bc_len]; exact hiw) (by rw [bc_len]; kernel_rfl) (bc_one b) (fun w14 o14 s14 => ?_)
                  go_wp2_with fail
                  refine hK.out _ _ ?_
                  clear hK K
                  try simp only [Act.put, List.setIfInBounds_toArray, List.set_cons_zero, List.set_cons_succ]
                  clear q1 hHeld hZ
                  go_wp2_with fail
                  have q2 : Pw.Sep w0 w14 (oo { xc with os := xc.os.set i b } :: many (((ms.set k xc).map oo).eraseIdx k) :: row 85 18 (.slice (some ⟨mg, 0, none⟩) ms.length c) ms.length (fl rlc (ms.set k { xc with os := xc.os.set i b })) :: blk S [.slice (some ⟨mg, 0, none⟩) ms.length c, .slice none 0 0] 53 :: row 40 10 (.slice (some ⟨gb, 0, none⟩) bs.length cb) bs.length (fl bc bs) :: rs) := by
                    show Pw.Sep w0 w14 (rowO 40 10 xc.v (xc.os.set i b).length (fl bc (xc.os.set i b)) :: _)
                    rw [List.length_set, ← Hs.out, ← Hl.out, Hv.out, ← Hn.out]
                    exact s14
                  have q3 := q2.putk k hkm
                  rw [Hmany.out] at q3
                  exact ⟨⟨j + 1, { xc with os := xc.os.set i b }, by simp, by omega, Hx.out.1, Hx.out.2.1, Hx.out.2.2, by rw [Hfold.out, Hp.out], by simpa using hxos, hun, q3.sel 4 [1, 2, 0, 3]⟩, by simp [intOf]; omega⟩
                · rw [if_neg hix]
                  have hio : ¬ fi < xc.os.length := by rw [← Hn.out]; exact hix
                  obtain ⟨n, rfl⟩ : ∃ n, n = m := ⟨_, rfl⟩
                  by_cases hlt : n < 16
                  · have dlt : decide ((n : Int) < 16) = true := by simp; omega
                    have Hp : Hid (pubS (xc.b, xc.os) b = (xc.b, xc.os ++ [b])) := by
                      show _ = _
                      have h1 := Hfi.out
                      have h2 : xc.os.length < 16 := by rw [← Hn.out]; exact hlt
                      simp only [pubS, hbh]
                      rw [if_neg (by simp), ← h1, if_neg hio, if_pos h2]
                    rw [Hp.out] at hun
                    have q1 : Pw.Sep w0 wr.drew (rowO 40 10 (.slice av n cv) n (fl bc xc.os) :: many (((ms.set k xc).map oo).eraseIdx k) :: row 85 18 (.slice (some ⟨mg, 0, none⟩) ms.length c) ms.length (fl rlc (ms.set k xc)) :: blk S [.slice (some ⟨mg, 0, none⟩) ms.length c, .slice none 0 0] 53 :: row 40 10 (.slice (some ⟨gb, 0, none⟩) bs.length cb) bs.length (fl bc bs) :: rs) := by
                      have h1 := ((sM.quiet (Only.drew wr [])).sel 4 [2, 0, 1, 3]).pick k Hpk.out
                      unfold oo at h1
                      rw [← Hn.out, Hv.out] at h1
                      exact h1
                    have HQ2 : Hid (∀ w', Only wr.drew w' (Value.ownBlock (.slice av n cv)).toList → w'.cell? ⟨S, 0, none⟩ = some (.slice (some ⟨mg, 0, none⟩) ms.length c) ∧ w'.cell? ⟨mg, k * 18 + 13, none⟩ = some (.slice av n cv) ∧ w'.rangeAt gb (j * 10) (bc b)) := fun w' o => by
                      refine ⟨?_, ?_, ?_⟩
                      · exact cell_two0 (show w'.heap[S]? = _ from Res.only (q1.sel 4 [3]).head o (fun i hi hm => q1.two_at (i := 0) (j := 3) rfl rfl (by decide) i (by simpa [rowO] using hm) hi))
                      · rw [← Hv.out]
                        exact (Hrow.out w' (Res.only (q1.sel 3 [2]).head o (fun i hi hm => q1.two_at (i := 0) (j := 2) rfl rfl (by decide) i (by simpa [rowO] using hm) hi))).2
                      · exact Hrng.out w' (Res.only (q1.sel 5 [4]).head o (fun i hi hm => q1.two_at (i := 0) (j := 4) rfl rfl (by decide) i (by simpa [rowO] using hm) hi))
                    clear sM hs Hfi hfn hix hio
                    go_upto_region 24 with fail
                    refine wp_region_t (S := fun w' => Only wr.drew w' (Value.ownBlock (.slice av n cv)).toList) 21 (by kernel_rfl) (by kernel_rfl) (Only.refl _ _) (fun hZ hHeld => ?_)
                    refine' wpAnyT_take (i := 0) (v := _) hZ (op_at' rfl) (by rfl) (by kernel_rfl) (by kernel_rfl) (by kernel_rfl) (by kernel_rfl) (fun _ _ _ h => h) (Or.inl ⟨by rfl, ?hy48⟩) (by assumption) ?rest48
                    case hy48 =>
                      intro w' hS
                      go_simp
                      try with_reducible rfl
                    try simp only [Act.put, List.setIfInBounds_toArray, List.set_cons_zero, List.set_cons_succ]
                    refine' wpAnyT_take (i := 1) (v := _) hZ (op_at' rfl) (by rfl) (by kernel_rfl) (by kernel_rfl) (by kernel_rfl) (by kernel_rfl) (fun _ _ _ h => h) (Or.inl ⟨by rfl, ?hy49⟩) (by assumption) ?rest49
                    case hy49 =>
                      intro w' hS
                      go_simp
                      try with_reducible rfl
                    try simp only [Act.put, List.setIfInBounds_toArray, List.set_cons_zero, List.set_cons_succ]
                    refine' wpAnyT_take (i := 2) (v := _) hZ (op_at' rfl) (by rfl) (by kernel_rfl) (by kernel_rfl) (by kernel_rfl) (by kernel_rfl) (fun _ _ _ h => h) (Or.inl ⟨by rfl, ?hy50⟩) (by assumption) ?rest50
                    case hy50 =>
                      intro w' hS
                      go_simp
                      try with_reducible rfl
                    try simp only [Act.put, List.setIfInBounds_toArray, List.set_cons_zero, List.set_cons_succ]
                    refine' wpAnyT_take (i := 3) (v := _) hZ (op_at' rfl) (by rfl) (by kernel_rfl) (by kernel_rfl) (by kernel_rfl) (by kernel_rfl) (fun _ _ _ h => h) (Or.inl ⟨by rfl, ?hy51⟩) (by assumption) ?rest51
                    case hy51 =>
                      intro w' hS
                      have q_ := (HQ2.out w' hS).1
                      go_simp
                      try with_reducible rfl
                    try simp only [Act.put, List.setIfInBounds_toArray, List.set_cons_zero, List.set_cons_succ]
                    refine' wpAnyT_take (i := 4) (v := _) hZ (op_at' rfl) (by rfl) (by kernel_rfl) (by kernel_rfl) (by kernel_rfl) (by kernel_rfl) (fun _ _ _ h => h) (Or.inl ⟨by rfl, ?hy52⟩) (by assumption) ?rest52
                    case hy52 =>
                      intro w' hS
                      go_simp
                      try with_reducible rfl
                    try simp only [Act.put, List.setIfInBounds_toArray, List.set_cons_zero, List.set_cons_succ]
                    refine' wpAnyT_take (i := 5) (v := _) hZ (op_at' rfl) (by rfl) (by kernel_rfl) (by kernel_rfl) (by kernel_rfl) (by kernel_rfl) (fun _ _ _ h => h) (Or.inl ⟨by rfl, ?hy53⟩) (by assumption) ?rest53
                    case hy53 =>
                      intro w' hS
                      go_simp
                      try with_reducible rfl
                    try simp only [Act.put, List.setIfInBounds_toArray, List.set_cons_zero, List.set_cons_succ]
                    refine' wpAnyT_take (i := 6) (v := _) hZ (op_at' rfl) (by rfl) (by kernel_rfl) (by kernel_rfl) (by kernel_rfl) (by kernel_rfl) (fun _ _ _ h => h) (Or.inl ⟨by rfl, ?hy54⟩) (by assumption) ?rest54
                    case hy54 =>
                      intro w' hS
                      go_simp
                      try with_reducible rfl
                    try simp only [Act.put, List.setIfInBounds_toArray, List.set_cons_zero, List.set_cons_succ]
                    refine' wpAnyT_take (i := 7) (v := _) hZ (op_at' rfl) (by rfl) (by kernel_rfl) (by kernel_rfl) (by kernel_rfl) (by kernel_rfl) (fun _ _ _ h => h) (Or.inl ⟨by rfl, ?hy55⟩) (by assumption) ?rest55
                    case hy55 =>
                      intro w' hS
                      go_simp
                      try with_reducible rfl
                    try simp only [Act.put, List.setIfInBounds_toArray, List.set_cons_zero, List.set_cons_succ]
                    refine' wpAnyT_take (i := 8) (v := _) hZ (op_at' rfl) (by rfl) (by kernel_rfl) (by kernel_rfl) (by kernel_rfl) (by kernel_rfl) (fun _ _ _ h => h) (Or.inl ⟨by rfl, ?hy56⟩) (by assumption) ?rest56
                    case hy56 =>
                      intro w' hS
                      have q_ := (HQ2.out w' hS).1
                      go_simp
                      try with_reducible rfl
                    try simp only [Act.put, List.setIfInBounds_toArray, List.set_cons_zero, List.set_cons_succ]
                    refine' wpAnyT_take (i := 9) (v := _) hZ (op_at' rfl) (by rfl) (by kernel_rfl) (by kernel_rfl) (by kernel_rfl) (by kernel_rfl) (fun _ _ _ h => h) (Or.inl ⟨by rfl, ?hy57⟩) (by assumption) ?rest57
                    case hy57 =>
                      intro w' hS
                      go_simp
                      try with_reducible rfl
                    try simp only [Act.put, List.setIfInBounds_toArray, List.set_cons_zero, List.set_cons_succ]
                    refine' wpAnyT_take (i := 10) (v := _) hZ (op_at' rfl) (by rfl) (by kernel_rfl) (by kernel_rfl) (by kernel_rfl) (by kernel_rfl) (fun _ _ _ h => h) (Or.inl ⟨by rfl, ?hy58⟩) (by assumption) ?rest58
                    case hy58 =>
                      intro w' hS
                      go_simp
                      try with_reducible rfl
                    try simp only [Act.put, List.setIfInBounds_toArray, List.set_cons_zero, List.set_cons_succ]
                    refine' wpAnyT_take (i := 11) (v := _) hZ (op_at' rfl) (by rfl) (by kernel_rfl) (by kernel_rfl) (by kernel_rfl) (by kernel_rfl) (fun _ _ _ h => h) (Or.inl ⟨by rfl, ?hy59⟩) (by assumption) ?rest59
                    case hy59 =>
                      intro w' hS
                      go_simp
                      try with_reducible rfl
                    try simp only [Act.put, List.setIfInBounds_toArray, List.set_cons_zero, List.set_cons_succ]
                    refine' wpAnyT_take (i := 12) (v := _) hZ (op_at' rfl) (by rfl) (by kernel_rfl) (by kernel_rfl) (by kernel_rfl) (by kernel_rfl) (fun _ _ _ h => h) (Or.inl ⟨by rfl, ?hy60⟩) (by assumption) ?rest60
                    case hy60 =>
                      intro w' hS
                      have q_ := (HQ2.out w' hS).2.1
                      go_simp
                      try with_reducible rfl
                    try simp only [Act.put, List.setIfInBounds_toArray, List.set_cons_zero, List.set_cons_succ]
                    refine' wpAnyT_take (i := 13) (v := _) hZ (op_at' rfl) (by rfl) (by kernel_rfl) (by kernel_rfl) (by kernel_rfl) (by kernel_rfl) (fun _ _ _ h => h) (Or.inl ⟨by rfl, ?hy61⟩) (by assumption) ?rest61
                    case hy61 =>
                      intro w' hS
                      go_simp
                      try with_reducible rfl
                    try simp only [Act.put, List.setIfInBounds_toArray, List.set_cons_zero, List.set_cons_succ]
                    refine' wpAnyT_take (i := 14) (v := _) hZ (op_at' rfl) (by rfl) (by kernel_rfl) (by kernel_rfl) (by kernel_rfl) (by kernel_rfl) (fun _ _ _ h => h) (Or.inl ⟨by rfl, ?hy62⟩) (by assumption) ?rest62
                    case hy62 =>
                      intro w' hS
                      go_simp
                      try with_reducible rfl
                    try simp only [Act.put, List.setIfInBounds_toArray, List.set_cons_zero, List.set_cons_succ]
                    refine' wpAnyT_take (i := 15) (v := _) hZ (op_at' rfl) (by rfl) (by kernel_rfl) (by kernel_rfl) (by kernel_rfl) (by kernel_rfl) (fun _ _ _ h => h) (Or.inl ⟨by rfl, ?hy63⟩) (by assumption) ?rest63
                    case hy63 =>
                      intro w' hS
                      go_simp
                      try with_reducible rfl
                    try simp only [Act.put, List.setIfInBounds_toArray, List.set_cons_zero, List.set_cons_succ]
                    refine wpAnyT_take (i := 16) hZ (op_at' rfl) (by rfl) (by kernel_rfl) (by kernel_rfl) (by kernel_rfl) (by kernel_rfl) (fun _ _ _ h => h) (yieldsIf_load_mid (by rfl) _ _ rfl gb (j * 10) rfl (bc b) _ (fun w' hS => (HQ2.out w' hS).2.2) Try.underlying40 (by rfl) (by rw [bc_len]; kernel_rfl)) (by assumption) ?_
                    try simp only [Act.put, List.setIfInBounds_toArray, List.set_cons_zero, List.set_cons_succ]
                    refine wpAnyT_one (i := 17) (by kernel_rfl) (op_at' rfl) (fun K hK => ?_)
                    refine step_buildSlice_one (by rfl) 42 _ (by rfl) 40 i0 _ (bc b) (by rfl) Try.underlying42 hi0 hz0 (by rw [hz1, bc_len]) (by rw [bc_len]; rfl) (by rw [bc_len]; decide) (by rw [bc_len]; decide) (fun Y wS oS hYl hYS => ?_)
                    go_wp2_with fail
                    refine hK.out _ _ (oS.mono (by simp)) (fun hHeld => ?_)
                    clear hK K
                    try simp only [Act.put, List.setIfInBounds_toArray, List.set_cons_zero, List.set_cons_succ]
                    refine wpAnyT_one (i := 18) (by kernel_rfl) (op_at' rfl) (fun K hK => ?_)
                    refine step_append_o (by rfl) _ _ 42 (by rfl) 40 i0 _ 10 152 Try.underlying42 hi0 hz0 hz1 hz2 rfl (by decide) (.slice av n cv) n _ (by rfl) (q1.quiet oS) _ 1 (bc b) (by rfl) (src_blk hYS (by rw [bc_len])) (by decide) (bc_one b) (by unfold maxLen; omega) (by omega) (fun v8 w8 o8 s8 => ?_)
                    have hok8 : OwnO w8 40 10 v8 (n + 1) (fl bc xc.os ++ bc b) := s8.head
                    have h18 : v8.oneCell' = true := hok8.one
                    go_wp2_with fail
                    refine hK.out _ _ ((oS.mono (by simp)).trans o8) (fun hHeld => ?_)
                    clear hK K
                    try simp only [Act.put, List.setIfInBounds_toArray, List.set_cons_zero, List.set_cons_succ]
                    refine' wpAnyT_take (i := 19) (v := _) hZ (op_at' rfl) (by rfl) (by kernel_rfl) (by kernel_rfl) (by kernel_rfl) (by kernel_rfl) (fun _ _ _ h => h) (Or.inl ⟨by rfl, ?hy65⟩) (by assumption) ?rest65
                    case hy65 =>
                      intro w' hS
                      go_simp
                      try with_reducible rfl
                    try simp only [Act.put, List.setIfInBounds_toArray, List.set_cons_zero, List.set_cons_succ]
                    refine' wpAnyT_take (i := 20) (v := _) hZ (op_at' rfl) (by rfl) (by kernel_rfl) (by kernel_rfl) (by kernel_rfl) (by kernel_rfl) (fun _ _ _ h => h) (Or.inl ⟨by rfl, ?hy66⟩) (by assumption) ?rest66
                    case hy66 =>
                      intro w' hS
                      go_simp
                      try with_reducible rfl
                    try simp only [Act.put, List.setIfInBounds_toArray, List.set_cons_zero, List.set_cons_succ]
                    refine wpAnyT_last (by kernel_rfl) (op_at' rfl) (by kernel_rfl) (fun K hK => ?_)
                    refine step_store_rec (by rfl) 42 _ _ (by rfl) mg (k * 18 + 13) v8 [v8] (cells_one h18) 85 18 ms.length c _ (by rfl) (by rfl) (s8.sel 3 [2, 0, 1]) (by simp; omega) (by kernel_rfl) (by simpa using h18) (fun w9 o9 s9 => ?_)
                    go_wp2_with fail
                    refine hK.out _ _ ?_
                    clear hK K
                    try simp only [Act.put, List.setIfInBounds_toArray, List.set_cons_zero, List.set_cons_succ]
                    clear q1 hHeld hZ s8
                    go_wp2_with fail
                    have q2 : Pw.Sep w0 w9 (oo { xc with v := v8, os := xc.os ++ [b], ok := h18 } :: many (((ms.set k xc).map oo).eraseIdx k) :: row 85 18 (.slice (some ⟨mg, 0, none⟩) ms.length c) ms.length (fl rlc (ms.set k { xc with v := v8, os := xc.os ++ [b], ok := h18 })) :: blk S [.slice (some ⟨mg, 0, none⟩) ms.length c, .slice none 0 0] 53 :: row 40 10 (.slice (some ⟨gb, 0, none⟩) bs.length cb) bs.length (fl bc bs) :: rs) := by
                      show Pw.Sep w0 w9 (rowO 40 10 v8 (xc.os ++ [b]).length (fl bc (xc.os ++ [b])) :: _)
                      rw [fl_snoc, List.length_append, List.length_singleton, ← Hn.out, ← Hmid.out { xc with v := v8, os := xc.os ++ [b], ok := h18 } 13 [v8] (by simp) rfl]
                      exact s9.sel 3 [1, 2, 0]
                    have q3 := q2.putk k hkm
                    rw [Hmany.out { xc with v := v8, os := xc.os ++ [b], ok := h18 }] at q3
                    exact ⟨⟨j + 1, { xc with v := v8, os := xc.os ++ [b], ok := h18 }, by simp, by omega, Hx.out.1, Hx.out.2.1, Hx.out.2.2, by rw [Hfold.out, Hp.out], by rw [List.length_append, List.length_singleton, ← Hn.out]; omega, hun, q3.sel 4 [1, 2, 0, 3]⟩, by simp [intOf]; omega⟩
                  · have dlt : decide ((n : Int) < 16) = false := by simp; omega
                    have Hp : Hid (pubS (xc.b, xc.os) b = (xc.b, xc.os)) := by
                      show _ = _
                      have h1 := Hfi.out
                      have h2 : ¬ xc.os.length < 16 := by rw [← Hn.out]; exact hlt
                      simp only [pubS, hbh]
                      rw [if_neg (by simp), ← h1, if_neg hio, if_neg h2]
                    go_wp2_with fail
                    exact ⟨⟨j + 1, xc, by simp, by omega, Hx.out.1, Hx.out.2.1, Hx.out.2.2, by rw [Hfold.out, Hp.out], hxos, hxn, sM⟩, by simp [intOf]; omega⟩
        · obtain rfl : j = bs.length := by omega
          have d1 : decide ((bs.length : Int) < bs.length) = false := by simp
          rw [List.take_length] at hfold
          have Hx := Lib.hid (And.intro hxu (And.intro hxd (And.intro hxon (And.intro hfold (And.intro hxos hxn)))))
          have hll' : (ms.set k xc).length = ms.length := List.length_set ..
          clear hfold hxu hxd hxon hxos
          go_wp2_with fail
          go_ret
          exact ⟨rfl, xc, Hx.out.1, Hx.out.2.1, Hx.out.2.2.1, Hx.out.2.2.2.1, Hx.out.2.2.2.2.1, Hx.out.2.2.2.2.2, by simp only [refR]; rw [hll']; exact hs⟩
end Go.Proofs.Yteljkfihmbddaaa
