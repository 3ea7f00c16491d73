/- The reference's Add (layer 17). Printed by gen_rfh.py (with rfh.txt). -/
import Derived.Test.YteljkfihmbddaaaRfG
set_option linter.unusedSimpArgs false
set_option linter.unusedVariables false
namespace Go.Proofs.Yteljkfihmbddaaa
open Go.RowKit Go.Pw
set_option linter.unusedVariables false

def rn (u d : Int) : Rl := ⟨u, d, true, b0, .slice none 0 0, [], rfl⟩
theorem ln_info : (Try.prog.info? 85).map (fun i => (i.zero, i.size, i.bytes)) = some (some (.agg (rlc ⟨0, 0, false, b0, .slice none 0 0, [], rfl⟩).toArray), 18, 240) := by kernel_rfl
theorem any_succ {α : Type} (p : α → Bool) {l : List α} {i : Nat} (hi : i < l.length) : (l.take (i + 1)).any p = ((l.take i).any p || p l[i]) := by
  rw [List.take_succ_eq_append_getElem hi, List.any_append]
  simp
/-- May a device be added? -/
def addOk (u d m : Int) (bs : List Bu) : Bool := decide (m = d) && bs.any (fun x => !x.has) && !bs.any (other u d)
/-- What the reference's Add leaves: Next told (u, m). -/
def RAdded (w0 : World) (rs : List Res) (S : Nat) (ms : List Rl) (u d m : Int) (vb : Value) (bs : List Bu) (w : World) (e : Ending) (w' : World) : Prop :=
  if addOk u d m bs = true then e = .returned (.int .i64 0) ∧ ∃ (v' : Value) (x' : Rl), x'.u = u ∧ x'.d = d ∧ x'.on = true ∧ (x'.b, x'.os) = bs.foldl pubS (b0, []) ∧ x'.os.length ≤ 16 ∧ (x'.os.map (·.on)).Nodup ∧ Pw.Sep w0 w' (refR S v' (ms ++ [x']) (row 40 10 vb bs.length (fl bc bs) :: rs))
  else e = .returned (.int .i64 1) ∧ Only w w' []

set_option maxRecDepth 100000 in
set_option maxHeartbeats 1600000 in
theorem radd_err {w0 : World} {rs : List Res} (S : Nat) (ms : List Rl) (v : Value) (u d : Int) (vb : Value) (w : World) (h : Pw.Sep w0 w (refR S v ms rs)) (hl : ms.length ≤ 1000) (er : Int) (her : er = 1 ∨ er = 3) (hn : rnx ms u = ((0, 0), er)) :
    Calls Try.prog 17 #[.pointer (some ⟨S, 0, none⟩), wv u d, vb] w fun e w' => e = .returned (.int .i64 er) ∧ Only w w' [] := by
  have HN := fun (w' : World) (o : Only w w' []) => rnext_any S ms v u w' (h.quiet o) hl
  rw [hn] at HN
  clear h
  simp only [wv] at *
  have h1c : ([.int .i64 0, .int .i64 0] : List Value).toArray.all (·.oneCell') = true := by simp [Value.oneCell']
  go_enter Try.func17, Try.ntmps17
  go_wp2_with (refine wpList_box_new rfl 30 _ rfl (.agg #[.int .i64 u, .int .i64 d]) rfl ?_; intro Z wZ oZ hZl hZ; have z0 := cell_two0 hZ; have z1 := cell_two1 hZ)
  refine (HN _ oZ).mono ?_
  rintro e w1 ⟨rfl, o1⟩
  clear HN z0 z1 hZ
  have oB := oZ.trans o1
  clear oZ o1
  go_wp2_with (first
    | (refine wpList_alloc_new rfl 30 rfl (.agg #[.int .i64 0, .int .i64 0]) (fun _ => by kernel_rfl) ?_; intro X wX oX hXl hX)
    | (refine wpList_store_blk rfl 30 _ _ rfl X [.int .i64 0, .int .i64 0] rfl rfl hX rfl (by kernel_rfl) h1c ?_; intro wY oY hY; have oC := oB.trans (oX.new oY (fun i hi => by simp only [List.mem_singleton] at hi; omega))))
  rcases her with rfl | rfl
  all_goals
    go_wp2_with fail
    go_ret
    exact ⟨rfl, oC⟩

set_option maxRecDepth 100000 in
set_option maxHeartbeats 1600000 in
theorem radd_any {w0 : World} {rs : List Res} (S : Nat) (ms : List Rl) (v : Value) (u d : Int) (vb : Value) (bs : List Bu) (w : World) (h : Pw.Sep w0 w (refR S v ms (row 40 10 vb bs.length (fl bc bs) :: rs))) (hl : ms.length ≤ 900) (hbl : bs.length ≤ 1000) (m : Int) (hn : rnx ms u = ((u, m), 0)) (hnf : ∀ x ∈ ms, ¬ (x.u = u ∧ x.d = m)) :
    Calls Try.prog 17 #[.pointer (some ⟨S, 0, none⟩), wv u d, vb] w (RAdded w0 rs S ms u d m vb bs w) := by
  obtain ⟨i0, hi0, hz0, hz1, hz2⟩ := info_parts ln_info
  obtain ⟨vv, hvv⟩ : ∃ vv, vv = v := ⟨_, rfl⟩
  rw [← hvv] at h
  clear hvv
  have hvb : w.ownsRow 0 40 10 vb bs.length (fl bc bs) := (h.sel 4 [3]).head
  obtain ⟨ab, cb, rfl⟩ := own_slice hvb
  have HS := fun (hp : 0 < bs.length) => src_rec bc_len (by decide) (own_src hvb) hp
  clear hvb
  have HN := fun (w' : World) (o : Only w w' []) => rnext_any S ms vv u w' (h.quiet o) (by omega)
  rw [hn] at HN
  simp only [wv] at *
  have h1c : ([.int .i64 u, .int .i64 m] : List Value).toArray.all (·.oneCell') = true := by simp [Value.oneCell']
  have Hnf := Lib.hid hnf
  clear hnf hn
  go_enter Try.func17, Try.ntmps17
  go_wp2_with (refine wpList_box_new rfl 30 _ rfl (.agg #[.int .i64 u, .int .i64 d]) rfl ?_; intro Z wZ oZ hZl hZ; have z0 := cell_two0 hZ; have z1 := cell_two1 hZ)
  refine (HN _ oZ).mono ?_
  rintro e w1 ⟨rfl, o1⟩
  clear HN z0 z1
  have hZ1 := o1.at hZ (by simp)
  have sA := (h.add (b := blk Z [.int .i64 u, .int .i64 d] 30) oZ hZ (fun k hk => by simp [blk] at hk; omega)).quiet o1
  have oB := oZ.trans o1
  clear oZ o1 hZ h
  go_wp2_with (first
    | (refine wpList_alloc_new rfl 30 rfl (.agg #[.int .i64 0, .int .i64 0]) (fun _ => by kernel_rfl) ?_; intro X wX oX hXl hX)
    | (refine wpList_store_blk rfl 30 _ _ rfl X [.int .i64 u, .int .i64 m] rfl rfl hX rfl (by kernel_rfl) h1c ?_; intro wY oY hY; have oF := oX.new oY (fun i hi => by simp only [List.mem_singleton] at hi; omega); have sB := sA.quiet oF; have oC := oB.trans oF))
  have hZY := oF.at hZ1 (by simp)
  clear sA hX oX oY oF oB hZ1
  go_loopw [9, 10, 11] (fun a c y wr => ∃ (i : Nat) (s o : Bool), y = .int .i64 i ∧ i ≤ bs.length ∧ a = .bool s ∧ c = .bool o ∧ Hid (s = (bs.take i).any fun x => !x.has) ∧ Hid (o = (bs.take i).any (other u d)) ∧ Only wY wr []) (fun _ _ y _ => bs.length - (intOf y).toNat)
  case atStart => exact ⟨0, false, false, rfl, Nat.zero_le _, rfl, rfl, rfl, rfl, Only.refl _ _⟩
  case round =>
    obtain ⟨i, s, o, rfl, hi, rfl, rfl, Es, Eo, oR⟩ := hrel
    by_cases hil : i < bs.length
    · have d1 : decide ((i : Int) < bs.length) = true := by simpa using hil
      obtain ⟨gb, ob, rfl, HR0⟩ := HS (by omega)
      have HQ : Hid (∀ w', Only wr w' [] → w'.cell? ⟨gb, ob + i * 10 + 7, none⟩ = some (.bool bs[i].has) ∧ w'.cell? ⟨gb, ob + i * 10, none⟩ = some (.int .i64 bs[i].u) ∧ w'.cell? ⟨gb, ob + i * 10 + 1, none⟩ = some (.int .i64 bs[i].d) ∧ w'.cell? ⟨Z, 0, none⟩ = some (.int .i64 u) ∧ w'.cell? ⟨Z, 1, none⟩ = some (.int .i64 d) ∧ True) := fun w' o' => by
        have r := HR0 w' ((oC.trans oR).trans o') i hil
        have z := (oR.trans o').at hZY (by simp)
        exact ⟨r 7 _ rfl, r 0 _ rfl, r 1 _ rfl, cell_two0 z, cell_two1 z, trivial⟩
      have hjI : (0 : Int) ≤ (i : Int) ∧ (i : Int) < bs.length := by omega
      clear HS HR0 sB hZY hY oC
      cases s with
      | true =>
        cases o with
        | true =>
          have HS1 := Lib.hid (any_succ (fun x : Bu => !x.has) hil)
          have HO1 := Lib.hid (any_succ (other u d) hil)
          go_upto_region 10 with fail
          refine wp_region_held_drew (S := fun w' => Only wr.drew w' []) (by kernel_rfl) (Only.refl _ _) (fun hHeld => ?_)
          refine' wpAnyH_take (i := 0) (v := _) (op_at rfl) (by kernel_rfl) (by kernel_rfl) (by kernel_rfl) (fun _ _ _ h => h) (Or.inl ⟨by rfl, ?hy1⟩) (by assumption) ?rest1
          case hy1 =>
            intro w' hS
            go_simp
            try with_reducible rfl
          try simp only [Act.put, List.setIfInBounds_toArray, List.set_cons_zero, List.set_cons_succ]
          refine' wpAnyH_take (i := 1) (v := _) (op_at rfl) (by kernel_rfl) (by kernel_rfl) (by kernel_rfl) (fun _ _ _ h => h) (Or.inl ⟨by rfl, ?hy2⟩) (by assumption) ?rest2
          case hy2 =>
            intro w' hS
            go_simp
            try with_reducible rfl
          try simp only [Act.put, List.setIfInBounds_toArray, List.set_cons_zero, List.set_cons_succ]
          refine wpAnyH_take (i := 2) (v := undef) (op_at rfl) (by kernel_rfl) (by kernel_rfl) (by kernel_rfl) (fun _ _ _ h => h) (Or.inr ⟨by rfl, rfl⟩) (by assumption) ?_
          try simp only [Act.put, List.setIfInBounds_toArray, List.set_cons_zero, List.set_cons_succ]
          refine wpAnyH_take (i := 3) (v := undef) (op_at rfl) (by kernel_rfl) (by kernel_rfl) (by kernel_rfl) (fun _ _ _ h => h) (Or.inr ⟨by rfl, rfl⟩) (by assumption) ?_
          try simp only [Act.put, List.setIfInBounds_toArray, List.set_cons_zero, List.set_cons_succ]
          refine wpAnyH_take (i := 4) (v := undef) (op_at rfl) (by kernel_rfl) (by kernel_rfl) (by kernel_rfl) (fun _ _ _ h => h) (Or.inr ⟨by rfl, rfl⟩) (by assumption) ?_
          try simp only [Act.put, List.setIfInBounds_toArray, List.set_cons_zero, List.set_cons_succ]
          refine wpAnyH_take (i := 5) (v := undef) (op_at rfl) (by kernel_rfl) (by kernel_rfl) (by kernel_rfl) (fun _ _ _ h => h) (Or.inr ⟨by rfl, rfl⟩) (by assumption) ?_
          try simp only [Act.put, List.setIfInBounds_toArray, List.set_cons_zero, List.set_cons_succ]
          refine wpAnyH_take (i := 6) (v := undef) (op_at rfl) (by kernel_rfl) (by kernel_rfl) (by kernel_rfl) (fun _ _ _ h => h) (Or.inr ⟨by rfl, rfl⟩) (by assumption) ?_
          try simp only [Act.put, List.setIfInBounds_toArray, List.set_cons_zero, List.set_cons_succ]
          refine wpAnyH_take (i := 7) (v := undef) (op_at rfl) (by kernel_rfl) (by kernel_rfl) (by kernel_rfl) (fun _ _ _ h => h) (Or.inr ⟨by rfl, rfl⟩) (by assumption) ?_
          try simp only [Act.put, List.setIfInBounds_toArray, List.set_cons_zero, List.set_cons_succ]
          refine wpAnyH_take (i := 8) (v := undef) (op_at rfl) (by kernel_rfl) (by kernel_rfl) (by kernel_rfl) (fun _ _ _ h => h) (Or.inr ⟨by rfl, rfl⟩) (by assumption) ?_
          try simp only [Act.put, List.setIfInBounds_toArray, List.set_cons_zero, List.set_cons_succ]
          refine' wpAnyH_take (i := 9) (v := _) (op_at rfl) (by kernel_rfl) (by kernel_rfl) (by kernel_rfl) (fun _ _ _ h => h) (Or.inl ⟨by rfl, ?hy10⟩) (by assumption) ?rest10
          case hy10 =>
            intro w' hS
            go_simp
            try with_reducible rfl
          try simp only [Act.put, List.setIfInBounds_toArray, List.set_cons_zero, List.set_cons_succ]
          refine' wpAnyH_take (i := 10) (v := _) (op_at rfl) (by kernel_rfl) (by kernel_rfl) (by kernel_rfl) (fun _ _ _ h => h) (Or.inl ⟨by rfl, ?hy11⟩) (by assumption) ?rest11
          case hy11 =>
            intro w' hS
            go_simp
            try with_reducible rfl
          try simp only [Act.put, List.setIfInBounds_toArray, List.set_cons_zero, List.set_cons_succ]
          refine wpAnyH_done (by kernel_rfl) ?_ _
          go_wp2_with fail
          exact ⟨⟨i + 1, true, true, by simp, by omega, rfl, rfl, by
            show _ = _
            rw [HS1.out, ← Es.out]
            rfl, by
            show _ = _
            rw [HO1.out, ← Eo.out]
            rfl, (oR.trans (Only.drew wr [])).trans hHeld⟩, by simp [intOf]; omega⟩
        | false =>
          by_cases hu : bs[i].u = u
          · have HU := Lib.hid hu
            clear hu
            by_cases hd : bs[i].d = d
            · have HD := Lib.hid hd
              clear hd
              have HS1 := Lib.hid (any_succ (fun x : Bu => !x.has) hil)
              have HO1 := Lib.hid (any_succ (other u d) hil)
              go_upto_region 10 with fail
              refine wp_region_held_drew (S := fun w' => Only wr.drew w' []) (by kernel_rfl) (Only.refl _ _) (fun hHeld => ?_)
              refine' wpAnyH_take (i := 0) (v := _) (op_at rfl) (by kernel_rfl) (by kernel_rfl) (by kernel_rfl) (fun _ _ _ h => h) (Or.inl ⟨by rfl, ?hy34⟩) (by assumption) ?rest34
              case hy34 =>
                intro w' hS
                go_simp
                try with_reducible rfl
              try simp only [Act.put, List.setIfInBounds_toArray, List.set_cons_zero, List.set_cons_succ]
              refine' wpAnyH_take (i := 1) (v := _) (op_at rfl) (by kernel_rfl) (by kernel_rfl) (by kernel_rfl) (fun _ _ _ h => h) (Or.inl ⟨by rfl, ?hy35⟩) (by assumption) ?rest35
              case hy35 =>
                intro w' hS
                go_simp
                try with_reducible rfl
              try simp only [Act.put, List.setIfInBounds_toArray, List.set_cons_zero, List.set_cons_succ]
              refine' wpAnyH_take (i := 2) (v := _) (op_at rfl) (by kernel_rfl) (by kernel_rfl) (by kernel_rfl) (fun _ _ _ h => h) (Or.inl ⟨by rfl, ?hy36⟩) (by assumption) ?rest36
              case hy36 =>
                intro w' hS
                go_simp
                try with_reducible rfl
              try simp only [Act.put, List.setIfInBounds_toArray, List.set_cons_zero, List.set_cons_succ]
              refine' wpAnyH_take (i := 3) (v := _) (op_at rfl) (by kernel_rfl) (by kernel_rfl) (by kernel_rfl) (fun _ _ _ h => h) (Or.inl ⟨by rfl, ?hy37⟩) (by assumption) ?rest37
              case hy37 =>
                intro w' hS
                go_simp
                try with_reducible rfl
              try simp only [Act.put, List.setIfInBounds_toArray, List.set_cons_zero, List.set_cons_succ]
              refine' wpAnyH_take (i := 4) (v := _) (op_at rfl) (by kernel_rfl) (by kernel_rfl) (by kernel_rfl) (fun _ _ _ h => h) (Or.inl ⟨by rfl, ?hy38⟩) (by assumption) ?rest38
              case hy38 =>
                intro w' hS
                go_simp
                try with_reducible rfl
              try simp only [Act.put, List.setIfInBounds_toArray, List.set_cons_zero, List.set_cons_succ]
              refine' wpAnyH_take (i := 5) (v := _) (op_at rfl) (by kernel_rfl) (by kernel_rfl) (by kernel_rfl) (fun _ _ _ h => h) (Or.inl ⟨by rfl, ?hy39⟩) (by assumption) ?rest39
              case hy39 =>
                intro w' hS
                go_simp
                try with_reducible rfl
              try simp only [Act.put, List.setIfInBounds_toArray, List.set_cons_zero, List.set_cons_succ]
              refine' wpAnyH_take (i := 6) (v := _) (op_at rfl) (by kernel_rfl) (by kernel_rfl) (by kernel_rfl) (fun _ _ _ h => h) (Or.inl ⟨by rfl, ?hy40⟩) (by assumption) ?rest40
              case hy40 =>
                intro w' hS
                have b0_ := (HQ.out w' ((Only.drew wr []).trans hS)).2.1
                have b1_ := (HQ.out w' ((Only.drew wr []).trans hS)).2.2.1
                rw [HU.out] at b0_
                rw [HD.out] at b1_
                go_simp
                try with_reducible rfl
              try simp only [Act.put, List.setIfInBounds_toArray, List.set_cons_zero, List.set_cons_succ]
              refine' wpAnyH_take (i := 7) (v := _) (op_at rfl) (by kernel_rfl) (by kernel_rfl) (by kernel_rfl) (fun _ _ _ h => h) (Or.inl ⟨by rfl, ?hy41⟩) (by assumption) ?rest41
              case hy41 =>
                intro w' hS
                have z0 := (HQ.out w' ((Only.drew wr []).trans hS)).2.2.2.1
                have z1 := (HQ.out w' ((Only.drew wr []).trans hS)).2.2.2.2.1
                go_simp
                try with_reducible rfl
              try simp only [Act.put, List.setIfInBounds_toArray, List.set_cons_zero, List.set_cons_succ]
              refine' wpAnyH_take (i := 8) (v := _) (op_at rfl) (by kernel_rfl) (by kernel_rfl) (by kernel_rfl) (fun _ _ _ h => h) (Or.inl ⟨by rfl, ?hy42⟩) (by assumption) ?rest42
              case hy42 =>
                intro w' hS
                go_simp
                try with_reducible rfl
              try simp only [Act.put, List.setIfInBounds_toArray, List.set_cons_zero, List.set_cons_succ]
              refine' wpAnyH_take (i := 9) (v := _) (op_at rfl) (by kernel_rfl) (by kernel_rfl) (by kernel_rfl) (fun _ _ _ h => h) (Or.inl ⟨by rfl, ?hy43⟩) (by assumption) ?rest43
              case hy43 =>
                intro w' hS
                go_simp
                try with_reducible rfl
              try simp only [Act.put, List.setIfInBounds_toArray, List.set_cons_zero, List.set_cons_succ]
              refine' wpAnyH_take (i := 10) (v := _) (op_at rfl) (by kernel_rfl) (by kernel_rfl) (by kernel_rfl) (fun _ _ _ h => h) (Or.inl ⟨by rfl, ?hy44⟩) (by assumption) ?rest44
              case hy44 =>
                intro w' hS
                go_simp
                try with_reducible rfl
              try simp only [Act.put, List.setIfInBounds_toArray, List.set_cons_zero, List.set_cons_succ]
              refine wpAnyH_done (by kernel_rfl) ?_ _
              go_wp2_with fail
              exact ⟨⟨i + 1, true, false, by simp, by omega, rfl, rfl, by
                show _ = _
                rw [HS1.out, ← Es.out]
                rfl, by
                show _ = _
                rw [HO1.out, ← Eo.out]
                simp [other, HU.out, HD.out], (oR.trans (Only.drew wr [])).trans hHeld⟩, by simp [intOf]; omega⟩
            · have dd : decide (bs[i].d = d) = false := by simpa using hd
              have HS1 := Lib.hid (any_succ (fun x : Bu => !x.has) hil)
              have HO1 := Lib.hid (any_succ (other u d) hil)
              go_upto_region 10 with fail
              refine wp_region_held_drew (S := fun w' => Only wr.drew w' []) (by kernel_rfl) (Only.refl _ _) (fun hHeld => ?_)
              refine' wpAnyH_take (i := 0) (v := _) (op_at rfl) (by kernel_rfl) (by kernel_rfl) (by kernel_rfl) (fun _ _ _ h => h) (Or.inl ⟨by rfl, ?hy23⟩) (by assumption) ?rest23
              case hy23 =>
                intro w' hS
                go_simp
                try with_reducible rfl
              try simp only [Act.put, List.setIfInBounds_toArray, List.set_cons_zero, List.set_cons_succ]
              refine' wpAnyH_take (i := 1) (v := _) (op_at rfl) (by kernel_rfl) (by kernel_rfl) (by kernel_rfl) (fun _ _ _ h => h) (Or.inl ⟨by rfl, ?hy24⟩) (by assumption) ?rest24
              case hy24 =>
                intro w' hS
                go_simp
                try with_reducible rfl
              try simp only [Act.put, List.setIfInBounds_toArray, List.set_cons_zero, List.set_cons_succ]
              refine' wpAnyH_take (i := 2) (v := _) (op_at rfl) (by kernel_rfl) (by kernel_rfl) (by kernel_rfl) (fun _ _ _ h => h) (Or.inl ⟨by rfl, ?hy25⟩) (by assumption) ?rest25
              case hy25 =>
                intro w' hS
                go_simp
                try with_reducible rfl
              try simp only [Act.put, List.setIfInBounds_toArray, List.set_cons_zero, List.set_cons_succ]
              refine' wpAnyH_take (i := 3) (v := _) (op_at rfl) (by kernel_rfl) (by kernel_rfl) (by kernel_rfl) (fun _ _ _ h => h) (Or.inl ⟨by rfl, ?hy26⟩) (by assumption) ?rest26
              case hy26 =>
                intro w' hS
                go_simp
                try with_reducible rfl
              try simp only [Act.put, List.setIfInBounds_toArray, List.set_cons_zero, List.set_cons_succ]
              refine' wpAnyH_take (i := 4) (v := _) (op_at rfl) (by kernel_rfl) (by kernel_rfl) (by kernel_rfl) (fun _ _ _ h => h) (Or.inl ⟨by rfl, ?hy27⟩) (by assumption) ?rest27
              case hy27 =>
                intro w' hS
                go_simp
                try with_reducible rfl
              try simp only [Act.put, List.setIfInBounds_toArray, List.set_cons_zero, List.set_cons_succ]
              refine' wpAnyH_take (i := 5) (v := _) (op_at rfl) (by kernel_rfl) (by kernel_rfl) (by kernel_rfl) (fun _ _ _ h => h) (Or.inl ⟨by rfl, ?hy28⟩) (by assumption) ?rest28
              case hy28 =>
                intro w' hS
                go_simp
                try with_reducible rfl
              try simp only [Act.put, List.setIfInBounds_toArray, List.set_cons_zero, List.set_cons_succ]
              refine' wpAnyH_take (i := 6) (v := _) (op_at rfl) (by kernel_rfl) (by kernel_rfl) (by kernel_rfl) (fun _ _ _ h => h) (Or.inl ⟨by rfl, ?hy29⟩) (by assumption) ?rest29
              case hy29 =>
                intro w' hS
                have b0_ := (HQ.out w' ((Only.drew wr []).trans hS)).2.1
                have b1_ := (HQ.out w' ((Only.drew wr []).trans hS)).2.2.1
                rw [HU.out] at b0_
                go_simp
                try with_reducible rfl
              try simp only [Act.put, List.setIfInBounds_toArray, List.set_cons_zero, List.set_cons_succ]
              refine' wpAnyH_take (i := 7) (v := _) (op_at rfl) (by kernel_rfl) (by kernel_rfl) (by kernel_rfl) (fun _ _ _ h => h) (Or.inl ⟨by rfl, ?hy30⟩) (by assumption) ?rest30
              case hy30 =>
                intro w' hS
                have z0 := (HQ.out w' ((Only.drew wr []).trans hS)).2.2.2.1
                have z1 := (HQ.out w' ((Only.drew wr []).trans hS)).2.2.2.2.1
                go_simp
                try with_reducible rfl
              try simp only [Act.put, List.setIfInBounds_toArray, List.set_cons_zero, List.set_cons_succ]
              refine' wpAnyH_take (i := 8) (v := _) (op_at rfl) (by kernel_rfl) (by kernel_rfl) (by kernel_rfl) (fun _ _ _ h => h) (Or.inl ⟨by rfl, ?hy31⟩) (by assumption) ?rest31
              case hy31 =>
                intro w' hS
                go_simp
                try with_reducible rfl
              try simp only [Act.put, List.setIfInBounds_toArray, List.set_cons_zero, List.set_cons_succ]
              refine' wpAnyH_take (i := 9) (v := _) (op_at rfl) (by kernel_rfl) (by kernel_rfl) (by kernel_rfl) (fun _ _ _ h => h) (Or.inl ⟨by rfl, ?hy32⟩) (by assumption) ?rest32
              case hy32 =>
                intro w' hS
                go_simp
                try with_reducible rfl
              try simp only [Act.put, List.setIfInBounds_toArray, List.set_cons_zero, List.set_cons_succ]
              refine' wpAnyH_take (i := 10) (v := _) (op_at rfl) (by kernel_rfl) (by kernel_rfl) (by kernel_rfl) (fun _ _ _ h => h) (Or.inl ⟨by rfl, ?hy33⟩) (by assumption) ?rest33
              case hy33 =>
                intro w' hS
                go_simp
                try with_reducible rfl
              try simp only [Act.put, List.setIfInBounds_toArray, List.set_cons_zero, List.set_cons_succ]
              refine wpAnyH_done (by kernel_rfl) ?_ _
              go_wp2_with fail
              exact ⟨⟨i + 1, true, true, by simp, by omega, rfl, rfl, by
                show _ = _
                rw [HS1.out, ← Es.out]
                rfl, by
                show _ = _
                rw [HO1.out, ← Eo.out]
                simp [other, hd], (oR.trans (Only.drew wr [])).trans hHeld⟩, by simp [intOf]; omega⟩
          · have du : decide (bs[i].u = u) = false := by simpa using hu
            have HS1 := Lib.hid (any_succ (fun x : Bu => !x.has) hil)
            have HO1 := Lib.hid (any_succ (other u d) hil)
            go_upto_region 10 with fail
            refine wp_region_held_drew (S := fun w' => Only wr.drew w' []) (by kernel_rfl) (Only.refl _ _) (fun hHeld => ?_)
            refine' wpAnyH_take (i := 0) (v := _) (op_at rfl) (by kernel_rfl) (by kernel_rfl) (by kernel_rfl) (fun _ _ _ h => h) (Or.inl ⟨by rfl, ?hy12⟩) (by assumption) ?rest12
            case hy12 =>
              intro w' hS
              go_simp
              try with_reducible rfl
            try simp only [Act.put, List.setIfInBounds_toArray, List.set_cons_zero, List.set_cons_succ]
            refine' wpAnyH_take (i := 1) (v := _) (op_at rfl) (by kernel_rfl) (by kernel_rfl) (by kernel_rfl) (fun _ _ _ h => h) (Or.inl ⟨by rfl, ?hy13⟩) (by assumption) ?rest13
            case hy13 =>
              intro w' hS
              go_simp
              try with_reducible rfl
            try simp only [Act.put, List.setIfInBounds_toArray, List.set_cons_zero, List.set_cons_succ]
            refine' wpAnyH_take (i := 2) (v := _) (op_at rfl) (by kernel_rfl) (by kernel_rfl) (by kernel_rfl) (fun _ _ _ h => h) (Or.inl ⟨by rfl, ?hy14⟩) (by assumption) ?rest14
            case hy14 =>
              intro w' hS
              go_simp
              try with_reducible rfl
            try simp only [Act.put, List.setIfInBounds_toArray, List.set_cons_zero, List.set_cons_succ]
            refine' wpAnyH_take (i := 3) (v := _) (op_at rfl) (by kernel_rfl) (by kernel_rfl) (by kernel_rfl) (fun _ _ _ h => h) (Or.inl ⟨by rfl, ?hy15⟩) (by assumption) ?rest15
            case hy15 =>
              intro w' hS
              go_simp
              try with_reducible rfl
            try simp only [Act.put, List.setIfInBounds_toArray, List.set_cons_zero, List.set_cons_succ]
            refine' wpAnyH_take (i := 4) (v := _) (op_at rfl) (by kernel_rfl) (by kernel_rfl) (by kernel_rfl) (fun _ _ _ h => h) (Or.inl ⟨by rfl, ?hy16⟩) (by assumption) ?rest16
            case hy16 =>
              intro w' hS
              go_simp
              try with_reducible rfl
            try simp only [Act.put, List.setIfInBounds_toArray, List.set_cons_zero, List.set_cons_succ]
            refine' wpAnyH_take (i := 5) (v := _) (op_at rfl) (by kernel_rfl) (by kernel_rfl) (by kernel_rfl) (fun _ _ _ h => h) (Or.inl ⟨by rfl, ?hy17⟩) (by assumption) ?rest17
            case hy17 =>
              intro w' hS
              go_simp
              try with_reducible rfl
            try simp only [Act.put, List.setIfInBounds_toArray, List.set_cons_zero, List.set_cons_succ]
            refine' wpAnyH_take (i := 6) (v := _) (op_at rfl) (by kernel_rfl) (by kernel_rfl) (by kernel_rfl) (fun _ _ _ h => h) (Or.inl ⟨by rfl, ?hy18⟩) (by assumption) ?rest18
            case hy18 =>
              intro w' hS
              have b0_ := (HQ.out w' ((Only.drew wr []).trans hS)).2.1
              have b1_ := (HQ.out w' ((Only.drew wr []).trans hS)).2.2.1
              go_simp
              try with_reducible rfl
            try simp only [Act.put, List.setIfInBounds_toArray, List.set_cons_zero, List.set_cons_succ]
            refine' wpAnyH_take (i := 7) (v := _) (op_at rfl) (by kernel_rfl) (by kernel_rfl) (by kernel_rfl) (fun _ _ _ h => h) (Or.inl ⟨by rfl, ?hy19⟩) (by assumption) ?rest19
            case hy19 =>
              intro w' hS
              have z0 := (HQ.out w' ((Only.drew wr []).trans hS)).2.2.2.1
              have z1 := (HQ.out w' ((Only.drew wr []).trans hS)).2.2.2.2.1
              go_simp
              try with_reducible rfl
            try simp only [Act.put, List.setIfInBounds_toArray, List.set_cons_zero, List.set_cons_succ]
            refine' wpAnyH_take (i := 8) (v := _) (op_at rfl) (by kernel_rfl) (by kernel_rfl) (by kernel_rfl) (fun _ _ _ h => h) (Or.inl ⟨by rfl, ?hy20⟩) (by assumption) ?rest20
            case hy20 =>
              intro w' hS
              go_simp
              try with_reducible rfl
            try simp only [Act.put, List.setIfInBounds_toArray, List.set_cons_zero, List.set_cons_succ]
            refine' wpAnyH_take (i := 9) (v := _) (op_at rfl) (by kernel_rfl) (by kernel_rfl) (by kernel_rfl) (fun _ _ _ h => h) (Or.inl ⟨by rfl, ?hy21⟩) (by assumption) ?rest21
            case hy21 =>
              intro w' hS
              go_simp
              try with_reducible rfl
            try simp only [Act.put, List.setIfInBounds_toArray, List.set_cons_zero, List.set_cons_succ]
            refine' wpAnyH_take (i := 10) (v := _) (op_at rfl) (by kernel_rfl) (by kernel_rfl) (by kernel_rfl) (fun _ _ _ h => h) (Or.inl ⟨by rfl, ?hy22⟩) (by assumption) ?rest22
            case hy22 =>
              intro w' hS
              go_simp
              try with_reducible rfl
            try simp only [Act.put, List.setIfInBounds_toArray, List.set_cons_zero, List.set_cons_succ]
            refine wpAnyH_done (by kernel_rfl) ?_ _
            go_wp2_with fail
            exact ⟨⟨i + 1, true, true, by simp, by omega, rfl, rfl, by
              show _ = _
              rw [HS1.out, ← Es.out]
              rfl, by
              show _ = _
              rw [HO1.out, ← Eo.out]
              simp [other, hu], (oR.trans (Only.drew wr [])).trans hHeld⟩, by simp [intOf]; omega⟩
      | false =>
        cases hh : bs[i].has with
        | true =>
          cases o with
          | true =>
            have q7 := (HQ.out wr (Only.refl _ _)).1
            rw [hh] at q7
            have HS1 := Lib.hid (any_succ (fun x : Bu => !x.has) hil)
            have HO1 := Lib.hid (any_succ (other u d) hil)
            go_upto_region 10 with fail
            refine wp_region_held_drew (S := fun w' => Only wr.drew w' []) (by kernel_rfl) (Only.refl _ _) (fun hHeld => ?_)
            refine' wpAnyH_take (i := 0) (v := _) (op_at rfl) (by kernel_rfl) (by kernel_rfl) (by kernel_rfl) (fun _ _ _ h => h) (Or.inl ⟨by rfl, ?hy45⟩) (by assumption) ?rest45
            case hy45 =>
              intro w' hS
              go_simp
              try with_reducible rfl
            try simp only [Act.put, List.setIfInBounds_toArray, List.set_cons_zero, List.set_cons_succ]
            refine' wpAnyH_take (i := 1) (v := _) (op_at rfl) (by kernel_rfl) (by kernel_rfl) (by kernel_rfl) (fun _ _ _ h => h) (Or.inl ⟨by rfl, ?hy46⟩) (by assumption) ?rest46
            case hy46 =>
              intro w' hS
              go_simp
              try with_reducible rfl
            try simp only [Act.put, List.setIfInBounds_toArray, List.set_cons_zero, List.set_cons_succ]
            refine wpAnyH_take (i := 2) (v := undef) (op_at rfl) (by kernel_rfl) (by kernel_rfl) (by kernel_rfl) (fun _ _ _ h => h) (Or.inr ⟨by rfl, rfl⟩) (by assumption) ?_
            try simp only [Act.put, List.setIfInBounds_toArray, List.set_cons_zero, List.set_cons_succ]
            refine wpAnyH_take (i := 3) (v := undef) (op_at rfl) (by kernel_rfl) (by kernel_rfl) (by kernel_rfl) (fun _ _ _ h => h) (Or.inr ⟨by rfl, rfl⟩) (by assumption) ?_
            try simp only [Act.put, List.setIfInBounds_toArray, List.set_cons_zero, List.set_cons_succ]
            refine wpAnyH_take (i := 4) (v := undef) (op_at rfl) (by kernel_rfl) (by kernel_rfl) (by kernel_rfl) (fun _ _ _ h => h) (Or.inr ⟨by rfl, rfl⟩) (by assumption) ?_
            try simp only [Act.put, List.setIfInBounds_toArray, List.set_cons_zero, List.set_cons_succ]
            refine wpAnyH_take (i := 5) (v := undef) (op_at rfl) (by kernel_rfl) (by kernel_rfl) (by kernel_rfl) (fun _ _ _ h => h) (Or.inr ⟨by rfl, rfl⟩) (by assumption) ?_
            try simp only [Act.put, List.setIfInBounds_toArray, List.set_cons_zero, List.set_cons_succ]
            refine wpAnyH_take (i := 6) (v := undef) (op_at rfl) (by kernel_rfl) (by kernel_rfl) (by kernel_rfl) (fun _ _ _ h => h) (Or.inr ⟨by rfl, rfl⟩) (by assumption) ?_
            try simp only [Act.put, List.setIfInBounds_toArray, List.set_cons_zero, List.set_cons_succ]
            refine wpAnyH_take (i := 7) (v := undef) (op_at rfl) (by kernel_rfl) (by kernel_rfl) (by kernel_rfl) (fun _ _ _ h => h) (Or.inr ⟨by rfl, rfl⟩) (by assumption) ?_
            try simp only [Act.put, List.setIfInBounds_toArray, List.set_cons_zero, List.set_cons_succ]
            refine wpAnyH_take (i := 8) (v := undef) (op_at rfl) (by kernel_rfl) (by kernel_rfl) (by kernel_rfl) (fun _ _ _ h => h) (Or.inr ⟨by rfl, rfl⟩) (by assumption) ?_
            try simp only [Act.put, List.setIfInBounds_toArray, List.set_cons_zero, List.set_cons_succ]
            refine' wpAnyH_take (i := 9) (v := _) (op_at rfl) (by kernel_rfl) (by kernel_rfl) (by kernel_rfl) (fun _ _ _ h => h) (Or.inl ⟨by rfl, ?hy54⟩) (by assumption) ?rest54
            case hy54 =>
              intro w' hS
              go_simp
              try with_reducible rfl
            try simp only [Act.put, List.setIfInBounds_toArray, List.set_cons_zero, List.set_cons_succ]
            refine' wpAnyH_take (i := 10) (v := _) (op_at rfl) (by kernel_rfl) (by kernel_rfl) (by kernel_rfl) (fun _ _ _ h => h) (Or.inl ⟨by rfl, ?hy55⟩) (by assumption) ?rest55
            case hy55 =>
              intro w' hS
              go_simp
              try with_reducible rfl
            try simp only [Act.put, List.setIfInBounds_toArray, List.set_cons_zero, List.set_cons_succ]
            refine wpAnyH_done (by kernel_rfl) ?_ _
            go_wp2_with fail
            exact ⟨⟨i + 1, false, true, by simp, by omega, rfl, rfl, by
              show _ = _
              rw [HS1.out, ← Es.out]
              simp [hh], by
              show _ = _
              rw [HO1.out, ← Eo.out]
              rfl, (oR.trans (Only.drew wr [])).trans hHeld⟩, by simp [intOf]; omega⟩
          | false =>
            by_cases hu : bs[i].u = u
            · have HU := Lib.hid hu
              clear hu
              by_cases hd : bs[i].d = d
              · have HD := Lib.hid hd
                clear hd
                have q7 := (HQ.out wr (Only.refl _ _)).1
                rw [hh] at q7
                have HS1 := Lib.hid (any_succ (fun x : Bu => !x.has) hil)
                have HO1 := Lib.hid (any_succ (other u d) hil)
                go_upto_region 10 with fail
                refine wp_region_held_drew (S := fun w' => Only wr.drew w' []) (by kernel_rfl) (Only.refl _ _) (fun hHeld => ?_)
                refine' wpAnyH_take (i := 0) (v := _) (op_at rfl) (by kernel_rfl) (by kernel_rfl) (by kernel_rfl) (fun _ _ _ h => h) (Or.inl ⟨by rfl, ?hy78⟩) (by assumption) ?rest78
                case hy78 =>
                  intro w' hS
                  go_simp
                  try with_reducible rfl
                try simp only [Act.put, List.setIfInBounds_toArray, List.set_cons_zero, List.set_cons_succ]
                refine' wpAnyH_take (i := 1) (v := _) (op_at rfl) (by kernel_rfl) (by kernel_rfl) (by kernel_rfl) (fun _ _ _ h => h) (Or.inl ⟨by rfl, ?hy79⟩) (by assumption) ?rest79
                case hy79 =>
                  intro w' hS
                  go_simp
                  try with_reducible rfl
                try simp only [Act.put, List.setIfInBounds_toArray, List.set_cons_zero, List.set_cons_succ]
                refine' wpAnyH_take (i := 2) (v := _) (op_at rfl) (by kernel_rfl) (by kernel_rfl) (by kernel_rfl) (fun _ _ _ h => h) (Or.inl ⟨by rfl, ?hy80⟩) (by assumption) ?rest80
                case hy80 =>
                  intro w' hS
                  go_simp
                  try with_reducible rfl
                try simp only [Act.put, List.setIfInBounds_toArray, List.set_cons_zero, List.set_cons_succ]
                refine' wpAnyH_take (i := 3) (v := _) (op_at rfl) (by kernel_rfl) (by kernel_rfl) (by kernel_rfl) (fun _ _ _ h => h) (Or.inl ⟨by rfl, ?hy81⟩) (by assumption) ?rest81
                case hy81 =>
                  intro w' hS
                  go_simp
                  try with_reducible rfl
                try simp only [Act.put, List.setIfInBounds_toArray, List.set_cons_zero, List.set_cons_succ]
                refine' wpAnyH_take (i := 4) (v := _) (op_at rfl) (by kernel_rfl) (by kernel_rfl) (by kernel_rfl) (fun _ _ _ h => h) (Or.inl ⟨by rfl, ?hy82⟩) (by assumption) ?rest82
                case hy82 =>
                  intro w' hS
                  go_simp
                  try with_reducible rfl
                try simp only [Act.put, List.setIfInBounds_toArray, List.set_cons_zero, List.set_cons_succ]
                refine' wpAnyH_take (i := 5) (v := _) (op_at rfl) (by kernel_rfl) (by kernel_rfl) (by kernel_rfl) (fun _ _ _ h => h) (Or.inl ⟨by rfl, ?hy83⟩) (by assumption) ?rest83
                case hy83 =>
                  intro w' hS
                  go_simp
                  try with_reducible rfl
                try simp only [Act.put, List.setIfInBounds_toArray, List.set_cons_zero, List.set_cons_succ]
                refine' wpAnyH_take (i := 6) (v := _) (op_at rfl) (by kernel_rfl) (by kernel_rfl) (by kernel_rfl) (fun _ _ _ h => h) (Or.inl ⟨by rfl, ?hy84⟩) (by assumption) ?rest84
                case hy84 =>
                  intro w' hS
                  have b0_ := (HQ.out w' ((Only.drew wr []).trans hS)).2.1
                  have b1_ := (HQ.out w' ((Only.drew wr []).trans hS)).2.2.1
                  rw [HU.out] at b0_
                  rw [HD.out] at b1_
                  go_simp
                  try with_reducible rfl
                try simp only [Act.put, List.setIfInBounds_toArray, List.set_cons_zero, List.set_cons_succ]
                refine' wpAnyH_take (i := 7) (v := _) (op_at rfl) (by kernel_rfl) (by kernel_rfl) (by kernel_rfl) (fun _ _ _ h => h) (Or.inl ⟨by rfl, ?hy85⟩) (by assumption) ?rest85
                case hy85 =>
                  intro w' hS
                  have z0 := (HQ.out w' ((Only.drew wr []).trans hS)).2.2.2.1
                  have z1 := (HQ.out w' ((Only.drew wr []).trans hS)).2.2.2.2.1
                  go_simp
                  try with_reducible rfl
                try simp only [Act.put, List.setIfInBounds_toArray, List.set_cons_zero, List.set_cons_succ]
                refine' wpAnyH_take (i := 8) (v := _) (op_at rfl) (by kernel_rfl) (by kernel_rfl) (by kernel_rfl) (fun _ _ _ h => h) (Or.inl ⟨by rfl, ?hy86⟩) (by assumption) ?rest86
                case hy86 =>
                  intro w' hS
                  go_simp
                  try with_reducible rfl
                try simp only [Act.put, List.setIfInBounds_toArray, List.set_cons_zero, List.set_cons_succ]
                refine' wpAnyH_take (i := 9) (v := _) (op_at rfl) (by kernel_rfl) (by kernel_rfl) (by kernel_rfl) (fun _ _ _ h => h) (Or.inl ⟨by rfl, ?hy87⟩) (by assumption) ?rest87
                case hy87 =>
                  intro w' hS
                  go_simp
                  try with_reducible rfl
                try simp only [Act.put, List.setIfInBounds_toArray, List.set_cons_zero, List.set_cons_succ]
                refine' wpAnyH_take (i := 10) (v := _) (op_at rfl) (by kernel_rfl) (by kernel_rfl) (by kernel_rfl) (fun _ _ _ h => h) (Or.inl ⟨by rfl, ?hy88⟩) (by assumption) ?rest88
                case hy88 =>
                  intro w' hS
                  go_simp
                  try with_reducible rfl
                try simp only [Act.put, List.setIfInBounds_toArray, List.set_cons_zero, List.set_cons_succ]
                refine wpAnyH_done (by kernel_rfl) ?_ _
                go_wp2_with fail
                exact ⟨⟨i + 1, false, false, by simp, by omega, rfl, rfl, by
                  show _ = _
                  rw [HS1.out, ← Es.out]
                  simp [hh], by
                  show _ = _
                  rw [HO1.out, ← Eo.out]
                  simp [other, HU.out, HD.out], (oR.trans (Only.drew wr [])).trans hHeld⟩, by simp [intOf]; omega⟩
              · have dd : decide (bs[i].d = d) = false := by simpa using hd
                have q7 := (HQ.out wr (Only.refl _ _)).1
                rw [hh] at q7
                have HS1 := Lib.hid (any_succ (fun x : Bu => !x.has) hil)
                have HO1 := Lib.hid (any_succ (other u d) hil)
                go_upto_region 10 with fail
                refine wp_region_held_drew (S := fun w' => Only wr.drew w' []) (by kernel_rfl) (Only.refl _ _) (fun hHeld => ?_)
                refine' wpAnyH_take (i := 0) (v := _) (op_at rfl) (by kernel_rfl) (by kernel_rfl) (by kernel_rfl) (fun _ _ _ h => h) (Or.inl ⟨by rfl, ?hy67⟩) (by assumption) ?rest67
                case hy67 =>
                  intro w' hS
                  go_simp
                  try with_reducible rfl
                try simp only [Act.put, List.setIfInBounds_toArray, List.set_cons_zero, List.set_cons_succ]
                refine' wpAnyH_take (i := 1) (v := _) (op_at rfl) (by kernel_rfl) (by kernel_rfl) (by kernel_rfl) (fun _ _ _ h => h) (Or.inl ⟨by rfl, ?hy68⟩) (by assumption) ?rest68
                case hy68 =>
                  intro w' hS
                  go_simp
                  try with_reducible rfl
                try simp only [Act.put, List.setIfInBounds_toArray, List.set_cons_zero, List.set_cons_succ]
                refine' wpAnyH_take (i := 2) (v := _) (op_at rfl) (by kernel_rfl) (by kernel_rfl) (by kernel_rfl) (fun _ _ _ h => h) (Or.inl ⟨by rfl, ?hy69⟩) (by assumption) ?rest69
                case hy69 =>
                  intro w' hS
                  go_simp
                  try with_reducible rfl
                try simp only [Act.put, List.setIfInBounds_toArray, List.set_cons_zero, List.set_cons_succ]
                refine' wpAnyH_take (i := 3) (v := _) (op_at rfl) (by kernel_rfl) (by kernel_rfl) (by kernel_rfl) (fun _ _ _ h => h) (Or.inl ⟨by rfl, ?hy70⟩) (by assumption) ?rest70
                case hy70 =>
                  intro w' hS
                  go_simp
                  try with_reducible rfl
                try simp only [Act.put, List.setIfInBounds_toArray, List.set_cons_zero, List.set_cons_succ]
                refine' wpAnyH_take (i := 4) (v := _) (op_at rfl) (by kernel_rfl) (by kernel_rfl) (by kernel_rfl) (fun _ _ _ h => h) (Or.inl ⟨by rfl, ?hy71⟩) (by assumption) ?rest71
                case hy71 =>
                  intro w' hS
                  go_simp
                  try with_reducible rfl
                try simp only [Act.put, List.setIfInBounds_toArray, List.set_cons_zero, List.set_cons_succ]
                refine' wpAnyH_take (i := 5) (v := _) (op_at rfl) (by kernel_rfl) (by kernel_rfl) (by kernel_rfl) (fun _ _ _ h => h) (Or.inl ⟨by rfl, ?hy72⟩) (by assumption) ?rest72
                case hy72 =>
                  intro w' hS
                  go_simp
                  try with_reducible rfl
                try simp only [Act.put, List.setIfInBounds_toArray, List.set_cons_zero, List.set_cons_succ]
                refine' wpAnyH_take (i := 6) (v := _) (op_at rfl) (by kernel_rfl) (by kernel_rfl) (by kernel_rfl) (fun _ _ _ h => h) (Or.inl ⟨by rfl, ?hy73⟩) (by assumption) ?rest73
                case hy73 =>
                  intro w' hS
                  have b0_ := (HQ.out w' ((Only.drew wr []).trans hS)).2.1
                  have b1_ := (HQ.out w' ((Only.drew wr []).trans hS)).2.2.1
                  rw [HU.out] at b0_
                  go_simp
                  try with_reducible rfl
                try simp only [Act.put, List.setIfInBounds_toArray, List.set_cons_zero, List.set_cons_succ]
                refine' wpAnyH_take (i := 7) (v := _) (op_at rfl) (by kernel_rfl) (by kernel_rfl) (by kernel_rfl) (fun _ _ _ h => h) (Or.inl ⟨by rfl, ?hy74⟩) (by assumption) ?rest74
                case hy74 =>
                  intro w' hS
                  have z0 := (HQ.out w' ((Only.drew wr []).trans hS)).2.2.2.1
                  have z1 := (HQ.out w' ((Only.drew wr []).trans hS)).2.2.2.2.1
                  go_simp
                  try with_reducible rfl
                try simp only [Act.put, List.setIfInBounds_toArray, List.set_cons_zero, List.set_cons_succ]
                refine' wpAnyH_take (i := 8) (v := _) (op_at rfl) (by kernel_rfl) (by kernel_rfl) (by kernel_rfl) (fun _ _ _ h => h) (Or.inl ⟨by rfl, ?hy75⟩) (by assumption) ?rest75
                case hy75 =>
                  intro w' hS
                  go_simp
                  try with_reducible rfl
                try simp only [Act.put, List.setIfInBounds_toArray, List.set_cons_zero, List.set_cons_succ]
                refine' wpAnyH_take (i := 9) (v := _) (op_at rfl) (by kernel_rfl) (by kernel_rfl) (by kernel_rfl) (fun _ _ _ h => h) (Or.inl ⟨by rfl, ?hy76⟩) (by assumption) ?rest76
                case hy76 =>
                  intro w' hS
                  go_simp
                  try with_reducible rfl
                try simp only [Act.put, List.setIfInBounds_toArray, List.set_cons_zero, List.set_cons_succ]
                refine' wpAnyH_take (i := 10) (v := _) (op_at rfl) (by kernel_rfl) (by kernel_rfl) (by kernel_rfl) (fun _ _ _ h => h) (Or.inl ⟨by rfl, ?hy77⟩) (by assumption) ?rest77
                case hy77 =>
                  intro w' hS
                  go_simp
                  try with_reducible rfl
                try simp only [Act.put, List.setIfInBounds_toArray, List.set_cons_zero, List.set_cons_succ]
                refine wpAnyH_done (by kernel_rfl) ?_ _
                go_wp2_with fail
                exact ⟨⟨i + 1, false, true, by simp, by omega, rfl, rfl, by
                  show _ = _
                  rw [HS1.out, ← Es.out]
                  simp [hh], by
                  show _ = _
                  rw [HO1.out, ← Eo.out]
                  simp [other, hd], (oR.trans (Only.drew wr [])).trans hHeld⟩, by simp [intOf]; omega⟩
            · have du : decide (bs[i].u = u) = false := by simpa using hu
              have q7 := (HQ.out wr (Only.refl _ _)).1
              rw [hh] at q7
              have HS1 := Lib.hid (any_succ (fun x : Bu => !x.has) hil)
              have HO1 := Lib.hid (any_succ (other u d) hil)
              go_upto_region 10 with fail
              refine wp_region_held_drew (S := fun w' => Only wr.drew w' []) (by kernel_rfl) (Only.refl _ _) (fun hHeld => ?_)
              refine' wpAnyH_take (i := 0) (v := _) (op_at rfl) (by kernel_rfl) (by kernel_rfl) (by kernel_rfl) (fun _ _ _ h => h) (Or.inl ⟨by rfl, ?hy56⟩) (by assumption) ?rest56
              case hy56 =>
                intro w' hS
                go_simp
                try with_reducible rfl
              try simp only [Act.put, List.setIfInBounds_toArray, List.set_cons_zero, List.set_cons_succ]
              refine' wpAnyH_take (i := 1) (v := _) (op_at rfl) (by kernel_rfl) (by kernel_rfl) (by kernel_rfl) (fun _ _ _ h => h) (Or.inl ⟨by rfl, ?hy57⟩) (by assumption) ?rest57
              case hy57 =>
                intro w' hS
                go_simp
                try with_reducible rfl
              try simp only [Act.put, List.setIfInBounds_toArray, List.set_cons_zero, List.set_cons_succ]
              refine' wpAnyH_take (i := 2) (v := _) (op_at rfl) (by kernel_rfl) (by kernel_rfl) (by kernel_rfl) (fun _ _ _ h => h) (Or.inl ⟨by rfl, ?hy58⟩) (by assumption) ?rest58
              case hy58 =>
                intro w' hS
                go_simp
                try with_reducible rfl
              try simp only [Act.put, List.setIfInBounds_toArray, List.set_cons_zero, List.set_cons_succ]
              refine' wpAnyH_take (i := 3) (v := _) (op_at rfl) (by kernel_rfl) (by kernel_rfl) (by kernel_rfl) (fun _ _ _ h => h) (Or.inl ⟨by rfl, ?hy59⟩) (by assumption) ?rest59
              case hy59 =>
                intro w' hS
                go_simp
                try with_reducible rfl
              try simp only [Act.put, List.setIfInBounds_toArray, List.set_cons_zero, List.set_cons_succ]
              refine' wpAnyH_take (i := 4) (v := _) (op_at rfl) (by kernel_rfl) (by kernel_rfl) (by kernel_rfl) (fun _ _ _ h => h) (Or.inl ⟨by rfl, ?hy60⟩) (by assumption) ?rest60
              case hy60 =>
                intro w' hS
                go_simp
                try with_reducible rfl
              try simp only [Act.put, List.setIfInBounds_toArray, List.set_cons_zero, List.set_cons_succ]
              refine' wpAnyH_take (i := 5) (v := _) (op_at rfl) (by kernel_rfl) (by kernel_rfl) (by kernel_rfl) (fun _ _ _ h => h) (Or.inl ⟨by rfl, ?hy61⟩) (by assumption) ?rest61
              case hy61 =>
                intro w' hS
                go_simp
                try with_reducible rfl
              try simp only [Act.put, List.setIfInBounds_toArray, List.set_cons_zero, List.set_cons_succ]
              refine' wpAnyH_take (i := 6) (v := _) (op_at rfl) (by kernel_rfl) (by kernel_rfl) (by kernel_rfl) (fun _ _ _ h => h) (Or.inl ⟨by rfl, ?hy62⟩) (by assumption) ?rest62
              case hy62 =>
                intro w' hS
                have b0_ := (HQ.out w' ((Only.drew wr []).trans hS)).2.1
                have b1_ := (HQ.out w' ((Only.drew wr []).trans hS)).2.2.1
                go_simp
                try with_reducible rfl
              try simp only [Act.put, List.setIfInBounds_toArray, List.set_cons_zero, List.set_cons_succ]
              refine' wpAnyH_take (i := 7) (v := _) (op_at rfl) (by kernel_rfl) (by kernel_rfl) (by kernel_rfl) (fun _ _ _ h => h) (Or.inl ⟨by rfl, ?hy63⟩) (by assumption) ?rest63
              case hy63 =>
                intro w' hS
                have z0 := (HQ.out w' ((Only.drew wr []).trans hS)).2.2.2.1
                have z1 := (HQ.out w' ((Only.drew wr []).trans hS)).2.2.2.2.1
                go_simp
                try with_reducible rfl
              try simp only [Act.put, List.setIfInBounds_toArray, List.set_cons_zero, List.set_cons_succ]
              refine' wpAnyH_take (i := 8) (v := _) (op_at rfl) (by kernel_rfl) (by kernel_rfl) (by kernel_rfl) (fun _ _ _ h => h) (Or.inl ⟨by rfl, ?hy64⟩) (by assumption) ?rest64
              case hy64 =>
                intro w' hS
                go_simp
                try with_reducible rfl
              try simp only [Act.put, List.setIfInBounds_toArray, List.set_cons_zero, List.set_cons_succ]
              refine' wpAnyH_take (i := 9) (v := _) (op_at rfl) (by kernel_rfl) (by kernel_rfl) (by kernel_rfl) (fun _ _ _ h => h) (Or.inl ⟨by rfl, ?hy65⟩) (by assumption) ?rest65
              case hy65 =>
                intro w' hS
                go_simp
                try with_reducible rfl
              try simp only [Act.put, List.setIfInBounds_toArray, List.set_cons_zero, List.set_cons_succ]
              refine' wpAnyH_take (i := 10) (v := _) (op_at rfl) (by kernel_rfl) (by kernel_rfl) (by kernel_rfl) (fun _ _ _ h => h) (Or.inl ⟨by rfl, ?hy66⟩) (by assumption) ?rest66
              case hy66 =>
                intro w' hS
                go_simp
                try with_reducible rfl
              try simp only [Act.put, List.setIfInBounds_toArray, List.set_cons_zero, List.set_cons_succ]
              refine wpAnyH_done (by kernel_rfl) ?_ _
              go_wp2_with fail
              exact ⟨⟨i + 1, false, true, by simp, by omega, rfl, rfl, by
                show _ = _
                rw [HS1.out, ← Es.out]
                simp [hh], by
                show _ = _
                rw [HO1.out, ← Eo.out]
                simp [other, hu], (oR.trans (Only.drew wr [])).trans hHeld⟩, by simp [intOf]; omega⟩
        | false =>
          cases o with
          | true =>
            have q7 := (HQ.out wr (Only.refl _ _)).1
            rw [hh] at q7
            have HS1 := Lib.hid (any_succ (fun x : Bu => !x.has) hil)
            have HO1 := Lib.hid (any_succ (other u d) hil)
            go_upto_region 10 with fail
            refine wp_region_held_drew (S := fun w' => Only wr.drew w' []) (by kernel_rfl) (Only.refl _ _) (fun hHeld => ?_)
            refine' wpAnyH_take (i := 0) (v := _) (op_at rfl) (by kernel_rfl) (by kernel_rfl) (by kernel_rfl) (fun _ _ _ h => h) (Or.inl ⟨by rfl, ?hy89⟩) (by assumption) ?rest89
            case hy89 =>
              intro w' hS
              go_simp
              try with_reducible rfl
            try simp only [Act.put, List.setIfInBounds_toArray, List.set_cons_zero, List.set_cons_succ]
            refine' wpAnyH_take (i := 1) (v := _) (op_at rfl) (by kernel_rfl) (by kernel_rfl) (by kernel_rfl) (fun _ _ _ h => h) (Or.inl ⟨by rfl, ?hy90⟩) (by assumption) ?rest90
            case hy90 =>
              intro w' hS
              go_simp
              try with_reducible rfl
            try simp only [Act.put, List.setIfInBounds_toArray, List.set_cons_zero, List.set_cons_succ]
            refine wpAnyH_take (i := 2) (v := undef) (op_at rfl) (by kernel_rfl) (by kernel_rfl) (by kernel_rfl) (fun _ _ _ h => h) (Or.inr ⟨by rfl, rfl⟩) (by assumption) ?_
            try simp only [Act.put, List.setIfInBounds_toArray, List.set_cons_zero, List.set_cons_succ]
            refine wpAnyH_take (i := 3) (v := undef) (op_at rfl) (by kernel_rfl) (by kernel_rfl) (by kernel_rfl) (fun _ _ _ h => h) (Or.inr ⟨by rfl, rfl⟩) (by assumption) ?_
            try simp only [Act.put, List.setIfInBounds_toArray, List.set_cons_zero, List.set_cons_succ]
            refine wpAnyH_take (i := 4) (v := undef) (op_at rfl) (by kernel_rfl) (by kernel_rfl) (by kernel_rfl) (fun _ _ _ h => h) (Or.inr ⟨by rfl, rfl⟩) (by assumption) ?_
            try simp only [Act.put, List.setIfInBounds_toArray, List.set_cons_zero, List.set_cons_succ]
            refine wpAnyH_take (i := 5) (v := undef) (op_at rfl) (by kernel_rfl) (by kernel_rfl) (by kernel_rfl) (fun _ _ _ h => h) (Or.inr ⟨by rfl, rfl⟩) (by assumption) ?_
            try simp only [Act.put, List.setIfInBounds_toArray, List.set_cons_zero, List.set_cons_succ]
            refine wpAnyH_take (i := 6) (v := undef) (op_at rfl) (by kernel_rfl) (by kernel_rfl) (by kernel_rfl) (fun _ _ _ h => h) (Or.inr ⟨by rfl, rfl⟩) (by assumption) ?_
            try simp only [Act.put, List.setIfInBounds_toArray, List.set_cons_zero, List.set_cons_succ]
            refine wpAnyH_take (i := 7) (v := undef) (op_at rfl) (by kernel_rfl) (by kernel_rfl) (by kernel_rfl) (fun _ _ _ h => h) (Or.inr ⟨by rfl, rfl⟩) (by assumption) ?_
            try simp only [Act.put, List.setIfInBounds_toArray, List.set_cons_zero, List.set_cons_succ]
            refine wpAnyH_take (i := 8) (v := undef) (op_at rfl) (by kernel_rfl) (by kernel_rfl) (by kernel_rfl) (fun _ _ _ h => h) (Or.inr ⟨by rfl, rfl⟩) (by assumption) ?_
            try simp only [Act.put, List.setIfInBounds_toArray, List.set_cons_zero, List.set_cons_succ]
            refine' wpAnyH_take (i := 9) (v := _) (op_at rfl) (by kernel_rfl) (by kernel_rfl) (by kernel_rfl) (fun _ _ _ h => h) (Or.inl ⟨by rfl, ?hy98⟩) (by assumption) ?rest98
            case hy98 =>
              intro w' hS
              go_simp
              try with_reducible rfl
            try simp only [Act.put, List.setIfInBounds_toArray, List.set_cons_zero, List.set_cons_succ]
            refine' wpAnyH_take (i := 10) (v := _) (op_at rfl) (by kernel_rfl) (by kernel_rfl) (by kernel_rfl) (fun _ _ _ h => h) (Or.inl ⟨by rfl, ?hy99⟩) (by assumption) ?rest99
            case hy99 =>
              intro w' hS
              go_simp
              try with_reducible rfl
            try simp only [Act.put, List.setIfInBounds_toArray, List.set_cons_zero, List.set_cons_succ]
            refine wpAnyH_done (by kernel_rfl) ?_ _
            go_wp2_with fail
            exact ⟨⟨i + 1, true, true, by simp, by omega, rfl, rfl, by
              show _ = _
              rw [HS1.out, ← Es.out]
              simp [hh], by
              show _ = _
              rw [HO1.out, ← Eo.out]
              rfl, (oR.trans (Only.drew wr [])).trans hHeld⟩, by simp [intOf]; omega⟩
          | false =>
            by_cases hu : bs[i].u = u
            · have HU := Lib.hid hu
              clear hu
              by_cases hd : bs[i].d = d
              · have HD := Lib.hid hd
                clear hd
                have q7 := (HQ.out wr (Only.refl _ _)).1
                rw [hh] at q7
                have HS1 := Lib.hid (any_succ (fun x : Bu => !x.has) hil)
                have HO1 := Lib.hid (any_succ (other u d) hil)
                go_upto_region 10 with fail
                refine wp_region_held_drew (S := fun w' => Only wr.drew w' []) (by kernel_rfl) (Only.refl _ _) (fun hHeld => ?_)
                refine' wpAnyH_take (i := 0) (v := _) (op_at rfl) (by kernel_rfl) (by kernel_rfl) (by kernel_rfl) (fun _ _ _ h => h) (Or.inl ⟨by rfl, ?hy122⟩) (by assumption) ?rest122
                case hy122 =>
                  intro w' hS
                  go_simp
                  try with_reducible rfl
                try simp only [Act.put, List.setIfInBounds_toArray, List.set_cons_zero, List.set_cons_succ]
                refine' wpAnyH_take (i := 1) (v := _) (op_at rfl) (by kernel_rfl) (by kernel_rfl) (by kernel_rfl) (fun _ _ _ h => h) (Or.inl ⟨by rfl, ?hy123⟩) (by assumption) ?rest123
                case hy123 =>
                  intro w' hS
                  go_simp
                  try with_reducible rfl
                try simp only [Act.put, List.setIfInBounds_toArray, List.set_cons_zero, List.set_cons_succ]
                refine' wpAnyH_take (i := 2) (v := _) (op_at rfl) (by kernel_rfl) (by kernel_rfl) (by kernel_rfl) (fun _ _ _ h => h) (Or.inl ⟨by rfl, ?hy124⟩) (by assumption) ?rest124
                case hy124 =>
                  intro w' hS
                  go_simp
                  try with_reducible rfl
                try simp only [Act.put, List.setIfInBounds_toArray, List.set_cons_zero, List.set_cons_succ]
                refine' wpAnyH_take (i := 3) (v := _) (op_at rfl) (by kernel_rfl) (by kernel_rfl) (by kernel_rfl) (fun _ _ _ h => h) (Or.inl ⟨by rfl, ?hy125⟩) (by assumption) ?rest125
                case hy125 =>
                  intro w' hS
                  go_simp
                  try with_reducible rfl
                try simp only [Act.put, List.setIfInBounds_toArray, List.set_cons_zero, List.set_cons_succ]
                refine' wpAnyH_take (i := 4) (v := _) (op_at rfl) (by kernel_rfl) (by kernel_rfl) (by kernel_rfl) (fun _ _ _ h => h) (Or.inl ⟨by rfl, ?hy126⟩) (by assumption) ?rest126
                case hy126 =>
                  intro w' hS
                  go_simp
                  try with_reducible rfl
                try simp only [Act.put, List.setIfInBounds_toArray, List.set_cons_zero, List.set_cons_succ]
                refine' wpAnyH_take (i := 5) (v := _) (op_at rfl) (by kernel_rfl) (by kernel_rfl) (by kernel_rfl) (fun _ _ _ h => h) (Or.inl ⟨by rfl, ?hy127⟩) (by assumption) ?rest127
                case hy127 =>
                  intro w' hS
                  go_simp
                  try with_reducible rfl
                try simp only [Act.put, List.setIfInBounds_toArray, List.set_cons_zero, List.set_cons_succ]
                refine' wpAnyH_take (i := 6) (v := _) (op_at rfl) (by kernel_rfl) (by kernel_rfl) (by kernel_rfl) (fun _ _ _ h => h) (Or.inl ⟨by rfl, ?hy128⟩) (by assumption) ?rest128
                case hy128 =>
                  intro w' hS
                  have b0_ := (HQ.out w' ((Only.drew wr []).trans hS)).2.1
                  have b1_ := (HQ.out w' ((Only.drew wr []).trans hS)).2.2.1
                  rw [HU.out] at b0_
                  rw [HD.out] at b1_
                  go_simp
                  try with_reducible rfl
                try simp only [Act.put, List.setIfInBounds_toArray, List.set_cons_zero, List.set_cons_succ]
                refine' wpAnyH_take (i := 7) (v := _) (op_at rfl) (by kernel_rfl) (by kernel_rfl) (by kernel_rfl) (fun _ _ _ h => h) (Or.inl ⟨by rfl, ?hy129⟩) (by assumption) ?rest129
                case hy129 =>
                  intro w' hS
                  have z0 := (HQ.out w' ((Only.drew wr []).trans hS)).2.2.2.1
                  have z1 := (HQ.out w' ((Only.drew wr []).trans hS)).2.2.2.2.1
                  go_simp
                  try with_reducible rfl
                try simp only [Act.put, List.setIfInBounds_toArray, List.set_cons_zero, List.set_cons_succ]
                refine' wpAnyH_take (i := 8) (v := _) (op_at rfl) (by kernel_rfl) (by kernel_rfl) (by kernel_rfl) (fun _ _ _ h => h) (Or.inl ⟨by rfl, ?hy130⟩) (by assumption) ?rest130
                case hy130 =>
                  intro w' hS
                  go_simp
                  try with_reducible rfl
                try simp only [Act.put, List.setIfInBounds_toArray, List.set_cons_zero, List.set_cons_succ]
                refine' wpAnyH_take (i := 9) (v := _) (op_at rfl) (by kernel_rfl) (by kernel_rfl) (by kernel_rfl) (fun _ _ _ h => h) (Or.inl ⟨by rfl, ?hy131⟩) (by assumption) ?rest131
                case hy131 =>
                  intro w' hS
                  go_simp
                  try with_reducible rfl
                try simp only [Act.put, List.setIfInBounds_toArray, List.set_cons_zero, List.set_cons_succ]
                refine' wpAnyH_take (i := 10) (v := _) (op_at rfl) (by kernel_rfl) (by kernel_rfl) (by kernel_rfl) (fun _ _ _ h => h) (Or.inl ⟨by rfl, ?hy132⟩) (by assumption) ?rest132
                case hy132 =>
                  intro w' hS
                  go_simp
                  try with_reducible rfl
                try simp only [Act.put, List.setIfInBounds_toArray, List.set_cons_zero, List.set_cons_succ]
                refine wpAnyH_done (by kernel_rfl) ?_ _
                go_wp2_with fail
                exact ⟨⟨i + 1, true, false, by simp, by omega, rfl, rfl, by
                  show _ = _
                  rw [HS1.out, ← Es.out]
                  simp [hh], by
                  show _ = _
                  rw [HO1.out, ← Eo.out]
                  simp [other, HU.out, HD.out], (oR.trans (Only.drew wr [])).trans hHeld⟩, by simp [intOf]; omega⟩
              · have dd : decide (bs[i].d = d) = false := by simpa using hd
                have q7 := (HQ.out wr (Only.refl _ _)).1
                rw [hh] at q7
                have HS1 := Lib.hid (any_succ (fun x : Bu => !x.has) hil)
                have HO1 := Lib.hid (any_succ (other u d) hil)
                go_upto_region 10 with fail
                refine wp_region_held_drew (S := fun w' => Only wr.drew w' []) (by kernel_rfl) (Only.refl _ _) (fun hHeld => ?_)
                refine' wpAnyH_take (i := 0) (v := _) (op_at rfl) (by kernel_rfl) (by kernel_rfl) (by kernel_rfl) (fun _ _ _ h => h) (Or.inl ⟨by rfl, ?hy111⟩) (by assumption) ?rest111
                case hy111 =>
                  intro w' hS
                  go_simp
                  try with_reducible rfl
                try simp only [Act.put, List.setIfInBounds_toArray, List.set_cons_zero, List.set_cons_succ]
                refine' wpAnyH_take (i := 1) (v := _) (op_at rfl) (by kernel_rfl) (by kernel_rfl) (by kernel_rfl) (fun _ _ _ h => h) (Or.inl ⟨by rfl, ?hy112⟩) (by assumption) ?rest112
                case hy112 =>
                  intro w' hS
                  go_simp
                  try with_reducible rfl
                try simp only [Act.put, List.setIfInBounds_toArray, List.set_cons_zero, List.set_cons_succ]
                refine' wpAnyH_take (i := 2) (v := _) (op_at rfl) (by kernel_rfl) (by kernel_rfl) (by kernel_rfl) (fun _ _ _ h => h) (Or.inl ⟨by rfl, ?hy113⟩) (by assumption) ?rest113
                case hy113 =>
                  intro w' hS
                  go_simp
                  try with_reducible rfl
                try simp only [Act.put, List.setIfInBounds_toArray, List.set_cons_zero, List.set_cons_succ]
                refine' wpAnyH_take (i := 3) (v := _) (op_at rfl) (by kernel_rfl) (by kernel_rfl) (by kernel_rfl) (fun _ _ _ h => h) (Or.inl ⟨by rfl, ?hy114⟩) (by assumption) ?rest114
                case hy114 =>
                  intro w' hS
                  go_simp
                  try with_reducible rfl
                try simp only [Act.put, List.setIfInBounds_toArray, List.set_cons_zero, List.set_cons_succ]
                refine' wpAnyH_take (i := 4) (v := _) (op_at rfl) (by kernel_rfl) (by kernel_rfl) (by kernel_rfl) (fun _ _ _ h => h) (Or.inl ⟨by rfl, ?hy115⟩) (by assumption) ?rest115
                case hy115 =>
                  intro w' hS
                  go_simp
                  try with_reducible rfl
                try simp only [Act.put, List.setIfInBounds_toArray, List.set_cons_zero, List.set_cons_succ]
                refine' wpAnyH_take (i := 5) (v := _) (op_at rfl) (by kernel_rfl) (by kernel_rfl) (by kernel_rfl) (fun _ _ _ h => h) (Or.inl ⟨by rfl, ?hy116⟩) (by assumption) ?rest116
                case hy116 =>
                  intro w' hS
                  go_simp
                  try with_reducible rfl
                try simp only [Act.put, List.setIfInBounds_toArray, List.set_cons_zero, List.set_cons_succ]
                refine' wpAnyH_take (i := 6) (v := _) (op_at rfl) (by kernel_rfl) (by kernel_rfl) (by kernel_rfl) (fun _ _ _ h => h) (Or.inl ⟨by rfl, ?hy117⟩) (by assumption) ?rest117
                case hy117 =>
                  intro w' hS
                  have b0_ := (HQ.out w' ((Only.drew wr []).trans hS)).2.1
                  have b1_ := (HQ.out w' ((Only.drew wr []).trans hS)).2.2.1
                  rw [HU.out] at b0_
                  go_simp
                  try with_reducible rfl
                try simp only [Act.put, List.setIfInBounds_toArray, List.set_cons_zero, List.set_cons_succ]
                refine' wpAnyH_take (i := 7) (v := _) (op_at rfl) (by kernel_rfl) (by kernel_rfl) (by kernel_rfl) (fun _ _ _ h => h) (Or.inl ⟨by rfl, ?hy118⟩) (by assumption) ?rest118
                case hy118 =>
                  intro w' hS
                  have z0 := (HQ.out w' ((Only.drew wr []).trans hS)).2.2.2.1
                  have z1 := (HQ.out w' ((Only.drew wr []).trans hS)).2.2.2.2.1
                  go_simp
                  try with_reducible rfl
                try simp only [Act.put, List.setIfInBounds_toArray, List.set_cons_zero, List.set_cons_succ]
                refine' wpAnyH_take (i := 8) (v := _) (op_at rfl) (by kernel_rfl) (by kernel_rfl) (by kernel_rfl) (fun _ _ _ h => h) (Or.inl ⟨by rfl, ?hy119⟩) (by assumption) ?rest119
                case hy119 =>
                  intro w' hS
                  go_simp
                  try with_reducible rfl
                try simp only [Act.put, List.setIfInBounds_toArray, List.set_cons_zero, List.set_cons_succ]
                refine' wpAnyH_take (i := 9) (v := _) (op_at rfl) (by kernel_rfl) (by kernel_rfl) (by kernel_rfl) (fun _ _ _ h => h) (Or.inl ⟨by rfl, ?hy120⟩) (by assumption) ?rest120
                case hy120 =>
                  intro w' hS
                  go_simp
                  try with_reducible rfl
                try simp only [Act.put, List.setIfInBounds_toArray, List.set_cons_zero, List.set_cons_succ]
                refine' wpAnyH_take (i := 10) (v := _) (op_at rfl) (by kernel_rfl) (by kernel_rfl) (by kernel_rfl) (fun _ _ _ h => h) (Or.inl ⟨by rfl, ?hy121⟩) (by assumption) ?rest121
                case hy121 =>
                  intro w' hS
                  go_simp
                  try with_reducible rfl
                try simp only [Act.put, List.setIfInBounds_toArray, List.set_cons_zero, List.set_cons_succ]
                refine wpAnyH_done (by kernel_rfl) ?_ _
                go_wp2_with fail
                exact ⟨⟨i + 1, true, true, by simp, by omega, rfl, rfl, by
                  show _ = _
                  rw [HS1.out, ← Es.out]
                  simp [hh], by
                  show _ = _
                  rw [HO1.out, ← Eo.out]
                  simp [other, hd], (oR.trans (Only.drew wr [])).trans hHeld⟩, by simp [intOf]; omega⟩
            · have du : decide (bs[i].u = u) = false := by simpa using hu
              have q7 := (HQ.out wr (Only.refl _ _)).1
              rw [hh] at q7
              have HS1 := Lib.hid (any_succ (fun x : Bu => !x.has) hil)
              have HO1 := Lib.hid (any_succ (other u d) hil)
              go_upto_region 10 with fail
              refine wp_region_held_drew (S := fun w' => Only wr.drew w' []) (by kernel_rfl) (Only.refl _ _) (fun hHeld => ?_)
              refine' wpAnyH_take (i := 0) (v := _) (op_at rfl) (by kernel_rfl) (by kernel_rfl) (by kernel_rfl) (fun _ _ _ h => h) (Or.inl ⟨by rfl, ?hy100⟩) (by assumption) ?rest100
              case hy100 =>
                intro w' hS
                go_simp
                try with_reducible rfl
              try simp only [Act.put, List.setIfInBounds_toArray, List.set_cons_zero, List.set_cons_succ]
              refine' wpAnyH_take (i := 1) (v := _) (op_at rfl) (by kernel_rfl) (by kernel_rfl) (by kernel_rfl) (fun _ _ _ h => h) (Or.inl ⟨by rfl, ?hy101⟩) (by assumption) ?rest101
              case hy101 =>
                intro w' hS
                go_simp
                try with_reducible rfl
              try simp only [Act.put, List.setIfInBounds_toArray, List.set_cons_zero, List.set_cons_succ]
              refine' wpAnyH_take (i := 2) (v := _) (op_at rfl) (by kernel_rfl) (by kernel_rfl) (by kernel_rfl) (fun _ _ _ h => h) (Or.inl ⟨by rfl, ?hy102⟩) (by assumption) ?rest102
              case hy102 =>
                intro w' hS
                go_simp
                try with_reducible rfl
              try simp only [Act.put, List.setIfInBounds_toArray, List.set_cons_zero, List.set_cons_succ]
              refine' wpAnyH_take (i := 3) (v := _) (op_at rfl) (by kernel_rfl) (by kernel_rfl) (by kernel_rfl) (fun _ _ _ h => h) (Or.inl ⟨by rfl, ?hy103⟩) (by assumption) ?rest103
              case hy103 =>
                intro w' hS
                go_simp
                try with_reducible rfl
              try simp only [Act.put, List.setIfInBounds_toArray, List.set_cons_zero, List.set_cons_succ]
              refine' wpAnyH_take (i := 4) (v := _) (op_at rfl) (by kernel_rfl) (by kernel_rfl) (by kernel_rfl) (fun _ _ _ h => h) (Or.inl ⟨by rfl, ?hy104⟩) (by assumption) ?rest104
              case hy104 =>
                intro w' hS
                go_simp
                try with_reducible rfl
              try simp only [Act.put, List.setIfInBounds_toArray, List.set_cons_zero, List.set_cons_succ]
              refine' wpAnyH_take (i := 5) (v := _) (op_at rfl) (by kernel_rfl) (by kernel_rfl) (by kernel_rfl) (fun _ _ _ h => h) (Or.inl ⟨by rfl, ?hy105⟩) (by assumption) ?rest105
              case hy105 =>
                intro w' hS
                go_simp
                try with_reducible rfl
              try simp only [Act.put, List.setIfInBounds_toArray, List.set_cons_zero, List.set_cons_succ]
              refine' wpAnyH_take (i := 6) (v := _) (op_at rfl) (by kernel_rfl) (by kernel_rfl) (by kernel_rfl) (fun _ _ _ h => h) (Or.inl ⟨by rfl, ?hy106⟩) (by assumption) ?rest106
              case hy106 =>
                intro w' hS
                have b0_ := (HQ.out w' ((Only.drew wr []).trans hS)).2.1
                have b1_ := (HQ.out w' ((Only.drew wr []).trans hS)).2.2.1
                go_simp
                try with_reducible rfl
              try simp only [Act.put, List.setIfInBounds_toArray, List.set_cons_zero, List.set_cons_succ]
              refine' wpAnyH_take (i := 7) (v := _) (op_at rfl) (by kernel_rfl) (by kernel_rfl) (by kernel_rfl) (fun _ _ _ h => h) (Or.inl ⟨by rfl, ?hy107⟩) (by assumption) ?rest107
              case hy107 =>
                intro w' hS
                have z0 := (HQ.out w' ((Only.drew wr []).trans hS)).2.2.2.1
                have z1 := (HQ.out w' ((Only.drew wr []).trans hS)).2.2.2.2.1
                go_simp
                try with_reducible rfl
              try simp only [Act.put, List.setIfInBounds_toArray, List.set_cons_zero, List.set_cons_succ]
              refine' wpAnyH_take (i := 8) (v := _) (op_at rfl) (by kernel_rfl) (by kernel_rfl) (by kernel_rfl) (fun _ _ _ h => h) (Or.inl ⟨by rfl, ?hy108⟩) (by assumption) ?rest108
              case hy108 =>
                intro w' hS
                go_simp
                try with_reducible rfl
              try simp only [Act.put, List.setIfInBounds_toArray, List.set_cons_zero, List.set_cons_succ]
              refine' wpAnyH_take (i := 9) (v := _) (op_at rfl) (by kernel_rfl) (by kernel_rfl) (by kernel_rfl) (fun _ _ _ h => h) (Or.inl ⟨by rfl, ?hy109⟩) (by assumption) ?rest109
              case hy109 =>
                intro w' hS
                go_simp
                try with_reducible rfl
              try simp only [Act.put, List.setIfInBounds_toArray, List.set_cons_zero, List.set_cons_succ]
              refine' wpAnyH_take (i := 10) (v := _) (op_at rfl) (by kernel_rfl) (by kernel_rfl) (by kernel_rfl) (fun _ _ _ h => h) (Or.inl ⟨by rfl, ?hy110⟩) (by assumption) ?rest110
              case hy110 =>
                intro w' hS
                go_simp
                try with_reducible rfl
              try simp only [Act.put, List.setIfInBounds_toArray, List.set_cons_zero, List.set_cons_succ]
              refine wpAnyH_done (by kernel_rfl) ?_ _
              go_wp2_with fail
              exact ⟨⟨i + 1, true, true, by simp, by omega, rfl, rfl, by
                show _ = _
                rw [HS1.out, ← Es.out]
                simp [hh], by
                show _ = _
                rw [HO1.out, ← Eo.out]
                simp [other, hu], (oR.trans (Only.drew wr [])).trans hHeld⟩, by simp [intOf]; omega⟩
    · obtain rfl : i = bs.length := by omega
      have d1 : decide ((bs.length : Int) < bs.length) = false := by simp
      rw [List.take_length] at Es Eo
      have hz_ := oR.at hZY (by simp)
      have z0 := cell_two0 hz_
      have z1 := cell_two1 hz_
      have hx_ := oR.at hY (by simp)
      have x0 := cell_two0 hx_
      have x1 := cell_two1 hx_
      have oD := oC.trans oR
      have hY0 := hY
      clear HS hil hi hx_
      by_cases hmd : m = d
      · subst hmd
        cases s with
        | false =>
          go_wp2_with fail
          go_ret
          have : addOk u m m bs = false := by simp [addOk, ← Es.out]
          unfold RAdded
          rw [this]
          exact ⟨rfl, oD⟩
        | true =>
          cases o with
          | true =>
            go_wp2_with fail
            go_ret
            have : addOk u m m bs = false := by simp [addOk, ← Eo.out]
            unfold RAdded
            rw [this]
            exact ⟨rfl, oD⟩
          | false =>
            have Hok : Hid (addOk u m m bs = true) := by show _ = _; simp [addOk, ← Eo.out, ← Es.out]
            obtain ⟨d, rfl⟩ : ∃ d, d = m := ⟨_, rfl⟩
            have sR := sB.quiet oR
            clear x0 x1 z0 z1 oC hz_ hZY sB
            have z0 := cell_two0 (show wr.heap[Z]? = _ from sR.head)
            have z1 := cell_two1 (show wr.heap[Z]? = _ from sR.head)
            have x0 := cell_two0 (oR.at hY0 (by simp))
            have x1 := cell_two1 (oR.at hY0 (by simp))
            have sD : Pw.Sep w0 wr.drew (row 85 18 vv ms.length (fl rlc ms) :: blk S [vv, .slice none 0 0] 53 :: many (ms.map oo) :: row 40 10 (.slice ab bs.length cb) bs.length (fl bc bs) :: blk Z [.int .i64 u, .int .i64 d] 30 :: rs) := (sR.sel 5 [1, 2, 3, 4, 0]).quiet (Only.drew wr [])
            have HQ3 : Hid (∀ w', Only wr.drew w' vv.ownBlock.toList → w'.cell? ⟨S, 0, none⟩ = some vv ∧ w'.cell? ⟨Z, 0, none⟩ = some (.int .i64 u) ∧ w'.cell? ⟨Z, 1, none⟩ = some (.int .i64 d)) := fun w' o => by
              have a1 := Res.only (sD.sel 2 [1]).head o (fun i hi hm => sD.two_at (i := 0) (j := 1) rfl rfl (by decide) i (by simpa [row] using hm) hi)
              have a2 := Res.only (sD.sel 5 [4]).head o (fun i hi hm => sD.two_at (i := 0) (j := 4) rfl rfl (by decide) i (by simpa [row] using hm) hi)
              exact ⟨cell_two0 (show w'.heap[S]? = _ from a1), cell_two0 (show w'.heap[Z]? = _ from a2), cell_two1 (show w'.heap[Z]? = _ from a2)⟩
            clear sR
            go_upto_region 13 with fail
            refine wp_region_t (S := fun w' => Only wr.drew w' vv.ownBlock.toList) 11 (by kernel_rfl) (by kernel_rfl) (Only.refl _ _) (fun hZ hHeld => ?_)
            refine' wpAnyT_take (i := 0) (v := _) hZ (op_at' rfl) (by rfl) (by kernel_rfl) (by kernel_rfl) (by kernel_rfl) (by kernel_rfl) (fun _ _ _ h => h) (Or.inl ⟨by rfl, ?hy133⟩) (by assumption) ?rest133
            case hy133 =>
              intro w' hS
              go_simp
              try with_reducible rfl
            try simp only [Act.put, List.setIfInBounds_toArray, List.set_cons_zero, List.set_cons_succ]
            refine' wpAnyT_take (i := 1) (v := _) hZ (op_at' rfl) (by rfl) (by kernel_rfl) (by kernel_rfl) (by kernel_rfl) (by kernel_rfl) (fun _ _ _ h => h) (Or.inl ⟨by rfl, ?hy134⟩) (by assumption) ?rest134
            case hy134 =>
              intro w' hS
              go_simp
              try with_reducible rfl
            try simp only [Act.put, List.setIfInBounds_toArray, List.set_cons_zero, List.set_cons_succ]
            refine' wpAnyT_take (i := 2) (v := _) hZ (op_at' rfl) (by rfl) (by kernel_rfl) (by kernel_rfl) (by kernel_rfl) (by kernel_rfl) (fun _ _ _ h => h) (Or.inl ⟨by rfl, ?hy135⟩) (by assumption) ?rest135
            case hy135 =>
              intro w' hS
              go_simp
              try with_reducible rfl
            try simp only [Act.put, List.setIfInBounds_toArray, List.set_cons_zero, List.set_cons_succ]
            refine' wpAnyT_take (i := 3) (v := _) hZ (op_at' rfl) (by rfl) (by kernel_rfl) (by kernel_rfl) (by kernel_rfl) (by kernel_rfl) (fun _ _ _ h => h) (Or.inl ⟨by rfl, ?hy136⟩) (by assumption) ?rest136
            case hy136 =>
              intro w' hS
              go_simp
              try with_reducible rfl
            try simp only [Act.put, List.setIfInBounds_toArray, List.set_cons_zero, List.set_cons_succ]
            refine' wpAnyT_take (i := 4) (v := _) hZ (op_at' rfl) (by rfl) (by kernel_rfl) (by kernel_rfl) (by kernel_rfl) (by kernel_rfl) (fun _ _ _ h => h) (Or.inl ⟨by rfl, ?hy137⟩) (by assumption) ?rest137
            case hy137 =>
              intro w' hS
              have q_ := (HQ3.out w' hS).1
              go_simp
              try with_reducible rfl
            try simp only [Act.put, List.setIfInBounds_toArray, List.set_cons_zero, List.set_cons_succ]
            refine' wpAnyT_take (i := 5) (v := _) hZ (op_at' rfl) (by rfl) (by kernel_rfl) (by kernel_rfl) (by kernel_rfl) (by kernel_rfl) (fun _ _ _ h => h) (Or.inl ⟨by rfl, ?hy138⟩) (by assumption) ?rest138
            case hy138 =>
              intro w' hS
              have z0 := (HQ3.out w' hS).2.1
              have z1 := (HQ3.out w' hS).2.2
              go_simp
              try with_reducible rfl
            try simp only [Act.put, List.setIfInBounds_toArray, List.set_cons_zero, List.set_cons_succ]
            refine' wpAnyT_take (i := 6) (v := _) hZ (op_at' rfl) (by rfl) (by kernel_rfl) (by kernel_rfl) (by kernel_rfl) (by kernel_rfl) (fun _ _ _ h => h) (Or.inl ⟨by rfl, ?hy139⟩) (by assumption) ?rest139
            case hy139 =>
              intro w' hS
              go_simp
              try with_reducible rfl
            try simp only [Act.put, List.setIfInBounds_toArray, List.set_cons_zero, List.set_cons_succ]
            refine wpAnyT_one (i := 7) (by kernel_rfl) (op_at' rfl) (fun K hK => ?_)
            refine step_buildSlice_one (by rfl) 50 _ (by rfl) 85 i0 _ (rlc (rn u d)) (by rfl) Try.underlying50 hi0 hz0 (by rw [hz1, rlc_len]) (by rw [rlc_len]; rfl) (by rw [rlc_len]; decide) (by rw [rlc_len]; decide) (fun Y wS oS hYl hYS => ?_)
            go_wp2_with fail
            refine hK.out _ _ (oS.mono (by simp)) (fun hHeld => ?_)
            clear hK K
            try simp only [Act.put, List.setIfInBounds_toArray, List.set_cons_zero, List.set_cons_succ]
            refine wpAnyT_one (i := 8) (by kernel_rfl) (op_at' rfl) (fun K hK => ?_)
            refine step_append_sep (by rfl) _ _ 50 (by rfl) 85 i0 _ 18 240 Try.underlying50 hi0 hz0 hz1 hz2 rfl (by decide) vv ms.length _ (by rfl) (sD.quiet oS) _ 1 (rlc (rn u d)) (by rfl) (src_blk hYS (by rw [rlc_len])) (rlc_one _) (by unfold maxLen; omega) (by omega) (fun a8 c8 w8 o8 s8 => ?_)
            go_wp2_with fail
            refine hK.out _ _ ((oS.mono (by simp)).trans o8) (fun hHeld => ?_)
            clear hK K
            try simp only [Act.put, List.setIfInBounds_toArray, List.set_cons_zero, List.set_cons_succ]
            refine' wpAnyT_take (i := 9) (v := _) hZ (op_at' rfl) (by rfl) (by kernel_rfl) (by kernel_rfl) (by kernel_rfl) (by kernel_rfl) (fun _ _ _ h => h) (Or.inl ⟨by rfl, ?hy140⟩) (by assumption) ?rest140
            case hy140 =>
              intro w' hS
              go_simp
              try with_reducible rfl
            try simp only [Act.put, List.setIfInBounds_toArray, List.set_cons_zero, List.set_cons_succ]
            refine' wpAnyT_take (i := 10) (v := _) hZ (op_at' rfl) (by rfl) (by kernel_rfl) (by kernel_rfl) (by kernel_rfl) (by kernel_rfl) (fun _ _ _ h => h) (Or.inl ⟨by rfl, ?hy141⟩) (by assumption) ?rest141
            case hy141 =>
              intro w' hS
              go_simp
              try with_reducible rfl
            try simp only [Act.put, List.setIfInBounds_toArray, List.set_cons_zero, List.set_cons_succ]
            refine wpAnyT_last (by kernel_rfl) (op_at' rfl) (by kernel_rfl) (fun K hK => ?_)
            refine step_store_blk (by rfl) 50 _ _ (by rfl) S 0 (.slice a8 (ms.length + 1) c8) [.slice a8 (ms.length + 1) c8] [vv, .slice none 0 0] 53 (by rfl) (by rfl) (by rfl) (s8.sel 2 [1, 0]) (by simp) (by kernel_rfl) (by simp [Value.oneCell']) (fun w11 o11 s11 => ?_)
            go_wp2_with fail
            refine hK.out _ _ ?_
            clear hK K
            try simp only [Act.put, List.setIfInBounds_toArray, List.set_cons_zero, List.set_cons_succ]
            have s12 : Pw.Sep w0 w11 (many (ms.map oo) :: row 85 18 (.slice a8 (ms.length + 1) c8) (ms.length + 1) (fl rlc ms ++ rlc (rn u d)) :: blk S [.slice a8 (ms.length + 1) c8, .slice none 0 0] 53 :: row 40 10 (.slice ab bs.length cb) bs.length (fl bc bs) :: blk Z [.int .i64 u, .int .i64 d] 30 :: rs) := s11.sel 5 [2, 1, 0, 3, 4]
            have s13 : Pw.Sep w0 w11 (oo (rn u d) :: many (ms.map oo) :: _) := Sep.rowOn s12 40 10
            have s14 := s13.many_ins (ms.map oo).length
            rw [List.take_length, List.drop_length, show ms.map oo ++ [oo (rn u d)] = (ms ++ [rn u d]).map oo by simp, ← fl_snoc] at s14
            have s15 : Pw.Sep w0 w11 (refR S (.slice a8 (ms.length + 1) c8) (ms ++ [rn u d]) (row 40 10 (.slice ab bs.length cb) bs.length (fl bc bs) :: blk Z [.int .i64 u, .int .i64 d] 30 :: rs)) := by
              unfold refR
              rw [List.length_append]
              exact s14.sel 5 [1, 2, 0, 3, 4]
            have hk2 : ms.length < (ms ++ [rn u d]).length := by simp
            have hat : (ms ++ [rn u d])[ms.length] = rn u d := by simp
            have hfp := rfi_hit (u := u) (d := d) hk2 (by rw [hat]; exact ⟨rfl, rfl⟩) (fun j hj hlt => by
              rw [List.getElem_append_left hlt]
              exact Hnf.out _ (List.getElem_mem hlt))
            have his : ris (ms ++ [rn u d]) u d = true := by
              unfold ris
              rw [hfp.1, List.getElem?_eq_getElem hk2, hat]
              rfl
            have hl2 : (ms ++ [rn u d]).length ≤ 1000 := by simp; omega
            clear z0 z1 s8 s11 s12 s13 s14 sD hHeld
            have z0 := cell_two0 (show w11.heap[Z]? = _ from (s15.sel 5 [4]).head)
            have z1 := cell_two1 (show w11.heap[Z]? = _ from (s15.sel 5 [4]).head)
            go_wp2_with fail
            refine (rpub_ok S (ms ++ [rn u d]) _ u d _ bs ms.length (rn u d) _ s15 hl2 hbl his hfp.1 hk2 hat (by simp [rn]) (by simp [rn]) ?_).mono ?_
            · intro b hb
              have h1 := List.any_eq_false.1 Eo.out.symm b hb
              simpa [other] using h1
            rintro e w5 ⟨rfl, x', e1, e2, e3, e4, e5, e6, e7⟩
            rw [show (ms ++ [rn u d]).set ms.length x' = ms ++ [x'] by simp] at e7
            have e8 := e7.sel 5 [0, 1, 2, 3]
            clear s15 z0 z1 e7
            go_wp2_with fail
            go_ret
            unfold RAdded
            rw [if_pos Hok.out]
            exact ⟨rfl, _, x', e1, e2, e3, e4, e5, e6, e8⟩
      · have dm : decide (m = d) = false := by simpa using hmd
        go_wp2_with fail
        go_ret
        have : addOk u d m bs = false := by simp [addOk, hmd]
        unfold RAdded
        rw [this]
        exact ⟨rfl, oD⟩
end Go.Proofs.Yteljkfihmbddaaa
