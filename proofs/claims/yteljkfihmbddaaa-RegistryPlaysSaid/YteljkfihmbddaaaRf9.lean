/- The reference's Publish, refused (layer 17). Printed by gen_rf9.py. -/
import Derived.Test.YteljkfihmbddaaaRf7
set_option linter.unusedSimpArgs false
set_option linter.unusedVariables false
namespace Go.Proofs.Yteljkfihmbddaaa
open Go.RowKit Go.Pw
set_option linter.unusedVariables false

set_option maxRecDepth 100000 in
set_option maxHeartbeats 1600000 in
theorem rpub_none {w0 : World} {rs : List Res} (S : Nat) (ms : List Rl) (v : Value) (u d : Int) (vb : Value) (w : World) (h : Pw.Sep w0 w (refR S v ms rs)) (hl : ms.length ≤ 1000) (hI : ris ms u d = false) :
    Calls Try.prog 20 #[.pointer (some ⟨S, 0, none⟩), wv u d, vb] w fun e w' => e = .returned (.int .i64 2) ∧ Only w w' [] := by
  have HI := fun (w' : World) (o : Only w w' []) => ris_any S ms v u d w' (h.quiet o) (by omega)
  rw [hI] at HI
  clear h
  simp only [wv] at *
  go_enter Try.func20, Try.ntmps20
  go_wp2_with (refine wpList_box_new rfl 30 _ rfl (.agg #[.int .i64 u, .int .i64 d]) rfl ?_; intro Z wZ oZ hZl hZ; have z0 := cell_two0 hZ; have z1 := cell_two1 hZ)
  refine (HI _ oZ).mono ?_
  rintro e w1 ⟨rfl, o1⟩
  clear HI z0 z1
  go_wp2_with fail
  go_ret
  exact ⟨rfl, oZ.trans o1⟩

set_option maxRecDepth 100000 in
set_option maxHeartbeats 1600000 in
theorem rpub_arg {w0 : World} {rs : List Res} (S : Nat) (ms : List Rl) (v : Value) (u d : Int) (vb : Value) (bs : List Bu) (w : World) (h : Pw.Sep w0 w (refR S v ms rs)) (hl : ms.length ≤ 1000) (hI : ris ms u d = true) (hb : RdB w vb bs) (hbl : bs.length ≤ 1000) (hbad : ∃ b ∈ bs, ¬ (b.u = u ∧ b.d = d)) :
    Calls Try.prog 20 #[.pointer (some ⟨S, 0, none⟩), wv u d, vb] w fun e w' => e = .returned (.int .i64 1) ∧ Only w w' [] := by
  have HI := fun (w' : World) (o : Only w w' []) => ris_any S ms v u d w' (h.quiet o) (by omega)
  rw [hI] at HI
  clear h
  simp only [wv] at *
  obtain ⟨ab, cb, rfl⟩ := hb.slice
  have HS := fun (hp : 0 < bs.length) => src_rec bc_len (by decide) hb hp
  clear hb
  have hbad := Lib.hid hbad
  go_enter Try.func20, Try.ntmps20
  go_wp2_with (refine wpList_box_new rfl 30 _ rfl (.agg #[.int .i64 u, .int .i64 d]) rfl ?_; intro Z wZ oZ hZl hZ; have z0 := cell_two0 hZ; have z1 := cell_two1 hZ)
  refine (HI _ oZ).mono ?_
  rintro e w1 ⟨rfl, o1⟩
  clear HI z0 z1
  go_wp2_with fail
  go_loopw [7] (fun x wr => ∃ k : Nat, x = .int .i64 k ∧ k ≤ bs.length ∧ Hid (∀ j (hj : j < bs.length), j < k → (bs[j].u = u ∧ bs[j].d = d)) ∧ Only w1 wr []) (fun x _ => bs.length - (intOf x).toNat)
  case atStart => exact ⟨0, rfl, Nat.zero_le _, fun j hj h => by omega, Only.refl _ _⟩
  case round =>
    obtain ⟨k, rfl, hk, hn, oR⟩ := hrel
    by_cases hkl : k < bs.length
    · have d1 : decide ((k : Int) < bs.length) = true := by simpa using hkl
      obtain ⟨gb, ob, rfl, HR0⟩ := HS (by omega)
      have HR : Hid (∀ w', Only w w' [] → w'.rangeAt gb (ob + k * 10) (bc bs[k])) := fun w' o => HR0 w' o k hkl
      have oW := ((oZ.trans o1).trans oR).trans (Only.drew wr [])
      clear HS HR0
      by_cases hu : bs[k].u = u
      · by_cases hd : bs[k].d = d
        · have HO := Lib.hid (And.intro hu hd)
          have hn2 : Hid (∀ j (hj : j < bs.length), j < k + 1 → (bs[j].u = u ∧ bs[j].d = d)) := fun j hj hlt => by
            by_cases hjk : j = k
            · subst hjk; exact ⟨hu, hd⟩
            · exact hn.out j hj (by omega)
          clear hu hd hn
          go_upto_region 6 with fail
          refine wp_region_held_drew (S := fun w' => Only wr.drew w' []) (by kernel_rfl) (Only.refl _ _) (fun hHeld => ?_)
          refine' wpAnyH_take (i := 0) (v := _) (op_at rfl) (by kernel_rfl) (by kernel_rfl) (by kernel_rfl) (fun _ _ _ h => h) (Or.inl ⟨by rfl, ?hy1⟩) (by assumption) ?rest1
          case hy1 =>
            intro w' hS
            go_simp
            try with_reducible rfl
          try simp only [Act.put, List.setIfInBounds_toArray, List.set_cons_zero, List.set_cons_succ]
          refine' wpAnyH_take (i := 1) (v := _) (op_at rfl) (by kernel_rfl) (by kernel_rfl) (by kernel_rfl) (fun _ _ _ h => h) (Or.inl ⟨by rfl, ?hy2⟩) (by assumption) ?rest2
          case hy2 =>
            intro w' hS
            go_simp
            try with_reducible rfl
          try simp only [Act.put, List.setIfInBounds_toArray, List.set_cons_zero, List.set_cons_succ]
          refine' wpAnyH_take (i := 2) (v := _) (op_at rfl) (by kernel_rfl) (by kernel_rfl) (by kernel_rfl) (fun _ _ _ h => h) (Or.inl ⟨by rfl, ?hy3⟩) (by assumption) ?rest3
          case hy3 =>
            intro w' hS
            go_simp
            try with_reducible rfl
          try simp only [Act.put, List.setIfInBounds_toArray, List.set_cons_zero, List.set_cons_succ]
          refine' wpAnyH_take (i := 3) (v := _) (op_at rfl) (by kernel_rfl) (by kernel_rfl) (by kernel_rfl) (fun _ _ _ h => h) (Or.inl ⟨by rfl, ?hy4⟩) (by assumption) ?rest4
          case hy4 =>
            intro w' hS
            go_simp
            try with_reducible rfl
          try simp only [Act.put, List.setIfInBounds_toArray, List.set_cons_zero, List.set_cons_succ]
          refine' wpAnyH_take (i := 4) (v := _) (op_at rfl) (by kernel_rfl) (by kernel_rfl) (by kernel_rfl) (fun _ _ _ h => h) (Or.inl ⟨by rfl, ?hy5⟩) (by assumption) ?rest5
          case hy5 =>
            intro w' hS
            have hr_ := HR.out w' (oW.trans hS)
            have b0_ : w'.cell? ⟨gb, ob + k * 10, none⟩ = some (.int .i64 bs[k].u) := hr_ 0 _ rfl
            have b1_ : w'.cell? ⟨gb, ob + k * 10 + 1, none⟩ = some (.int .i64 bs[k].d) := hr_ 1 _ rfl
            rw [HO.out.1] at b0_
            rw [HO.out.2] at b1_
            go_simp
            try with_reducible rfl
          try simp only [Act.put, List.setIfInBounds_toArray, List.set_cons_zero, List.set_cons_succ]
          refine' wpAnyH_take (i := 5) (v := _) (op_at rfl) (by kernel_rfl) (by kernel_rfl) (by kernel_rfl) (fun _ _ _ h => h) (Or.inl ⟨by rfl, ?hy6⟩) (by assumption) ?rest6
          case hy6 =>
            intro w' hS
            have hz_ := (((o1.trans oR).trans (Only.drew wr [])).trans hS).at hZ (by simp)
            have z0 := cell_two0 hz_
            have z1 := cell_two1 hz_
            go_simp
            try with_reducible rfl
          try simp only [Act.put, List.setIfInBounds_toArray, List.set_cons_zero, List.set_cons_succ]
          refine' wpAnyH_take (i := 6) (v := _) (op_at rfl) (by kernel_rfl) (by kernel_rfl) (by kernel_rfl) (fun _ _ _ h => h) (Or.inl ⟨by rfl, ?hy7⟩) (by assumption) ?rest7
          case hy7 =>
            intro w' hS
            go_simp
            try with_reducible rfl
          try simp only [Act.put, List.setIfInBounds_toArray, List.set_cons_zero, List.set_cons_succ]
          refine wpAnyH_done (by kernel_rfl) ?_ _
          go_wp2_with fail
          exact ⟨⟨k + 1, by simp, by omega, hn2, oR.trans (Only.drew wr [])⟩, by simp [intOf]; omega⟩
        · have dd : decide (bs[k].d = d) = false := by simpa using hd
          have HO := Lib.hid hu
          clear hu hn
          go_upto_region 6 with fail
          refine wp_region_held_drew (S := fun w' => Only wr.drew w' []) (by kernel_rfl) (Only.refl _ _) (fun hHeld => ?_)
          refine' wpAnyH_take (i := 0) (v := _) (op_at rfl) (by kernel_rfl) (by kernel_rfl) (by kernel_rfl) (fun _ _ _ h => h) (Or.inl ⟨by rfl, ?hy8⟩) (by assumption) ?rest8
          case hy8 =>
            intro w' hS
            go_simp
            try with_reducible rfl
          try simp only [Act.put, List.setIfInBounds_toArray, List.set_cons_zero, List.set_cons_succ]
          refine' wpAnyH_take (i := 1) (v := _) (op_at rfl) (by kernel_rfl) (by kernel_rfl) (by kernel_rfl) (fun _ _ _ h => h) (Or.inl ⟨by rfl, ?hy9⟩) (by assumption) ?rest9
          case hy9 =>
            intro w' hS
            go_simp
            try with_reducible rfl
          try simp only [Act.put, List.setIfInBounds_toArray, List.set_cons_zero, List.set_cons_succ]
          refine' wpAnyH_take (i := 2) (v := _) (op_at rfl) (by kernel_rfl) (by kernel_rfl) (by kernel_rfl) (fun _ _ _ h => h) (Or.inl ⟨by rfl, ?hy10⟩) (by assumption) ?rest10
          case hy10 =>
            intro w' hS
            go_simp
            try with_reducible rfl
          try simp only [Act.put, List.setIfInBounds_toArray, List.set_cons_zero, List.set_cons_succ]
          refine' wpAnyH_take (i := 3) (v := _) (op_at rfl) (by kernel_rfl) (by kernel_rfl) (by kernel_rfl) (fun _ _ _ h => h) (Or.inl ⟨by rfl, ?hy11⟩) (by assumption) ?rest11
          case hy11 =>
            intro w' hS
            go_simp
            try with_reducible rfl
          try simp only [Act.put, List.setIfInBounds_toArray, List.set_cons_zero, List.set_cons_succ]
          refine' wpAnyH_take (i := 4) (v := _) (op_at rfl) (by kernel_rfl) (by kernel_rfl) (by kernel_rfl) (fun _ _ _ h => h) (Or.inl ⟨by rfl, ?hy12⟩) (by assumption) ?rest12
          case hy12 =>
            intro w' hS
            have hr_ := HR.out w' (oW.trans hS)
            have b0_ : w'.cell? ⟨gb, ob + k * 10, none⟩ = some (.int .i64 bs[k].u) := hr_ 0 _ rfl
            have b1_ : w'.cell? ⟨gb, ob + k * 10 + 1, none⟩ = some (.int .i64 bs[k].d) := hr_ 1 _ rfl
            rw [HO.out] at b0_
            go_simp
            try with_reducible rfl
          try simp only [Act.put, List.setIfInBounds_toArray, List.set_cons_zero, List.set_cons_succ]
          refine' wpAnyH_take (i := 5) (v := _) (op_at rfl) (by kernel_rfl) (by kernel_rfl) (by kernel_rfl) (fun _ _ _ h => h) (Or.inl ⟨by rfl, ?hy13⟩) (by assumption) ?rest13
          case hy13 =>
            intro w' hS
            have hz_ := (((o1.trans oR).trans (Only.drew wr [])).trans hS).at hZ (by simp)
            have z0 := cell_two0 hz_
            have z1 := cell_two1 hz_
            go_simp
            try with_reducible rfl
          try simp only [Act.put, List.setIfInBounds_toArray, List.set_cons_zero, List.set_cons_succ]
          refine' wpAnyH_take (i := 6) (v := _) (op_at rfl) (by kernel_rfl) (by kernel_rfl) (by kernel_rfl) (fun _ _ _ h => h) (Or.inl ⟨by rfl, ?hy14⟩) (by assumption) ?rest14
          case hy14 =>
            intro w' hS
            go_simp
            try with_reducible rfl
          try simp only [Act.put, List.setIfInBounds_toArray, List.set_cons_zero, List.set_cons_succ]
          refine wpAnyH_done (by kernel_rfl) ?_ _
          go_wp2_with fail
          go_ret
          exact ⟨rfl, oW⟩
      · have du : decide (bs[k].u = u) = false := by simpa using hu
        clear hn
        go_upto_region 6 with fail
        refine wp_region_held_drew (S := fun w' => Only wr.drew w' []) (by kernel_rfl) (Only.refl _ _) (fun hHeld => ?_)
        refine' wpAnyH_take (i := 0) (v := _) (op_at rfl) (by kernel_rfl) (by kernel_rfl) (by kernel_rfl) (fun _ _ _ h => h) (Or.inl ⟨by rfl, ?hy15⟩) (by assumption) ?rest15
        case hy15 =>
          intro w' hS
          go_simp
          try with_reducible rfl
        try simp only [Act.put, List.setIfInBounds_toArray, List.set_cons_zero, List.set_cons_succ]
        refine' wpAnyH_take (i := 1) (v := _) (op_at rfl) (by kernel_rfl) (by kernel_rfl) (by kernel_rfl) (fun _ _ _ h => h) (Or.inl ⟨by rfl, ?hy16⟩) (by assumption) ?rest16
        case hy16 =>
          intro w' hS
          go_simp
          try with_reducible rfl
        try simp only [Act.put, List.setIfInBounds_toArray, List.set_cons_zero, List.set_cons_succ]
        refine' wpAnyH_take (i := 2) (v := _) (op_at rfl) (by kernel_rfl) (by kernel_rfl) (by kernel_rfl) (fun _ _ _ h => h) (Or.inl ⟨by rfl, ?hy17⟩) (by assumption) ?rest17
        case hy17 =>
          intro w' hS
          go_simp
          try with_reducible rfl
        try simp only [Act.put, List.setIfInBounds_toArray, List.set_cons_zero, List.set_cons_succ]
        refine' wpAnyH_take (i := 3) (v := _) (op_at rfl) (by kernel_rfl) (by kernel_rfl) (by kernel_rfl) (fun _ _ _ h => h) (Or.inl ⟨by rfl, ?hy18⟩) (by assumption) ?rest18
        case hy18 =>
          intro w' hS
          go_simp
          try with_reducible rfl
        try simp only [Act.put, List.setIfInBounds_toArray, List.set_cons_zero, List.set_cons_succ]
        refine' wpAnyH_take (i := 4) (v := _) (op_at rfl) (by kernel_rfl) (by kernel_rfl) (by kernel_rfl) (fun _ _ _ h => h) (Or.inl ⟨by rfl, ?hy19⟩) (by assumption) ?rest19
        case hy19 =>
          intro w' hS
          have hr_ := HR.out w' (oW.trans hS)
          have b0_ : w'.cell? ⟨gb, ob + k * 10, none⟩ = some (.int .i64 bs[k].u) := hr_ 0 _ rfl
          have b1_ : w'.cell? ⟨gb, ob + k * 10 + 1, none⟩ = some (.int .i64 bs[k].d) := hr_ 1 _ rfl
          go_simp
          try with_reducible rfl
        try simp only [Act.put, List.setIfInBounds_toArray, List.set_cons_zero, List.set_cons_succ]
        refine' wpAnyH_take (i := 5) (v := _) (op_at rfl) (by kernel_rfl) (by kernel_rfl) (by kernel_rfl) (fun _ _ _ h => h) (Or.inl ⟨by rfl, ?hy20⟩) (by assumption) ?rest20
        case hy20 =>
          intro w' hS
          have hz_ := (((o1.trans oR).trans (Only.drew wr [])).trans hS).at hZ (by simp)
          have z0 := cell_two0 hz_
          have z1 := cell_two1 hz_
          go_simp
          try with_reducible rfl
        try simp only [Act.put, List.setIfInBounds_toArray, List.set_cons_zero, List.set_cons_succ]
        refine' wpAnyH_take (i := 6) (v := _) (op_at rfl) (by kernel_rfl) (by kernel_rfl) (by kernel_rfl) (fun _ _ _ h => h) (Or.inl ⟨by rfl, ?hy21⟩) (by assumption) ?rest21
        case hy21 =>
          intro w' hS
          go_simp
          try with_reducible rfl
        try simp only [Act.put, List.setIfInBounds_toArray, List.set_cons_zero, List.set_cons_succ]
        refine wpAnyH_done (by kernel_rfl) ?_ _
        go_wp2_with fail
        go_ret
        exact ⟨rfl, oW⟩
    · exfalso
      obtain ⟨b, hbm, hbb⟩ := hbad.out
      obtain ⟨j, hj, rfl⟩ := List.mem_iff_getElem.1 hbm
      exact hbb (hn.out j hj (by omega))
end Go.Proofs.Yteljkfihmbddaaa
