/- Layer 5 (chacha): the contracts of Seal and Open. -/
import Derived.Test.YtemmdhfmdgpfmaaSeal1
import Derived.Test.YtemmdhfmdgpfmaaRegion
namespace Go.Proofs.Ytemmdhfmdgpfmaa
open Go.RowKit Go.Pw
set_option linter.unusedVariables false

/-- A fresh row, named, and its text in every later world. -/
theorem Fresh.str {xs : List Int} {w : World} {e : Ending} {w' : World} (h : Fresh xs w e w') : ∃ ys ao c, Hid (ys = xs) ∧ e = .returned (.slice ao ys.length c) ∧ Only w w' [] ∧ w'.ownsRow 0 5 1 (.slice ao ys.length c) ys.length (ys.map (Value.int .u8)) ∧ ∀ w2, Only w' w2 [] → (convert 22 9 (.slice ao ys.length c)).run Try.prog w2 = .ok (.string (strOfNums ys)) w2 := by
  obtain ⟨ys, ao, c, H, rfl, h1, h2, h3⟩ := h.name
  exact ⟨ys, ao, c, H, rfl, h3, h1, fun w2 ho => run_str (P := Try.prog) (w := w2) (S := 22) (T := 9) Try.underlying22 Try.underlying5 Try.underlying9 ((own_src h1).off ho (fun _ _ _ => by simp)) rfl⟩


theorem fresh_row {w wr : World} {v : Value} {ys : List Int} {rs : List Res} (hs : Pw.Sep w wr (row 5 1 v ys.length (ys.map (.int .u8)) :: rs)) : Fresh ys w (.returned v) wr :=
  ⟨_, rfl, hs.head, fun k hk => .inr (hs.new _ (List.mem_cons_self ..) k (by simpa [row] using hk)), hs.only⟩
def sealL (ks ns ws xs : List Int) : List Int := streamL ks 1 ns xs ++ tagM ks ns ws (streamL ks 1 ns xs)
theorem tagM_len (ks ns ws cs : List Int) : (tagM ks ns ws cs).length = 16 := tagL_len _ _
theorem tagM_byt (ks ns ws cs : List Int) : ∀ x ∈ tagM ks ns ws cs, 0 ≤ x ∧ x < 256 := tagL_byt _ _
theorem sealL_len (ks ns ws xs : List Int) : (sealL ks ns ws xs).length = xs.length + 16 := by rw [sealL, List.length_append, stream_len, tagM_len]
theorem sealL_byt {ks ns ws xs : List Int} (h : ∀ x ∈ xs, 0 ≤ x ∧ x < 256) : ∀ x ∈ sealL ks ns ws xs, 0 ≤ x ∧ x < 256 := app_byt (stream_byt h) (tagM_byt _ _ _ _)

set_option maxRecDepth 100000 in
set_option maxHeartbeats 3200000 in
theorem cseal_any (key nonce p : Value) (aw : Option Addr) (cw : Nat) (ks ns ws xs : List Int) (w : World) (hk : Pw.Src w key 1 ks.length (ks.map (Value.int .u8))) (hkb : ∀ x ∈ ks, 0 ≤ x ∧ x < 256)
    (hn : Pw.Src w nonce 1 ns.length (ns.map (Value.int .u8))) (hnb : ∀ x ∈ ns, 0 ≤ x ∧ x < 256) (hw : Pw.Src w (.slice aw ws.length cw) 1 ws.length (ws.map (Value.int .u8))) (hwb : ∀ x ∈ ws, 0 ≤ x ∧ x < 256)
    (hp : Pw.Src w p 1 xs.length (xs.map (Value.int .u8))) (hxb : ∀ x ∈ xs, 0 ≤ x ∧ x < 256) (hwl : ws.length ≤ 10000) (hxl : xs.length ≤ 10000) :
    Calls Try.prog 17 #[key, nonce, .slice aw ws.length cw, p] w (Fresh (sealL ks ns ws xs) w) := by
  obtain ⟨inf, hi0, hz0, hz1, hz2⟩ := info_parts Try.info5
  obtain ⟨ap, cp, rfl, _⟩ := id hp
  go_enter Try.func17, Try.ntmps17
  go_wp2_with fail
  refine (stream_any key nonce _ ks ns xs 1 w hk hkb hn hnb (by unfold W32; omega) hp hxb (by omega)).mono ?_
  rintro e w1 ⟨v, rfl, h1, h2, h3⟩
  obtain ⟨a1, c1, rfl⟩ := own_slice h1
  have s1 := (Sep.nil w).row0 h1 h2 h3
  have hCb := Lib.hid (stream_byt (ks := ks) (n := 1) (ns := ns) hxb)
  have hCl : (streamL ks 1 ns xs).length ≤ 10000 := by rw [stream_len]; exact hxl
  obtain ⟨C, hC⟩ : ∃ C, C = streamL ks 1 ns xs := ⟨_, rfl⟩
  rw [← hC] at s1 hCb hCl ⊢
  have HC := Lib.hid hC
  clear hC h1 h2 h3
  have hCs : Pw.Src w1 (.slice a1 C.length c1) 1 C.length (C.map (.int .u8)) := own_src s1.head
  go_wp2_with fail
  refine (ctag_any key nonce aw a1 cw c1 ks ns ws C w1 (s1.src hk) hkb (s1.src hn) hnb (s1.src hw) hwb hCs hCb.out hwl hCl).mono ?_
  rintro e w2 hf
  obtain ⟨g, c, rfl, kc1, kc2, hsT⟩ := hf.row 16 (tagM_len _ _ _ _) (by decide)
  have s2 := hsT s1
  have hT : Pw.Src w2 (.slice (some ⟨g, 0, none⟩) 16 c) 1 16 ((tagM ks ns ws C).map (.int .u8)) := own_src s2.head
  have s3 := s2.up 1 (by simp)
  have hown : w2.ownsRow 0 5 1 (.slice a1 C.length c1) C.length (C.map (.int .u8)) := s3.head
  clear hf hsT hCs s1 s2
  go_wp2_with (at_builtin; refine wpList_append_src rfl _ _ 22 rfl 5 inf (.int .u8 0) 1 1 Try.underlying22 hi0 hz0 hz1 hz2 rfl (by decide) (.slice a1 C.length c1) C.length (C.map (.int .u8)) rfl hown _ 16 _ rfl hT (one_ints _ _) (by unfold maxLen; omega) (by omega) ?_; intro v7 w7 g1 g2 g3; obtain ⟨a7, c7, rfl⟩ := own_slice g1)
  have s4 := Sep.app s3 g1 g2 g3
  have e1 : sealL ks ns ws xs = C ++ tagM ks ns ws C := by rw [HC.out]; rfl
  have s5 : Pw.Sep w w7 [row 5 1 (.slice a7 (C.length + 16) c7) (sealL ks ns ws xs).length ((sealL ks ns ws xs).map (.int .u8))] := by
    rw [e1, List.map_append, List.length_append, tagM_len]; exact Sep.one s4
  have hfr := Lib.hid (fresh_row s5)
  clear g1 g2 g3 s3 s4 s5 hown hT e1
  go_wp2_with fail
  go_ret
  exact hfr.out

def openB (ks ns ws xs : List Int) : Bool := decide (16 ≤ xs.length ∧ tagM ks ns ws (xs.take (xs.length - 16)) = xs.drop (xs.length - 16))
def openL (ks ns ws xs : List Int) : List Int := if openB ks ns ws xs then streamL ks 1 ns (xs.take (xs.length - 16)) else []
def Opened (ks ns ws xs : List Int) (w : World) (e : Ending) (w' : World) : Prop :=
  Only w w' [] ∧ ∃ ao c, e = .returned (.tuple #[.slice ao (openL ks ns ws xs).length c, .bool (openB ks ns ws xs)]) ∧ Pw.Src w' (.slice ao (openL ks ns ws xs).length c) 1 (openL ks ns ws xs).length ((openL ks ns ws xs).map (.int .u8))
theorem src_nil (w : World) : Pw.Src w (.slice none 0 0) 1 ([] : List Int).length (([] : List Int).map (.int .u8)) := ⟨none, 0, rfl, Nat.le_refl _, Nat.zero_le _, rfl, fun _ => ⟨rfl, rfl⟩, by simp⟩

set_option maxRecDepth 100000 in
set_option maxHeartbeats 3200000 in
theorem copen_any (key nonce : Value) (aw ap : Option Addr) (cw cq : Nat) (ks ns ws xs : List Int) (w : World) (hk : Pw.Src w key 1 ks.length (ks.map (Value.int .u8))) (hkb : ∀ x ∈ ks, 0 ≤ x ∧ x < 256)
    (hn : Pw.Src w nonce 1 ns.length (ns.map (Value.int .u8))) (hnb : ∀ x ∈ ns, 0 ≤ x ∧ x < 256) (hw : Pw.Src w (.slice aw ws.length cw) 1 ws.length (ws.map (Value.int .u8))) (hwb : ∀ x ∈ ws, 0 ≤ x ∧ x < 256)
    (hp : Pw.Src w (.slice ap xs.length cq) 1 xs.length (xs.map (Value.int .u8))) (hxb : ∀ x ∈ xs, 0 ≤ x ∧ x < 256) (hwl : ws.length ≤ 10000) (hxl : xs.length ≤ 10000) :
    Calls Try.prog 16 #[key, nonce, .slice aw ws.length cw, .slice ap xs.length cq] w (Opened ks ns ws xs w) := by
  by_cases h16 : xs.length < 16
  · have i1 : IntKind.i64.wrap ((xs.length : Int) - 16) = (xs.length : Int) - 16 := IntWalk.i64_in _ (by omega)
    have d0 : decide ((xs.length : Int) - 16 < 0) = true := by simp; omega
    have hb : Hid (openB ks ns ws xs = false) := by show _ = _; simp [openB]; omega
    have hL : Hid (openL ks ns ws xs = []) := by show _ = _; rw [openL, hb.out]; rfl
    have hlt : (xs.length : Int) < 16 := by omega
    go_enter Try.func16, Try.ntmps16
    go_upto_region 2 with fail
    go_quiet (fail)
    go_wp2_with fail
    go_ret2
    unfold Opened
    rw [hb.out, hL.out]
    exact ⟨Only.drewN _ _ _, none, 0, rfl, src_nil _⟩
  · obtain ⟨n, hn9⟩ : ∃ n, xs.length = n + 16 := ⟨xs.length - 16, by omega⟩
    have hcq : xs.length ≤ cq := by
      obtain ⟨_, _, he, k1, _⟩ := id hp
      simp only [Value.slice.injEq] at he
      omega
    obtain ⟨ah, hsl1, hsl2⟩ := slice_to8 ap xs.length cq n (by omega) hcq
    obtain ⟨ad, cd, hsl3, hsl4⟩ := slice_ex ap xs.length cq n 16 (by omega)
    obtain ⟨H, hH0⟩ : ∃ H, H = xs.take n := ⟨_, rfl⟩
    obtain ⟨D, hD0⟩ : ∃ D, D = xs.drop n := ⟨_, rfl⟩
    have hHl : Hid (H.length = n) := by show _ = _; rw [hH0]; simp; omega
    have hDl : Hid (D.length = 16) := by show _ = _; rw [hD0]; simp; omega
    have hHb : Hid (∀ x ∈ H, 0 ≤ x ∧ x < 256) := by show ∀ _, _; rw [hH0]; exact fun x hx => hxb x (List.mem_of_mem_take hx)
    have hDb : Hid (∀ x ∈ D, 0 ≤ x ∧ x < 256) := by show ∀ _, _; rw [hD0]; exact fun x hx => hxb x (List.mem_of_mem_drop hx)
    have hdr := Only.drew w []
    have hH : Hid (Pw.Src w.drew (.slice ah H.length cq) 1 H.length (H.map (.int .u8))) := by
      show Pw.Src _ _ _ _ _
      rw [hHl.out, hH0, List.map_take]; exact (hsl2 _ _ hp).drew
    have hD : Hid (Pw.Src w.drew (.slice ad D.length cd) 1 D.length (D.map (.int .u8))) := by
      show Pw.Src _ _ _ _ _
      rw [hDl.out, hD0, List.map_drop]; exact (hsl4 _ _ hp).drew
    have hob : Hid (openB ks ns ws xs = decide (tagM ks ns ws H = D)) := by
      show _ = _
      unfold openB
      rw [show xs.length - 16 = n by omega, ← hH0, ← hD0]
      simp only [decide_eq_decide]
      constructor
      · exact fun h => h.2
      · exact fun h => ⟨by omega, h⟩
    have hoL : Hid (openL ks ns ws xs = if decide (tagM ks ns ws H = D) then streamL ks 1 ns H else []) := by
      show _ = _
      unfold openL
      rw [hob.out, show xs.length - 16 = n by omega, ← hH0]
    rw [← hHl.out] at hsl1 hsl3
    rw [← hDl.out] at hsl3
    have i1 : IntKind.i64.wrap ((xs.length : Int) - 16) = (H.length : Int) := by rw [IntWalk.i64_in _ (by omega), hHl.out]; omega
    have d0 : decide ((H.length : Int) < 0) = false := by simp
    have hHl2 : H.length ≤ 10000 := by rw [hHl.out]; omega
    have hk1 := Lib.hid hk.drew
    have hn1 := Lib.hid hn.drew
    have hw1 := Lib.hid hw.drew
    have HH0 := Lib.hid hH0
    clear hsl2 hsl4 hH0 hD0 hn9 h16 hcq hp
    go_enter Try.func16, Try.ntmps16
    go_upto_region 2 with fail
    refine wp_region_held_drew (S := fun w' => Only w.drew w' []) (by kernel_rfl) (Only.refl _ _) (fun hHeld => ?_)
    refine' wpAnyH_take (i := 0) (v := _) (op_at rfl) (by kernel_rfl) (by kernel_rfl) (by kernel_rfl) (fun _ _ _ h => h) (Or.inl ⟨by rfl, ?hy1⟩) (by assumption) ?rest1
    case hy1 =>
      intro w' hS
      go_simp
      try with_reducible rfl
    try simp only [Act.put, List.setIfInBounds_toArray, List.set_cons_zero, List.set_cons_succ]
    refine' wpAnyH_take (i := 1) (v := _) (op_at rfl) (by kernel_rfl) (by kernel_rfl) (by kernel_rfl) (fun _ _ _ h => h) (Or.inl ⟨by rfl, ?hy2⟩) (by assumption) ?rest2
    case hy2 =>
      intro w' hS
      go_simp
      try with_reducible rfl
    try simp only [Act.put, List.setIfInBounds_toArray, List.set_cons_zero, List.set_cons_succ]
    refine' wpAnyH_take (i := 2) (v := _) (op_at rfl) (by kernel_rfl) (by kernel_rfl) (by kernel_rfl) (fun _ _ _ h => h) (Or.inl ⟨by rfl, ?hy3⟩) (by assumption) ?rest3
    case hy3 =>
      intro w' hS
      go_simp
      try with_reducible rfl
    try simp only [Act.put, List.setIfInBounds_toArray, List.set_cons_zero, List.set_cons_succ]
    refine' wpAnyH_take (i := 3) (v := _) (op_at rfl) (by kernel_rfl) (by kernel_rfl) (by kernel_rfl) (fun _ _ _ h => h) (Or.inl ⟨by rfl, ?hy4⟩) (by assumption) ?rest4
    case hy4 =>
      intro w' hS
      go_simp
      try with_reducible rfl
    try simp only [Act.put, List.setIfInBounds_toArray, List.set_cons_zero, List.set_cons_succ]
    refine' wpAnyH_take (i := 4) (v := _) (op_at rfl) (by kernel_rfl) (by kernel_rfl) (by kernel_rfl) (fun _ _ _ h => h) (Or.inl ⟨by rfl, ?hy5⟩) (by assumption) ?rest5
    case hy5 =>
      intro w' hS
      go_simp
      try with_reducible rfl
    try simp only [Act.put, List.setIfInBounds_toArray, List.set_cons_zero, List.set_cons_succ]
    refine' wpAnyH_take (i := 5) (v := _) (op_at rfl) (by kernel_rfl) (by kernel_rfl) (by kernel_rfl) (fun _ _ _ h => h) (Or.inl ⟨by rfl, ?hy6⟩) (by assumption) ?rest6
    case hy6 =>
      intro w' hS
      go_simp
      try with_reducible rfl
    try simp only [Act.put, List.setIfInBounds_toArray, List.set_cons_zero, List.set_cons_succ]
    refine' wpAnyH_take (i := 6) (v := _) (op_at rfl) (by kernel_rfl) (by kernel_rfl) (by kernel_rfl) (fun _ _ _ h => h) (Or.inl ⟨by rfl, ?hy7⟩) (by assumption) ?rest7
    case hy7 =>
      intro w' hS
      go_simp
      try with_reducible rfl
    try simp only [Act.put, List.setIfInBounds_toArray, List.set_cons_zero, List.set_cons_succ]
    refine' wpAnyH_take (i := 7) (v := _) (op_at rfl) (by kernel_rfl) (by kernel_rfl) (by kernel_rfl) (fun _ _ _ h => h) (Or.inl ⟨by rfl, ?hy8⟩) (by assumption) ?rest8
    case hy8 =>
      intro w' hS
      go_simp
      try with_reducible rfl
    try simp only [Act.put, List.setIfInBounds_toArray, List.set_cons_zero, List.set_cons_succ]
    refine' wpAnyH_take (i := 8) (v := _) (op_at rfl) (by kernel_rfl) (by kernel_rfl) (by kernel_rfl) (fun _ _ _ h => h) (Or.inl ⟨by rfl, ?hy9⟩) (by assumption) ?rest9
    case hy9 =>
      intro w' hS
      go_simp
      try with_reducible rfl
    try simp only [Act.put, List.setIfInBounds_toArray, List.set_cons_zero, List.set_cons_succ]
    refine' wpAnyH_take (i := 11) (v := _) (op_at rfl) (by kernel_rfl) (by kernel_rfl) (by kernel_rfl) (fun _ _ _ h => h) (Or.inl ⟨by rfl, ?hy10⟩) (by assumption) ?rest10
    case hy10 =>
      intro w' hS
      go_simp
      try with_reducible rfl
    try simp only [Act.put, List.setIfInBounds_toArray, List.set_cons_zero, List.set_cons_succ]
    refine' wpAnyH_take (i := 12) (v := _) (op_at rfl) (by kernel_rfl) (by kernel_rfl) (by kernel_rfl) (fun _ _ _ h => h) (Or.inl ⟨by rfl, ?hy11⟩) (by assumption) ?rest11
    case hy11 =>
      intro w' hS
      go_simp
      try with_reducible rfl
    try simp only [Act.put, List.setIfInBounds_toArray, List.set_cons_zero, List.set_cons_succ]
    refine' wpAnyH_take (i := 13) (v := _) (op_at rfl) (by kernel_rfl) (by kernel_rfl) (by kernel_rfl) (fun _ _ _ h => h) (Or.inl ⟨by rfl, ?hy12⟩) (by assumption) ?rest12
    case hy12 =>
      intro w' hS
      go_simp
      try with_reducible rfl
    try simp only [Act.put, List.setIfInBounds_toArray, List.set_cons_zero, List.set_cons_succ]
    refine' wpAnyH_take (i := 14) (v := _) (op_at rfl) (by kernel_rfl) (by kernel_rfl) (by kernel_rfl) (fun _ _ _ h => h) (Or.inl ⟨by rfl, ?hy13⟩) (by assumption) ?rest13
    case hy13 =>
      intro w' hS
      have hs_ := run_str (P := Try.prog) (w := w') (S := 22) (T := 9) Try.underlying22 Try.underlying5 Try.underlying9 (Pw.Src.off hD.out hS (fun _ _ _ => by simp)) rfl
      go_simp
      try with_reducible rfl
    try simp only [Act.put, List.setIfInBounds_toArray, List.set_cons_zero, List.set_cons_succ]
    refine wpAnyH_ready (rs := [9]) (by kernel_rfl) (by simp) (AllReadyH.cons (op_at rfl) (fun K hK => ?_) AllReadyH.nil)
    go_simp
    refine (ctag_any _ _ aw ah cw cq ks ns ws H _ hk1.out hkb hn1.out hnb hw1.out hwb hH.out hHb.out hwl (by omega)).mono fun e w2 hq => ?_
    obtain ⟨ys, a2, c2, Hys, rfl, o2, g2, t2⟩ := hq.str
    clear hq
    go_wp2_with fail
    refine hK.out _ _ (o2) (fun hHeld => ?_)
    clear hK K
    try simp only [Act.put, List.setIfInBounds_toArray, List.set_cons_zero, List.set_cons_succ]
    refine wpAnyH_more (S' := fun w' => Only w2 w' []) (fun w' h => Only.trans o2 h) _ _ _ _ ?_
    clear hHeld
    have hHeld : Only w2 w2 [] := Only.refl _ _
    have hD2 := Lib.hid (Pw.Src.off hD.out o2 (fun _ _ _ => by simp))
    refine' wpAnyH_take (i := 10) (v := _) (op_at rfl) (by kernel_rfl) (by kernel_rfl) (by kernel_rfl) (fun _ _ _ h => h) (Or.inl ⟨by rfl, ?hy14⟩) (by assumption) ?rest14
    case hy14 =>
      intro w' hS
      have hs_ := t2 w' hS
      go_simp
      try with_reducible rfl
    try simp only [Act.put, List.setIfInBounds_toArray, List.set_cons_zero, List.set_cons_succ]
    refine' wpAnyH_take (i := 15) (v := _) (op_at rfl) (by kernel_rfl) (by kernel_rfl) (by kernel_rfl) (fun _ _ _ h => h) (Or.inl ⟨by rfl, ?hy15⟩) (by assumption) ?rest15
    case hy15 =>
      intro w' hS
      go_simp
      try with_reducible rfl
    try simp only [Act.put, List.setIfInBounds_toArray, List.set_cons_zero, List.set_cons_succ]
    refine' wpAnyH_take (i := 16) (v := _) (op_at rfl) (by kernel_rfl) (by kernel_rfl) (by kernel_rfl) (fun _ _ _ h => h) (Or.inl ⟨by rfl, ?hy16⟩) (by assumption) ?rest16
    case hy16 =>
      intro w' hS
      go_simp
      try with_reducible rfl
    try simp only [Act.put, List.setIfInBounds_toArray, List.set_cons_zero, List.set_cons_succ]
    refine wpAnyH_done (by kernel_rfl) ?_ _
    have hyb : ∀ x ∈ ys, 0 ≤ x ∧ x < 256 := by rw [Hys.out]; exact tagM_byt _ _ _ _
    have hsb := str_beq hyb hDb.out
    clear hyb
    by_cases heq : ys = D
    · rw [decide_eq_true heq] at hsb
      have htd : Hid (tagM ks ns ws H = D) := Hys.out.symm.trans heq
      have hk2 := Lib.hid (hk1.out.off o2 (fun _ _ _ => by simp))
      have hn2 := Lib.hid (hn1.out.off o2 (fun _ _ _ => by simp))
      have hH2 := Lib.hid (hH.out.off o2 (fun _ _ _ => by simp))
      have o22 := Lib.hid (hdr.trans o2)
      clear heq g2 t2 hHeld
      rw [hsb]
      go_wp2_with fail
      refine (stream_any key nonce _ ks ns H 1 w2 hk2.out hkb hn2.out hnb (by unfold W32; omega) hH2.out hHb.out (by omega)).mono ?_
      rintro e w5 ⟨v, rfl, k1, k2, k3⟩
      have hb : openB ks ns ws xs = true := by rw [hob.out, htd.out]; simp
      have hL : openL ks ns ws xs = streamL ks 1 ns H := by rw [hoL.out, htd.out]; simp
      obtain ⟨a5, c5, rfl⟩ := own_slice k1
      have k1 := Lib.hid (own_src k1)
      have k3 := Lib.hid k3
      have hb := Lib.hid hb
      have hL := Lib.hid hL
      clear k2
      go_wp2_with fail
      go_ret2
      unfold Opened
      rw [hb.out, hL.out]
      exact ⟨o22.out.trans k3.out, a5, c5, rfl, k1.out⟩
    · rw [decide_eq_false heq] at hsb
      have hb : openB ks ns ws xs = false := by rw [hob.out, ← Hys.out]; simp [heq]
      have hL : openL ks ns ws xs = [] := by rw [openL, hb]; rfl
      have hb := Lib.hid hb
      have hL := Lib.hid hL
      have o22 := Lib.hid (hdr.trans o2)
      clear g2 t2 hHeld
      rw [hsb]
      go_wp2_with fail
      go_ret2
      unfold Opened
      rw [hb.out, hL.out]
      exact ⟨o22.out, none, 0, rfl, src_nil _⟩
end Go.Proofs.Ytemmdhfmdgpfmaa
