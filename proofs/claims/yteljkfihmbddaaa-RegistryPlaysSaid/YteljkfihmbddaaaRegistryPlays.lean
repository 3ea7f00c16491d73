/- RegistryPlays returns true for every list of acts: devices that come, and go, with bundles that are published, and taken: who is there, what is left, for whom a message is. No condition. Printed by gen_rfl.py. -/
import Derived.Test.YteljkfihmbddaaaRfK
import Derived.Test.YteljkfihmbddaaaPd
import Derived.Test.YteljkfihmbddaaaOpenR
import Derived.Test.YteljkfihmbddaaaSRegistryPlays
import Derived.Deep.Cut
import Derived.Deep.CutBlock
import Derived.Deep.CutRange
set_option linter.unusedSimpArgs false
set_option linter.unusedVariables false
namespace Go.Proofs.Yteljkfihmbddaaa
open Go.RowKit Go.Pw
set_option linter.unusedVariables false

/-- An act, as it lies. -/
structure Ac where
  ka : Int
  a : Int
  b : Int
  n : Int
instance : Inhabited Ac := ⟨⟨0, 0, 0, 0⟩⟩
def acc (x : Ac) : List Value := [.int .u8 x.ka, .int .u8 x.a, .int .u8 x.b, .int .u8 x.n]
theorem acc_len (x : Ac) : (acc x).length = 4 := rfl
def AcOk (x : Ac) : Prop := (0 ≤ x.ka ∧ x.ka < 256) ∧ (0 ≤ x.a ∧ x.a < 256) ∧ (0 ≤ x.b ∧ x.b < 256) ∧ 0 ≤ x.n ∧ x.n < 256
theorem u8_bd (x : Int) : 0 ≤ IntKind.u8.wrap x ∧ IntKind.u8.wrap x < 256 := by
  simp [IntKind.wrap, IntKind.bits, IntKind.signed]
  omega
theorem StepP.drop {w0 w : World} {rs : List Res} {B S i : Nat} {P : List Bu} (h : StepP w0 rs B S i P w) : ∃ P, StepP w0 [] B S i P w := by
  obtain ⟨v, rv, l, ms, h, hp⟩ := h
  exact ⟨P, v, rv, l, ms, h.sub (List.sublist_append_left (ST B S v rv l ms P []) rs), hp⟩
theorem StepP.quiet {w0 w w' : World} {rs : List Res} {B S i : Nat} {P : List Bu} (h : StepP w0 rs B S i P w) (o : Only w w' []) : StepP w0 rs B S i P w' := by
  obtain ⟨v, rv, l, ms, h, hp⟩ := h
  exact ⟨v, rv, l, ms, h.quiet o, hp⟩
theorem many0 {w : World} : (many []).ok w := ⟨by simp, List.Pairwise.nil⟩
theorem StepP.rd {w0 w : World} {rs : List Res} {B S i : Nat} {P : List Bu} (h : StepP w0 rs B S i P w) {b : Bu} (hb : b = b0 ∨ b ∈ P) : (∀ v ∈ parts b, RdS w v) ∧ U32 b.sg ∧ U32 b.on := by
  obtain ⟨v, rv, l, ms, h, hp⟩ := h
  rcases hb with rfl | hb
  · exact ⟨(rdB_b0 w).1, show U32 0 from ⟨by decide, by decide⟩, show U32 0 from ⟨by decide, by decide⟩⟩
  · have hn := hp.num b hb
    have : (rdB b).ok w := many_ok (h.sel 7 [6]).head (List.mem_map.2 ⟨_, hb, rfl⟩)
    unfold NumB at hn
    unfold U32
    exact ⟨this.1, by omega, by omega⟩
theorem StepP.mem {w0 w : World} {rs : List Res} {B S i : Nat} {P : List Bu} (h : StepP w0 rs B S i P w) {r : Res} (hr : r ∈ rs) : r.ok w := by
  obtain ⟨v, rv, l, ms, h, hp⟩ := h
  exact h.ok _ (List.mem_append.2 (.inr hr) : r ∈ ST B S v rv l ms P [] ++ rs)
theorem Sep.mem {w0 w : World} {M rs : List Res} (h : Pw.Sep w0 w (M ++ rs)) {r : Res} (hr : r ∈ rs) : r.ok w := h.ok _ (List.mem_append.2 (.inr hr))
theorem Sep.pool {w0 w : World} {P : List Bu} {b : Bu} {rs : List Res} (h : Pw.Sep w0 w (rdB b :: many (P.map rdB) :: rs)) : Pw.Sep w0 w (many ((b :: P).map rdB) :: rs) := h.many_ins 0

set_option maxRecDepth 100000 in
set_option maxHeartbeats 3200000 in
theorem plays_walk (ap : Option Addr) (cp : Nat) (xs : List Ac) (w : World) (h : Pw.Src w (.slice ap xs.length cp) 4 xs.length (fl acc xs)) (hx : ∀ x ∈ xs, AcOk x) (hn : xs.length ≤ 50) :
    Calls Try.prog 5 #[.slice ap xs.length cp] w fun e w' => e = .returned (.bool true) ∧ Below w.heap.size w w' := by
  obtain ⟨i0, hi, hz0, hz1, hz2⟩ := info_parts bun_info
  have d0 : decide ((50 : Int) < xs.length) = false := by simp; omega
  have HA : ∀ k (hk : k < xs.length), ∃ g o, ap = some ⟨g, o, none⟩ ∧ ∀ w', Only w w' [] → w'.rangeAt g (o + k * 4) (acc xs[k]) := fun k hk => by
    obtain ⟨g, o, rfl, hr⟩ := src_rec acc_len (by decide) h (by omega)
    exact ⟨g, o, rfl, fun w' ho => hr w' ho k hk⟩
  have hx2 : ([.slice none 0 0, .slice none 0 0] : List Value).toArray.all (·.oneCell') = true := by simp [Value.oneCell']
  have hz2_ : ([.int .i64 0, .int .i64 0] : List Value).toArray.all (·.oneCell') = true := by simp [Value.oneCell']
  clear h
  go_enter Try.func5, Try.ntmps5
  go_wp2_with fail
  refine (awake_any _).mono ?_
  rintro e w1 ⟨rfl, o1⟩
  go_wp2_with fail
  refine (new_any w1).mono ?_
  rintro e w2 ⟨rfl, rfl⟩
  have s1 : Pw.Sep w _ (regR w1.heap.size (.slice none 0 0) [] []) := regs_nil (((Sep.nil w).quiet o1).box [.slice none 0 0] 72)
  obtain ⟨B, hB⟩ : ∃ B, B = w1.heap.size := ⟨_, rfl⟩
  rw [← hB] at s1 ⊢
  clear hB
  generalize w1.alloc (.cells #[Value.slice none 0 0] 72) = w2 at *
  clear o1
  go_wp2_with (refine wpList_box_new rfl 53 _ rfl (.agg #[.slice none 0 0, .slice none 0 0]) rfl ?_; intro S wS oS hSl hS)
  have s2 : Pw.Sep w wS (ST B S (.slice none 0 0) (.slice none 0 0) [] [] [] []) :=
    ((((((s1.add (b := blk S [.slice none 0 0, .slice none 0 0] 53) oS hS (fun k hk => by simp [blk] at hk; omega)).rown 85 18).many_nil).many_nil).sel 7 [4, 5, 6, 2, 3, 0, 1]))
  clear s1 oS hS hSl
  go_loopw [5] (fun y wr => ∃ (k : Nat) (v rv : Value) (l : List Li) (ms : List Rl) (P : List Bu), y = .int .i64 k ∧ k ≤ xs.length ∧ Pw.Sep w wr (ST B S v rv l ms P []) ∧ Play k l ms P) (fun y _ => xs.length - (intOf y).toNat)
  case atStart => exact ⟨0, _, _, [], [], [], rfl, Nat.zero_le _, s2, play_nil⟩
  case round =>
    clear s2
    obtain ⟨k, v, rv, l, ms, P, rfl, hk, hs, hp⟩ := hrel
    by_cases hkl : k < xs.length
    · have d1 : decide ((k : Int) < xs.length) = true := by simpa using hkl
      obtain ⟨g, o, rfl, HR⟩ := HA k hkl
      have hrng := HR wr hs.only
      have hok := hx _ (List.getElem_mem hkl)
      have hcl := acc_len xs[k]
      have ha1 : (acc xs[k]).toArray.all (·.oneCell') = true := by simp [acc, Value.oneCell']
      have g0 : (acc xs[k]).toArray[0]? = some (.int .u8 xs[k].ka) := rfl
      have g1 : (acc xs[k]).toArray[1]? = some (.int .u8 xs[k].a) := rfl
      have g2 : (acc xs[k]).toArray[2]? = some (.int .u8 xs[k].b) := rfl
      have g3 : (acc xs[k]).toArray[3]? = some (.int .u8 xs[k].n) := rfl
      obtain ⟨⟨k0, k1⟩, ⟨a0, a1⟩, ⟨b0_, b1_⟩, n0, n1⟩ := hok
      generalize acc xs[k] = cs at *
      generalize xs[k].ka = ka at *
      generalize xs[k].a = a at *
      generalize xs[k].b = b at *
      generalize xs[k].n = n at *
      have HP := Lib.hid hp
      clear hp HR
      have hwd : ([.int .i64 (a % 4), .int .i64 (1 + b % 6)] : List Value).toArray.all (·.oneCell') = true := by simp [Value.oneCell']
      go_upto_region 9 with (first
        | (refine wpList_load_mid rfl 55 _ rfl g (o + k * 4) rfl cs _ hrng Try.underlying55 (by rfl) (by rw [hcl]; kernel_rfl) ?_)
        | (refine wpList_alloc_new rfl 55 rfl (.agg #[.int .u8 0, .int .u8 0, .int .u8 0, .int .u8 0]) (fun _ => by kernel_rfl) ?_; intro X wX oX hXl hX)
        | (refine wpList_store_blk rfl 55 _ _ rfl X cs rfl rfl hX (by rw [hcl]; rfl) (by rw [hcl]; kernel_rfl) ha1 ?_; intro wY oY hY; have oXY := oX.new oY (fun i hi => by simp only [List.mem_singleton] at hi; omega)))
      have s3 := hs.add (b := blk X cs 55) oXY hY (fun k hk => by simp [blk] at hk; omega)
      have c1_ := (cell_in hY 1).trans g1
      have c2_ := (cell_in hY 2).trans g2
      have c0_ := (cell_in hY 0).trans g0
      clear hs hrng hX oX oY oXY
      go_upto_block 2 with (first
        | (refine wpList_alloc_new rfl 30 rfl (.agg #[.int .i64 0, .int .i64 0]) (fun _ => by kernel_rfl) ?_; intro Z wZ oZ hZl hZ)
        | (refine wpList_store_blk rfl 30 _ _ rfl Z [.int .i64 (a % 4), .int .i64 (1 + b % 6)] rfl rfl hZ rfl (by kernel_rfl) hwd ?_; intro wU oU hU; have oZU := oZ.new oU (fun i hi => by simp only [List.mem_singleton] at hi; omega); have c0u := (cell_in (oZU.at hY (by simp)) 0).trans g0; clear c0_ c1_ c2_))
      have s4 : Pw.Sep w wU (ST B S v rv l ms P [blk Z [.int .i64 (a % 4), .int .i64 (1 + b % 6)] 30, blk X cs 55]) := (s3.add (b := blk Z [.int .i64 (a % 4), .int .i64 (1 + b % 6)] 30) oZU hU (fun k hk => by simp [blk] at hk; omega)).sel 9 [2, 3, 4, 5, 6, 7, 8, 0, 1]
      clear s3 hZ oZ oU oZU hY hU hwd c0u
      generalize a % 4 = wu at *
      generalize 1 + b % 6 = wd at *
      go_cut [] from 27 to 170 (fun wx => ∃ P', StepP w [] B S (k + 1) P' wx)
      case first =>
        have hc : 0 ≤ ka % 8 ∧ ka % 8 < 8 := by omega
        generalize ka % 8 = c at *
        by_cases hc3 : c < 3
        · go_upto_if 74 with fail
          go_cut [74] from 74 to 77 (fun u wx => u = .bool true ∧ wx = wU)
          case first =>
            have hc : c = 0 ∨ c = 1 ∨ c = 2 := by omega
            rcases hc with rfl | rfl | rfl
            all_goals
              go_wp2_with fail
              go_meet
              case rel => exact ⟨rfl, rfl⟩
          case rest =>
          obtain ⟨rfl, rfl⟩ := hcut
          have hX : wc.heap[X]? = some (.cells cs.toArray 55 (0, 0)) := (s4.sel 9 [8]).head
          have hZ : wc.heap[Z]? = some (.cells #[.int .i64 wu, .int .i64 wd] 30 (0, 0)) := (s4.sel 9 [7]).head
          have c0_ := (cell_in hX 0).trans g0
          have hnx := rnext_any S ms rv wu wc (s4.sel 5 [3, 4]) (by have := HP.out.inv.len; have := HP.out.len; omega)
          rw [HP.out.inv.next] at hnx
          generalize (nextD l wu).1.1 = na at *
          generalize (nextD l wu).1.2 = nb at *
          generalize (nextD l wu).2 = ne at *
          simp only [wv] at hnx
          have h1n : ([.int .i64 na, .int .i64 nb] : List Value).toArray.all (·.oneCell') = true := by simp [Value.oneCell']
          have z0 := cell_two0 hZ
          have z1 := cell_two1 hZ
          go_upto_if 80 with fail
          go_cut [] from 78 to 87 (fun wx => ∃ u' d' : Int, Pw.Sep w wx (ST B S v rv l ms P [blk Z [.int .i64 u', .int .i64 d'] 30, blk X cs 55]))
          case first =>
            by_cases h32 : 32 ≤ ka
            · have d2 : decide (32 ≤ ka) = true := by simpa using h32
              clear c0_
              go_wp2_with fail
              refine hnx.mono ?_
              rintro e w8 ⟨rfl, o8⟩
              have hZ8 := o8.at hZ (by simp)
              have s8 := s4.quiet o8
              clear hnx z0 z1
              go_wp2_with (refine wpList_store_blk rfl 30 _ _ rfl Z [.int .i64 na, .int .i64 nb] rfl rfl hZ8 rfl (by kernel_rfl) h1n ?_; intro wV oV hV)
              go_meet
              case rel =>
                have s9 : Pw.Sep w wV (blk Z [.int .i64 na, .int .i64 nb] 30 :: _) := (s8.sel 8 [7, 0, 1, 2, 3, 4, 5, 6]).step (L := [Z]) oV (fun k hk => .inl (by simpa [blk] using hk)) hV (fun k hk => .inl (by simpa [blk] using hk))
                exact ⟨na, nb, s9.sel 8 [1, 2, 3, 4, 5, 6, 7, 0]⟩
            · have d2 : decide (32 ≤ ka) = false := by simpa using h32
              go_wp2_with fail
              go_meet
              case rel => exact ⟨wu, wd, s4⟩
          case rest =>
          obtain ⟨u', d', s5⟩ := hcut
          have HC : Hid (∀ w', Only wc w' [] → w'.cell? ⟨Z, 0, none⟩ = some (.int .i64 u') ∧ w'.cell? ⟨Z, 1, none⟩ = some (.int .i64 d') ∧ w'.cell? ⟨X, 3, none⟩ = some (.int .u8 n)) := fun w' o => by
            have hZ : w'.heap[Z]? = some (.cells #[.int .i64 u', .int .i64 d'] 30 (0, 0)) := ((s5.quiet o).sel 9 [7]).head
            have hX : w'.heap[X]? = some (.cells cs.toArray 55 (0, 0)) := ((s5.quiet o).sel 9 [8]).head
            exact ⟨cell_two0 hZ, cell_two1 hZ, (cell_in hX 3).trans g3⟩
          obtain ⟨n1', hw1, n1a, n1b⟩ : ∃ m, IntKind.u8.wrap (n + 1) = m ∧ 0 ≤ m ∧ m < 256 := ⟨_, rfl, (u8_bd _).1, (u8_bd _).2⟩
          obtain ⟨n2', hw2, n2a, n2b⟩ : ∃ m, IntKind.u8.wrap (n + 2) = m ∧ 0 ≤ m ∧ m < 256 := ⟨_, rfl, (u8_bd _).1, (u8_bd _).2⟩
          have h13 : (n.tmod 13) = n % 13 := Int.tmod_eq_emod_of_nonneg n0
          clear hX hZ z0 z1 c0_ h1n hnx s4
          go_upto_region 20 with fail
          have oC := Only.drew wc []
          have s5d := s5.quiet oC
          refine wp_region_held_drew (S := fun w' => Only wc.drew w' []) (by kernel_rfl) (Only.refl _ _) (fun hHeld => ?_)
          refine' wpAnyH_take (i := 0) (v := _) (op_at rfl) (by kernel_rfl) (by kernel_rfl) (by kernel_rfl) (fun _ _ _ h => h) (Or.inl ⟨by rfl, ?hy1⟩) (by assumption) ?rest1
          case hy1 =>
            intro w' hS
            obtain ⟨z0, z1, c3_⟩ := HC.out w' (oC.trans hS)
            go_simp
            try with_reducible rfl
          try simp only [Act.put, List.setIfInBounds_toArray, List.set_cons_zero, List.set_cons_succ]
          refine' wpAnyH_take (i := 1) (v := _) (op_at rfl) (by kernel_rfl) (by kernel_rfl) (by kernel_rfl) (fun _ _ _ h => h) (Or.inl ⟨by rfl, ?hy2⟩) (by assumption) ?rest2
          case hy2 =>
            intro w' hS
            go_simp
            try with_reducible rfl
          try simp only [Act.put, List.setIfInBounds_toArray, List.set_cons_zero, List.set_cons_succ]
          refine' wpAnyH_take (i := 2) (v := _) (op_at rfl) (by kernel_rfl) (by kernel_rfl) (by kernel_rfl) (fun _ _ _ h => h) (Or.inl ⟨by rfl, ?hy3⟩) (by assumption) ?rest3
          case hy3 =>
            intro w' hS
            obtain ⟨z0, z1, c3_⟩ := HC.out w' (oC.trans hS)
            go_simp
            try with_reducible rfl
          try simp only [Act.put, List.setIfInBounds_toArray, List.set_cons_zero, List.set_cons_succ]
          refine' wpAnyH_take (i := 3) (v := _) (op_at rfl) (by kernel_rfl) (by kernel_rfl) (by kernel_rfl) (fun _ _ _ h => h) (Or.inl ⟨by rfl, ?hy4⟩) (by assumption) ?rest4
          case hy4 =>
            intro w' hS
            go_simp
            try with_reducible rfl
          try simp only [Act.put, List.setIfInBounds_toArray, List.set_cons_zero, List.set_cons_succ]
          refine' wpAnyH_take (i := 4) (v := _) (op_at rfl) (by kernel_rfl) (by kernel_rfl) (by kernel_rfl) (fun _ _ _ h => h) (Or.inl ⟨by rfl, ?hy5⟩) (by assumption) ?rest5
          case hy5 =>
            intro w' hS
            obtain ⟨z0, z1, c3_⟩ := HC.out w' (oC.trans hS)
            go_simp
            try with_reducible rfl
          try simp only [Act.put, List.setIfInBounds_toArray, List.set_cons_zero, List.set_cons_succ]
          refine' wpAnyH_take (i := 5) (v := _) (op_at rfl) (by kernel_rfl) (by kernel_rfl) (by kernel_rfl) (fun _ _ _ h => h) (Or.inl ⟨by rfl, ?hy6⟩) (by assumption) ?rest6
          case hy6 =>
            intro w' hS
            go_simp
            try with_reducible rfl
          try simp only [Act.put, List.setIfInBounds_toArray, List.set_cons_zero, List.set_cons_succ]
          refine' wpAnyH_take (i := 6) (v := _) (op_at rfl) (by kernel_rfl) (by kernel_rfl) (by kernel_rfl) (fun _ _ _ h => h) (Or.inl ⟨by rfl, ?hy7⟩) (by assumption) ?rest7
          case hy7 =>
            intro w' hS
            go_simp
            try with_reducible rfl
          try simp only [Act.put, List.setIfInBounds_toArray, List.set_cons_zero, List.set_cons_succ]
          refine' wpAnyH_take (i := 8) (v := _) (op_at rfl) (by kernel_rfl) (by kernel_rfl) (by kernel_rfl) (fun _ _ _ h => h) (Or.inl ⟨by rfl, ?hy8⟩) (by assumption) ?rest8
          case hy8 =>
            intro w' hS
            obtain ⟨z0, z1, c3_⟩ := HC.out w' (oC.trans hS)
            go_simp
            try with_reducible rfl
          try simp only [Act.put, List.setIfInBounds_toArray, List.set_cons_zero, List.set_cons_succ]
          refine' wpAnyH_take (i := 9) (v := _) (op_at rfl) (by kernel_rfl) (by kernel_rfl) (by kernel_rfl) (fun _ _ _ h => h) (Or.inl ⟨by rfl, ?hy9⟩) (by assumption) ?rest9
          case hy9 =>
            intro w' hS
            go_simp
            try with_reducible rfl
          try simp only [Act.put, List.setIfInBounds_toArray, List.set_cons_zero, List.set_cons_succ]
          refine' wpAnyH_take (i := 10) (v := _) (op_at rfl) (by kernel_rfl) (by kernel_rfl) (by kernel_rfl) (fun _ _ _ h => h) (Or.inl ⟨by rfl, ?hy10⟩) (by assumption) ?rest10
          case hy10 =>
            intro w' hS
            obtain ⟨z0, z1, c3_⟩ := HC.out w' (oC.trans hS)
            go_simp
            try with_reducible rfl
          try simp only [Act.put, List.setIfInBounds_toArray, List.set_cons_zero, List.set_cons_succ]
          refine' wpAnyH_take (i := 11) (v := _) (op_at rfl) (by kernel_rfl) (by kernel_rfl) (by kernel_rfl) (fun _ _ _ h => h) (Or.inl ⟨by rfl, ?hy11⟩) (by assumption) ?rest11
          case hy11 =>
            intro w' hS
            go_simp
            try with_reducible rfl
          try simp only [Act.put, List.setIfInBounds_toArray, List.set_cons_zero, List.set_cons_succ]
          refine' wpAnyH_take (i := 13) (v := _) (op_at rfl) (by kernel_rfl) (by kernel_rfl) (by kernel_rfl) (fun _ _ _ h => h) (Or.inl ⟨by rfl, ?hy12⟩) (by assumption) ?rest12
          case hy12 =>
            intro w' hS
            obtain ⟨z0, z1, c3_⟩ := HC.out w' (oC.trans hS)
            go_simp
            try with_reducible rfl
          try simp only [Act.put, List.setIfInBounds_toArray, List.set_cons_zero, List.set_cons_succ]
          refine' wpAnyH_take (i := 14) (v := _) (op_at rfl) (by kernel_rfl) (by kernel_rfl) (by kernel_rfl) (fun _ _ _ h => h) (Or.inl ⟨by rfl, ?hy13⟩) (by assumption) ?rest13
          case hy13 =>
            intro w' hS
            go_simp
            try with_reducible rfl
          try simp only [Act.put, List.setIfInBounds_toArray, List.set_cons_zero, List.set_cons_succ]
          refine' wpAnyH_take (i := 15) (v := _) (op_at rfl) (by kernel_rfl) (by kernel_rfl) (by kernel_rfl) (fun _ _ _ h => h) (Or.inl ⟨by rfl, ?hy14⟩) (by assumption) ?rest14
          case hy14 =>
            intro w' hS
            obtain ⟨z0, z1, c3_⟩ := HC.out w' (oC.trans hS)
            go_simp
            try with_reducible rfl
          try simp only [Act.put, List.setIfInBounds_toArray, List.set_cons_zero, List.set_cons_succ]
          refine' wpAnyH_take (i := 16) (v := _) (op_at rfl) (by kernel_rfl) (by kernel_rfl) (by kernel_rfl) (fun _ _ _ h => h) (Or.inl ⟨by rfl, ?hy15⟩) (by assumption) ?rest15
          case hy15 =>
            intro w' hS
            go_simp
            try with_reducible rfl
          try simp only [Act.put, List.setIfInBounds_toArray, List.set_cons_zero, List.set_cons_succ]
          refine wpAnyH_ready (rs := [7]) (by kernel_rfl) (by simp) (AllReadyH.cons (op_at rfl) (fun K hK => ?_) AllReadyH.nil)
          go_simp
          refine (bundleR_any u' d' n _ n0 n1 _).mono fun e wb1 hq => ?_
          obtain ⟨b1, rfl, ob1, _, _, _, bn1, br1, bf1⟩ := bundR_num n0 n1 hq
          go_wp2_with fail
          refine hK.out _ _ ob1 (fun hHeld => ?_)
          clear hK K
          try simp only [Act.put, List.setIfInBounds_toArray, List.set_cons_zero, List.set_cons_succ]
          refine wpAnyH_more (S' := fun w' => Only wb1 w' []) (fun w' h => Only.trans ob1 h) _ _ _ _ ?_
          clear hHeld
          have hHeld : Only wb1 wb1 [] := Only.refl _ _
          have s51 : Pw.Sep w wb1 (ST B S v rv l ms (b1 :: P) [blk Z [.int .i64 u', .int .i64 d'] 30, blk X cs 55]) := (Sep.pool ((s5d.add ob1 br1 bf1).sel 8 [0, 7, 1, 2, 3, 4, 5, 6])).sel 7 [1, 2, 3, 4, 5, 6, 0]
          have oC1 := oC.trans ob1
          clear s5d ob1 br1 bf1
          refine wpAnyH_ready (rs := [12]) (by kernel_rfl) (by simp) (AllReadyH.cons (op_at rfl) (fun K hK => ?_) AllReadyH.nil)
          go_simp
          refine (bundleR_any u' d' n1' _ n1a n1b _).mono fun e wb2 hq => ?_
          obtain ⟨b2, rfl, ob2, _, _, _, bn2, br2, bf2⟩ := bundR_num n1a n1b hq
          go_wp2_with fail
          refine hK.out _ _ ob2 (fun hHeld => ?_)
          clear hK K
          try simp only [Act.put, List.setIfInBounds_toArray, List.set_cons_zero, List.set_cons_succ]
          refine wpAnyH_more (S' := fun w' => Only wb2 w' []) (fun w' h => Only.trans ob2 h) _ _ _ _ ?_
          clear hHeld
          have hHeld : Only wb2 wb2 [] := Only.refl _ _
          have s52 : Pw.Sep w wb2 (ST B S v rv l ms (b2 :: b1 :: P) [blk Z [.int .i64 u', .int .i64 d'] 30, blk X cs 55]) := (Sep.pool ((s51.add ob2 br2 bf2).sel 8 [0, 7, 1, 2, 3, 4, 5, 6])).sel 7 [1, 2, 3, 4, 5, 6, 0]
          have oC2 := oC1.trans ob2
          clear s51 ob2 br2 bf2
          refine wpAnyH_ready (rs := [17]) (by kernel_rfl) (by simp) (AllReadyH.cons (op_at rfl) (fun K hK => ?_) AllReadyH.nil)
          go_simp
          refine (bundleR_any u' d' n2' _ n2a n2b _).mono fun e wb3 hq => ?_
          obtain ⟨b3, rfl, ob3, _, _, _, bn3, br3, bf3⟩ := bundR_num n2a n2b hq
          go_wp2_with fail
          refine hK.out _ _ ob3 (fun hHeld => ?_)
          clear hK K
          try simp only [Act.put, List.setIfInBounds_toArray, List.set_cons_zero, List.set_cons_succ]
          refine wpAnyH_more (S' := fun w' => Only wb3 w' []) (fun w' h => Only.trans ob3 h) _ _ _ _ ?_
          clear hHeld
          have hHeld : Only wb3 wb3 [] := Only.refl _ _
          have s53 : Pw.Sep w wb3 (ST B S v rv l ms (b3 :: b2 :: b1 :: P) [blk Z [.int .i64 u', .int .i64 d'] 30, blk X cs 55]) := (Sep.pool ((s52.add ob3 br3 bf3).sel 8 [0, 7, 1, 2, 3, 4, 5, 6])).sel 7 [1, 2, 3, 4, 5, 6, 0]
          have oC3 := oC2.trans ob3
          clear s52 ob3 br3 bf3
          refine wpAnyH_ready (rs := [18]) (by kernel_rfl) (by simp) (AllReadyH.cons (op_at rfl) (fun K hK => ?_) AllReadyH.nil)
          refine step_buildSlice_three (by rfl) 42 _ _ _ (by rfl) 40 i0 _ 10 (bc b1) (bc b2) (bc b3) (by rfl) (by rfl) (by rfl) (bc_len _) (bc_len _) (bc_len _) Try.underlying42 hi hz0 hz1 rfl (by decide) (by decide) (fun Y w18 o18 hYl hY18 => ?_)
          go_wp2_with fail
          refine hK.out _ _ o18 (fun hHeld => ?_)
          clear hK K
          try simp only [Act.put, List.setIfInBounds_toArray, List.set_cons_zero, List.set_cons_succ]
          refine' wpAnyH_take (i := 19) (v := _) (op_at rfl) (by kernel_rfl) (by kernel_rfl) (by kernel_rfl) (fun _ _ _ h => h) (Or.inl ⟨by rfl, ?hy16⟩) (by assumption) ?rest16
          case hy16 =>
            intro w' hS
            go_simp
            try with_reducible rfl
          try simp only [Act.put, List.setIfInBounds_toArray, List.set_cons_zero, List.set_cons_succ]
          refine wpAnyH_done (by kernel_rfl) ?_ _
          have hL3 : Hid (fl bc [b1, b2, b3] = bc b1 ++ bc b2 ++ bc b3) := by show _ = _; simp [fl, List.append_assoc]
          have s6 : Pw.Sep w w18 (row 40 10 (.slice (some ⟨Y, 0, none⟩) 3 3) [b1, b2, b3].length (fl bc [b1, b2, b3]) :: ST B S v rv l ms (b3 :: b2 :: b1 :: P) [blk Z [.int .i64 u', .int .i64 d'] 30, blk X cs 55]) := s53.add (b := row 40 10 (.slice (some ⟨Y, 0, none⟩) 3 3) [b1, b2, b3].length (fl bc [b1, b2, b3])) o18 (blk_row (cs := fl bc [b1, b2, b3]) (by rw [hL3.out]; exact hY18) (by simp [fl, bc_len]) (by simp [maxLen])) (fun k hk => by simp [row, Value.ownBlock] at hk; omega)
          have HP6 := Lib.hid (((HP.out.pool bn1).pool bn2).pool bn3)
          have c3_ : w18.cell? ⟨X, 3, none⟩ = some (.int .u8 n) := (cell_in (show w18.heap[X]? = some (.cells cs.toArray 55 (0, 0)) from (s6.sel 10 [9]).head) 3).trans g3
          clear s53 o18 hY18 hHeld HC oC3 h13 hw1 hw2 hL3
          go_upto_if 110 with fail
          go_cut [8] from 88 to 115 (fun u wx => ∃ (bs : List Bu) (P' : List Bu), Pw.Sep w wx (row 40 10 u bs.length (fl bc bs) :: ST B S v rv l ms P' [blk Z [.int .i64 u', .int .i64 d'] 30, blk X cs 55]) ∧ Play k l ms P' ∧ (∀ b ∈ bs, b ∈ P') ∧ bs.length ≤ 4)
          case first =>
            by_cases h13 : n % 13 = 0
            · have d13 : decide (n % 13 = 0) = true := by simpa using h13
              have b13 : (n % 13 == 0) = true := by simpa using h13
              clear h13
              go_wp2_with fail
              refine (bundleR_yes 1 9 1 (by decide) (by decide) _).mono ?_
              intro e w4 hq
              obtain ⟨b4, rfl, ob4, _, _, _, bn4, br4, bf4⟩ := bundR_num (by decide) (by decide) hq
              have s7 : Pw.Sep w w4 (row 40 10 (.slice (some ⟨Y, 0, none⟩) 3 3) [b1, b2, b3].length (fl bc [b1, b2, b3]) :: ST B S v rv l ms (b4 :: b3 :: b2 :: b1 :: P) [blk Z [.int .i64 u', .int .i64 d'] 30, blk X cs 55]) := (Sep.pool ((s6.add ob4 br4 bf4).sel 9 [0, 8, 1, 2, 3, 4, 5, 6, 7])).sel 8 [1, 2, 3, 4, 5, 6, 7, 0]
              have HP7 := Lib.hid (HP6.out.pool bn4)
              have hL4 : Hid (fl bc [b1, b2, b3] ++ bc b4 = fl bc [b1, b2, b3, b4]) := by show _ = _; simp [fl, List.append_assoc]
              clear s6 ob4 br4 bf4 hq c3_
              go_wp2_with (first
                | (refine wpList_buildSlice_one rfl 42 _ rfl 40 i0 _ (bc b4) rfl Try.underlying42 hi hz0 (by rw [hz1, bc_len]) (by rw [bc_len]; rfl) (by rw [bc_len]; decide) (by rw [bc_len]; decide) ?_; intro Y6 w6 o6 hY6l hY6; have s8 := s7.quiet o6; clear s7 o6)
                | (at_builtin; refine wpList_append_sep rfl _ _ 42 rfl 40 i0 _ 10 152 Try.underlying42 hi hz0 hz1 hz2 rfl (by decide) (.slice (some ⟨Y, 0, none⟩) 3 3) 3 _ rfl s8 _ 1 (bc b4) rfl (src_blk hY6 (by rw [bc_len])) (bc_one b4) (by unfold maxLen; omega) (by omega) ?_; intro a7 c7 w7 o7 s9; rw [hL4.out] at s9))
              go_meet
              case rel => exact ⟨[b1, b2, b3, b4], _, s9, HP7.out, by simp, by simp⟩
            · have d13 : decide (n % 13 = 0) = false := by simpa using h13
              have b13 : (n % 13 == 0) = false := by simpa using h13
              clear h13
              go_wp2_with fail
              go_meet
              case rel => exact ⟨[b1, b2, b3], _, s6, HP6.out, by simp, by simp⟩
          case rest =>
          obtain ⟨bs, P', s7, hp7, hbs, hbl⟩ := hcut
          have hZ7 : wc.heap[Z]? = some (.cells #[.int .i64 u', .int .i64 d'] 30 (0, 0)) := (s7.sel 9 [8]).head
          have z0 := cell_two0 hZ7
          have z1 := cell_two1 hZ7
          have s8 : Pw.Sep w wc (regR B v l (row 40 10 u8 bs.length (fl bc bs) :: refR S rv ms (many (P'.map rdB) :: [blk Z [.int .i64 u', .int .i64 d'] 30, blk X cs 55]))) := s7.sel 8 [1, 2, 3, 0, 4, 5, 6, 7]
          obtain ⟨er, hadd⟩ := add_both B S l ms v rv P' u' d' u8 bs k wc s8 hp7 (by omega) (by omega) hbs
          simp only [wv] at hadd
          clear s6 s7 s8 hp7 hbs hZ7 HP6 c3_
          go_wp2_with fail
          refine hadd.mono ?_
          rintro e wA ⟨rfl, ⟨M, sM⟩, hradd⟩
          have hZA : wA.heap[Z]? = some (.cells #[.int .i64 u', .int .i64 d'] 30 (0, 0)) := Sep.mem sM (r := blk Z [.int .i64 u', .int .i64 d'] 30) (by simp)
          clear hadd sM z0 z1
          have z0 := cell_two0 hZA
          have z1 := cell_two1 hZA
          go_wp2_with fail
          refine (hradd _ (many []) (Only.refl _ _) many0 (fun k hk => by simp [many] at hk)).mono ?_
          rintro e wB ⟨rfl, hst⟩
          clear hradd z0 z1 hZA
          go_wp2_with fail
          go_meet
          case rel => exact hst.drop
        by_cases hc4 : c = 3
        · subst hc4
          obtain ⟨er, hrm⟩ := rem_both B S l ms v rv P wu wd k wU.drew (s4.quiet (Only.drew wU [])) HP.out (by omega)
          have hZ4 : wU.drew.heap[Z]? = some (.cells #[.int .i64 wu, .int .i64 wd] 30 (0, 0)) := ((s4.quiet (Only.drew wU [])).sel 9 [7]).head
          simp only [wv] at hrm
          clear s4
          go_upto_region 28 with fail
          refine wp_region_held_drew (S := fun w' => w'.heap[Z]? = some (.cells #[.int .i64 wu, .int .i64 wd] 30 (0, 0))) (by kernel_rfl) hZ4 (fun hHeld => ?_)
          refine' wpAnyH_take (i := 0) (v := _) (op_at rfl) (by kernel_rfl) (by kernel_rfl) (by kernel_rfl) (fun _ _ _ h => h) (Or.inl ⟨by rfl, ?hy17⟩) (by assumption) ?rest17
          case hy17 =>
            intro w' hS
            go_simp
            try with_reducible rfl
          try simp only [Act.put, List.setIfInBounds_toArray, List.set_cons_zero, List.set_cons_succ]
          refine' wpAnyH_take (i := 1) (v := _) (op_at rfl) (by kernel_rfl) (by kernel_rfl) (by kernel_rfl) (fun _ _ _ h => h) (Or.inl ⟨by rfl, ?hy18⟩) (by assumption) ?rest18
          case hy18 =>
            intro w' hS
            have z0 := cell_two0 hS
            have z1 := cell_two1 hS
            go_simp
            try with_reducible rfl
          try simp only [Act.put, List.setIfInBounds_toArray, List.set_cons_zero, List.set_cons_succ]
          refine' wpAnyH_take (i := 3) (v := _) (op_at rfl) (by kernel_rfl) (by kernel_rfl) (by kernel_rfl) (fun _ _ _ h => h) (Or.inl ⟨by rfl, ?hy19⟩) (by assumption) ?rest19
          case hy19 =>
            intro w' hS
            go_simp
            try with_reducible rfl
          try simp only [Act.put, List.setIfInBounds_toArray, List.set_cons_zero, List.set_cons_succ]
          refine' wpAnyH_take (i := 4) (v := _) (op_at rfl) (by kernel_rfl) (by kernel_rfl) (by kernel_rfl) (fun _ _ _ h => h) (Or.inl ⟨by rfl, ?hy20⟩) (by assumption) ?rest20
          case hy20 =>
            intro w' hS
            have z0 := cell_two0 hS
            have z1 := cell_two1 hS
            go_simp
            try with_reducible rfl
          try simp only [Act.put, List.setIfInBounds_toArray, List.set_cons_zero, List.set_cons_succ]
          refine wpAnyH_ready (rs := [2]) (by kernel_rfl) (by simp) (AllReadyH.cons (op_at rfl) (fun K hK => ?_) AllReadyH.nil)
          go_simp
          refine hrm.mono fun e wA hq => ?_
          obtain ⟨rfl, ⟨M, sM⟩, hrr⟩ := hq
          go_wp2_with fail
          refine hK.out _ _ (Sep.mem sM (r := blk Z [.int .i64 wu, .int .i64 wd] 30) (by simp)) (fun hHeld => ?_)
          clear hK K
          try simp only [Act.put, List.setIfInBounds_toArray, List.set_cons_zero, List.set_cons_succ]
          refine wpAnyH_ready (rs := [5]) (by kernel_rfl) (by simp) (AllReadyH.cons (op_at rfl) (fun K hK => ?_) AllReadyH.nil)
          go_simp
          refine (hrr _ (many []) (Only.refl _ _) many0 (fun k hk => by simp [many] at hk)).mono fun e wB hq => ?_
          obtain ⟨rfl, hst⟩ := hq
          go_wp2_with fail
          refine hK.out _ _ (StepP.mem hst (r := blk Z [.int .i64 wu, .int .i64 wd] 30) (by simp)) (fun hHeld => ?_)
          clear hK K
          try simp only [Act.put, List.setIfInBounds_toArray, List.set_cons_zero, List.set_cons_succ]
          refine' wpAnyH_take (i := 6) (v := _) (op_at rfl) (by kernel_rfl) (by kernel_rfl) (by kernel_rfl) (fun _ _ _ h => h) (Or.inl ⟨by rfl, ?hy21⟩) (by assumption) ?rest21
          case hy21 =>
            intro w' hS
            go_simp
            try with_reducible rfl
          try simp only [Act.put, List.setIfInBounds_toArray, List.set_cons_zero, List.set_cons_succ]
          refine wpAnyH_done (by kernel_rfl) ?_ _
          go_wp2_with fail
          go_meet
          case rel => exact hst.drop
        by_cases hc6 : c < 6
        · have dc0 : decide (c = 0) = false := by simp; omega
          have bc0 : (c == 0) = false := by simp; omega
          have dc1 : decide (c = 1) = false := by simp; omega
          have bc1 : (c == 1) = false := by simp; omega
          have dc2 : decide (c = 2) = false := by simp; omega
          have bc2 : (c == 2) = false := by simp; omega
          have dc3 : decide (c = 3) = false := by simp; omega
          have bc3 : (c == 3) = false := by simp; omega
          go_upto_if 136 with fail
          go_cut [136] from 137 to 138 (fun u wx => u = .bool true ∧ wx = wU)
          case first =>
            have hc : c = 4 ∨ c = 5 := by omega
            rcases hc with rfl | rfl
            all_goals
              go_wp2_with fail
              go_meet
              case rel => exact ⟨rfl, rfl⟩
          case rest =>
          obtain ⟨rfl, rfl⟩ := hcut
          have hZ4 : wc.heap[Z]? = some (.cells #[.int .i64 wu, .int .i64 wd] 30 (0, 0)) := (s4.sel 9 [7]).head
          have hX4 : wc.heap[X]? = some (.cells cs.toArray 55 (0, 0)) := (s4.sel 9 [8]).head
          have z0 := cell_two0 hZ4
          have z1 := cell_two1 hZ4
          have c3_ := (cell_in hX4 3).trans g3
          go_wp2_with fail
          refine (bundleR_any wu wd (n % 20) _ (by omega) (by omega) _).mono ?_
          intro e w5 hq
          obtain ⟨b1, rfl, ob1, _, _, _, bn1, br1, bf1⟩ := bundR_num (by omega) (by omega) hq
          have s5 : Pw.Sep w w5 (ST B S v rv l ms (b1 :: P) [blk Z [.int .i64 wu, .int .i64 wd] 30, blk X cs 55]) := (Sep.pool ((s4.add ob1 br1 bf1).sel 8 [0, 7, 1, 2, 3, 4, 5, 6])).sel 7 [1, 2, 3, 4, 5, 6, 0]
          have HP5 := Lib.hid (HP.out.pool bn1)
          clear s4 ob1 br1 bf1 hq c3_ z0 z1 hZ4 hX4
          go_upto_if 152 with (refine wpList_buildSlice_one rfl 42 _ rfl 40 i0 _ (bc b1) rfl Try.underlying42 hi hz0 (by rw [hz1, bc_len]) (by rw [bc_len]; rfl) (by rw [bc_len]; decide) (by rw [bc_len]; decide) ?_; intro Y w6 o6 hYl hY6; have c3_ : w6.cell? ⟨X, 3, none⟩ = some (.int .u8 n) := (cell_in (show w6.heap[X]? = some (.cells cs.toArray 55 (0, 0)) from ((s5.quiet o6).sel 9 [8]).head) 3).trans g3)
          have hL1 : Hid (fl bc [b1] = bc b1) := by show _ = _; simp [fl]
          have s6 : Pw.Sep w w6 (row 40 10 (.slice (some ⟨Y, 0, none⟩) 1 1) [b1].length (fl bc [b1]) :: ST B S v rv l ms (b1 :: P) [blk Z [.int .i64 wu, .int .i64 wd] 30, blk X cs 55]) := s5.add (b := row 40 10 (.slice (some ⟨Y, 0, none⟩) 1 1) [b1].length (fl bc [b1])) o6 (blk_row (cs := fl bc [b1]) (by rw [hL1.out]; exact hY6) (by simp [fl, bc_len]) (by simp [maxLen])) (fun k hk => by simp [row, Value.ownBlock] at hk; omega)
          clear s5 o6 hY6 hL1
          go_cut [11] from 139 to 157 (fun u wx => ∃ (bs : List Bu) (P' : List Bu), Pw.Sep w wx (row 40 10 u bs.length (fl bc bs) :: ST B S v rv l ms P' [blk Z [.int .i64 wu, .int .i64 wd] 30, blk X cs 55]) ∧ Play k l ms P' ∧ (∀ b ∈ bs, b ∈ P') ∧ bs.length ≤ 4)
          case first =>
            by_cases h11 : n % 11 = 0
            · have d11 : decide (n % 11 = 0) = true := by simpa using h11
              have b11 : (n % 11 == 0) = true := by simpa using h11
              clear h11
              go_wp2_with fail
              refine (bundleR_no 7 1 1 (by decide) (by decide) _).mono ?_
              intro e w4 hq
              obtain ⟨b4, rfl, ob4, _, _, _, bn4, br4, bf4⟩ := bundR_num (by decide) (by decide) hq
              have s7 : Pw.Sep w w4 (row 40 10 (.slice (some ⟨Y, 0, none⟩) 1 1) [b1].length (fl bc [b1]) :: ST B S v rv l ms (b4 :: b1 :: P) [blk Z [.int .i64 wu, .int .i64 wd] 30, blk X cs 55]) := (Sep.pool ((s6.add ob4 br4 bf4).sel 9 [0, 8, 1, 2, 3, 4, 5, 6, 7])).sel 8 [1, 2, 3, 4, 5, 6, 7, 0]
              have HP7 := Lib.hid (HP5.out.pool bn4)
              have hL4 : Hid (fl bc [b1] ++ bc b4 = fl bc [b1, b4]) := by show _ = _; simp [fl, List.append_assoc]
              clear s6 ob4 br4 bf4 hq c3_
              go_wp2_with (first
                | (refine wpList_buildSlice_one rfl 42 _ rfl 40 i0 _ (bc b4) rfl Try.underlying42 hi hz0 (by rw [hz1, bc_len]) (by rw [bc_len]; rfl) (by rw [bc_len]; decide) (by rw [bc_len]; decide) ?_; intro Y6 w6 o6 hY6l hY6; have s8 := s7.quiet o6; clear s7 o6)
                | (at_builtin; refine wpList_append_sep rfl _ _ 42 rfl 40 i0 _ 10 152 Try.underlying42 hi hz0 hz1 hz2 rfl (by decide) (.slice (some ⟨Y, 0, none⟩) 1 1) 1 _ rfl s8 _ 1 (bc b4) rfl (src_blk hY6 (by rw [bc_len])) (bc_one b4) (by unfold maxLen; omega) (by omega) ?_; intro a7 c7 w7 o7 s9; rw [hL4.out] at s9))
              go_meet
              case rel => exact ⟨[b1, b4], _, s9, HP7.out, by simp, by simp⟩
            · have d11 : decide (n % 11 = 0) = false := by simpa using h11
              have b11 : (n % 11 == 0) = false := by simpa using h11
              clear h11
              go_wp2_with fail
              go_meet
              case rel => exact ⟨[b1], _, s6, HP5.out, by simp, by simp⟩
          case rest =>
          obtain ⟨bs, P', s7, hp7, hbs, hbl⟩ := hcut
          have s8 : Pw.Sep w wc.drew (regR B v l (row 40 10 u11 bs.length (fl bc bs) :: refR S rv ms (many (P'.map rdB) :: [blk Z [.int .i64 wu, .int .i64 wd] 30, blk X cs 55]))) := (s7.quiet (Only.drew wc [])).sel 8 [1, 2, 3, 0, 4, 5, 6, 7]
          have hZ4 : wc.drew.heap[Z]? = some (.cells #[.int .i64 wu, .int .i64 wd] 30 (0, 0)) := ((s7.quiet (Only.drew wc [])).sel 10 [8]).head
          obtain ⟨er, hpub⟩ := pub_both B S l ms v rv P' wu wd u11 bs k wc.drew s8 hp7 (by omega) (by omega) hbs
          simp only [wv] at hpub
          clear s6 s7 s8 hp7 hbs HP5 c3_
          go_upto_region 35 with fail
          refine wp_region_held_drew (S := fun w' => w'.heap[Z]? = some (.cells #[.int .i64 wu, .int .i64 wd] 30 (0, 0))) (by kernel_rfl) hZ4 (fun hHeld => ?_)
          refine' wpAnyH_take (i := 0) (v := _) (op_at rfl) (by kernel_rfl) (by kernel_rfl) (by kernel_rfl) (fun _ _ _ h => h) (Or.inl ⟨by rfl, ?hy22⟩) (by assumption) ?rest22
          case hy22 =>
            intro w' hS
            go_simp
            try with_reducible rfl
          try simp only [Act.put, List.setIfInBounds_toArray, List.set_cons_zero, List.set_cons_succ]
          refine' wpAnyH_take (i := 1) (v := _) (op_at rfl) (by kernel_rfl) (by kernel_rfl) (by kernel_rfl) (fun _ _ _ h => h) (Or.inl ⟨by rfl, ?hy23⟩) (by assumption) ?rest23
          case hy23 =>
            intro w' hS
            have z0 := cell_two0 hS
            have z1 := cell_two1 hS
            go_simp
            try with_reducible rfl
          try simp only [Act.put, List.setIfInBounds_toArray, List.set_cons_zero, List.set_cons_succ]
          refine' wpAnyH_take (i := 2) (v := _) (op_at rfl) (by kernel_rfl) (by kernel_rfl) (by kernel_rfl) (fun _ _ _ h => h) (Or.inl ⟨by rfl, ?hy24⟩) (by assumption) ?rest24
          case hy24 =>
            intro w' hS
            go_simp
            try with_reducible rfl
          try simp only [Act.put, List.setIfInBounds_toArray, List.set_cons_zero, List.set_cons_succ]
          refine' wpAnyH_take (i := 4) (v := _) (op_at rfl) (by kernel_rfl) (by kernel_rfl) (by kernel_rfl) (fun _ _ _ h => h) (Or.inl ⟨by rfl, ?hy25⟩) (by assumption) ?rest25
          case hy25 =>
            intro w' hS
            go_simp
            try with_reducible rfl
          try simp only [Act.put, List.setIfInBounds_toArray, List.set_cons_zero, List.set_cons_succ]
          refine' wpAnyH_take (i := 5) (v := _) (op_at rfl) (by kernel_rfl) (by kernel_rfl) (by kernel_rfl) (fun _ _ _ h => h) (Or.inl ⟨by rfl, ?hy26⟩) (by assumption) ?rest26
          case hy26 =>
            intro w' hS
            have z0 := cell_two0 hS
            have z1 := cell_two1 hS
            go_simp
            try with_reducible rfl
          try simp only [Act.put, List.setIfInBounds_toArray, List.set_cons_zero, List.set_cons_succ]
          refine' wpAnyH_take (i := 6) (v := _) (op_at rfl) (by kernel_rfl) (by kernel_rfl) (by kernel_rfl) (fun _ _ _ h => h) (Or.inl ⟨by rfl, ?hy27⟩) (by assumption) ?rest27
          case hy27 =>
            intro w' hS
            go_simp
            try with_reducible rfl
          try simp only [Act.put, List.setIfInBounds_toArray, List.set_cons_zero, List.set_cons_succ]
          refine wpAnyH_ready (rs := [3]) (by kernel_rfl) (by simp) (AllReadyH.cons (op_at rfl) (fun K hK => ?_) AllReadyH.nil)
          go_simp
          refine hpub.mono fun e wA hq => ?_
          obtain ⟨rfl, ⟨M, sM⟩, hrr⟩ := hq
          go_wp2_with fail
          refine hK.out _ _ (Sep.mem sM (r := blk Z [.int .i64 wu, .int .i64 wd] 30) (by simp)) (fun hHeld => ?_)
          clear hK K
          try simp only [Act.put, List.setIfInBounds_toArray, List.set_cons_zero, List.set_cons_succ]
          refine wpAnyH_ready (rs := [7]) (by kernel_rfl) (by simp) (AllReadyH.cons (op_at rfl) (fun K hK => ?_) AllReadyH.nil)
          go_simp
          refine (hrr _ (many []) (Only.refl _ _) many0 (fun k hk => by simp [many] at hk)).mono fun e wB hq => ?_
          obtain ⟨rfl, hst⟩ := hq
          go_wp2_with fail
          refine hK.out _ _ (StepP.mem hst (r := blk Z [.int .i64 wu, .int .i64 wd] 30) (by simp)) (fun hHeld => ?_)
          clear hK K
          try simp only [Act.put, List.setIfInBounds_toArray, List.set_cons_zero, List.set_cons_succ]
          refine' wpAnyH_take (i := 8) (v := _) (op_at rfl) (by kernel_rfl) (by kernel_rfl) (by kernel_rfl) (fun _ _ _ h => h) (Or.inl ⟨by rfl, ?hy28⟩) (by assumption) ?rest28
          case hy28 =>
            intro w' hS
            go_simp
            try with_reducible rfl
          try simp only [Act.put, List.setIfInBounds_toArray, List.set_cons_zero, List.set_cons_succ]
          refine wpAnyH_done (by kernel_rfl) ?_ _
          go_wp2_with fail
          go_meet
          case rel => exact hst.drop
        · have dc0 : decide (c = 0) = false := by simp; omega
          have bc0 : (c == 0) = false := by simp; omega
          have dc1 : decide (c = 1) = false := by simp; omega
          have bc1 : (c == 1) = false := by simp; omega
          have dc2 : decide (c = 2) = false := by simp; omega
          have bc2 : (c == 2) = false := by simp; omega
          have dc3 : decide (c = 3) = false := by simp; omega
          have bc3 : (c == 3) = false := by simp; omega
          have dc4 : decide (c = 4) = false := by simp; omega
          have bc4 : (c == 4) = false := by simp; omega
          have dc5 : decide (c = 5) = false := by simp; omega
          have bc5 : (c == 5) = false := by simp; omega
          obtain ⟨er, b_, hb, htk⟩ := take_both B S l ms v rv P wu wd k wU s4 HP.out (by omega)
          have hZ4 : wU.heap[Z]? = some (.cells #[.int .i64 wu, .int .i64 wd] 30 (0, 0)) := (s4.sel 9 [7]).head
          have z0 := cell_two0 hZ4
          have z1 := cell_two1 hZ4
          have hbl := bc_len b_
          have hb1 := bc_arr b_
          simp only [wv] at htk
          clear s4
          go_wp2_with fail
          refine htk.mono ?_
          rintro e wA ⟨rfl, ⟨M, sM⟩, hrt⟩
          clear htk z0 z1 hZ4
          go_upto_region 12 with (first
            | (refine wpList_alloc_new rfl 40 rfl (.agg (bc b0).toArray) (fun _ => by kernel_rfl) ?_; intro Q1 wX oX hXl hX)
            | (refine wpList_store_blk rfl 40 _ _ rfl Q1 (bc b_) rfl rfl hX (by rw [hbl]; rfl) (by rw [hbl]; kernel_rfl) hb1 ?_; intro wB oB_ hB; have oAB := oX.new oB_ (fun i hi => by simp only [List.mem_singleton] at hi; omega)))
          have hZB : wB.heap[Z]? = some (.cells #[.int .i64 wu, .int .i64 wd] 30 (0, 0)) := oAB.at (show wA.heap[Z]? = _ from Sep.mem sM (r := blk Z [.int .i64 wu, .int .i64 wd] 30) (by simp)) (by simp)
          have z0 := cell_two0 hZB
          have z1 := cell_two1 hZB
          have hrt2 := hrt wB (blk Q1 (bc b_) 40) oAB hB (fun k hk => by simp [blk] at hk; omega)
          clear hrt sM oX oB_ oAB hX hXl hZB hB
          go_wp2_with fail
          refine hrt2.mono ?_
          rintro e wC ⟨rfl, hst⟩
          obtain ⟨hrd, hu1, hu2⟩ := hst.rd hb
          have hQ1 : wC.heap[Q1]? = some (.cells (bc b_).toArray 40 (0, 0)) := hst.mem (r := blk Q1 (bc b_) 40) (by simp)
          clear hrt2 z0 z1
          go_upto_region 13 with (first
            | (refine wpList_alloc_new rfl 40 rfl (.agg (bc b0).toArray) (fun _ => by kernel_rfl) ?_; intro Q2 wX oX hXl hX)
            | (refine wpList_store_blk rfl 40 _ _ rfl Q2 (bc b_) rfl rfl hX (by rw [hbl]; rfl) (by rw [hbl]; kernel_rfl) hb1 ?_; intro wD oB_ hQ2; have oCD := oX.new oB_ (fun i hi => by simp only [List.mem_singleton] at hi; omega)))
          replace hQ1 := oCD.at hQ1 (by simp)
          obtain ⟨ps, hB9⟩ := bun09 b_ wC hrd hu1 hu2
          replace hB9 := fun (w' : World) (o : Only wD w' []) => hB9 w' (oCD.trans o)
          have hst2 := hst.quiet oCD
          replace hB9 := Lib.hid hB9
          clear hrd hu1 hu2 hst oX oB_ oCD hX hXl hb
          refine wp_region_held_drew (S := fun w' => Only wD.drew w' []) (by kernel_rfl) (Only.refl _ _) (fun hHeld => ?_)
          refine' wpAnyH_take (i := 0) (v := _) (op_at rfl) (by kernel_rfl) (by kernel_rfl) (by kernel_rfl) (fun _ _ _ h => h) (Or.inl ⟨by rfl, ?hy29⟩) (by assumption) ?rest29
          case hy29 =>
            intro w' hS
            go_simp
            try with_reducible rfl
          try simp only [Act.put, List.setIfInBounds_toArray, List.set_cons_zero, List.set_cons_succ]
          refine' wpAnyH_take (i := 1) (v := _) (op_at rfl) (by kernel_rfl) (by kernel_rfl) (by kernel_rfl) (fun _ _ _ h => h) (Or.inl ⟨by rfl, ?hy30⟩) (by assumption) ?rest30
          case hy30 =>
            intro w' hS
            go_simp
            try with_reducible rfl
          try simp only [Act.put, List.setIfInBounds_toArray, List.set_cons_zero, List.set_cons_succ]
          refine' wpAnyH_take (i := 2) (v := _) (op_at rfl) (by kernel_rfl) (by kernel_rfl) (by kernel_rfl) (fun _ _ _ h => h) (Or.inl ⟨by rfl, ?hy31⟩) (by assumption) ?rest31
          case hy31 =>
            intro w' hS
            go_simp
            try with_reducible rfl
          try simp only [Act.put, List.setIfInBounds_toArray, List.set_cons_zero, List.set_cons_succ]
          refine' wpAnyH_take (i := 3) (v := _) (op_at rfl) (by kernel_rfl) (by kernel_rfl) (by kernel_rfl) (fun _ _ _ h => h) (Or.inl ⟨by rfl, ?hy32⟩) (by assumption) ?rest32
          case hy32 =>
            intro w' hS
            go_simp
            try with_reducible rfl
          try simp only [Act.put, List.setIfInBounds_toArray, List.set_cons_zero, List.set_cons_succ]
          refine wpAnyH_take (i := 4) (op_at rfl) (by kernel_rfl) (by kernel_rfl) (by kernel_rfl) (fun _ _ _ h => h) (yieldsIf_load_mid (by rfl) _ _ rfl Q1 0 rfl (bc b_) _ (fun w' hS => block_range (((Only.drew wD []).trans hS).at hQ1 (by simp))) Try.underlying40 (by rfl) (by rw [hbl]; kernel_rfl)) (by assumption) ?_
          try simp only [Act.put, List.setIfInBounds_toArray, List.set_cons_zero, List.set_cons_succ]
          refine wpAnyH_take (i := 7) (op_at rfl) (by kernel_rfl) (by kernel_rfl) (by kernel_rfl) (fun _ _ _ h => h) (yieldsIf_load_mid (by rfl) _ _ rfl Q2 0 rfl (bc b_) _ (fun w' hS => block_range (((Only.drew wD []).trans hS).at hQ2 (by simp))) Try.underlying40 (by rfl) (by rw [hbl]; kernel_rfl)) (by assumption) ?_
          try simp only [Act.put, List.setIfInBounds_toArray, List.set_cons_zero, List.set_cons_succ]
          refine wpAnyH_ready (rs := [5]) (by kernel_rfl) (by simp) (AllReadyH.cons (op_at rfl) (fun K hK => ?_) AllReadyH.nil)
          go_simp
          refine (hB9.out _ (Only.drew wD [])).mono fun e w5 hq => ?_
          obtain ⟨v5, rfl, hv5, _, o5⟩ := hq
          obtain ⟨a5, c5, rfl⟩ := own_slice hv5
          go_wp2_with fail
          refine hK.out _ _ o5 (fun hHeld => ?_)
          clear hK K
          try simp only [Act.put, List.setIfInBounds_toArray, List.set_cons_zero, List.set_cons_succ]
          refine wpAnyH_more (S' := fun w' => Only w5 w' []) (fun w' h => Only.trans o5 h) _ _ _ _ ?_
          clear hHeld
          have hHeld : Only w5 w5 [] := Only.refl _ _
          refine' wpAnyH_take (i := 6) (v := _) (op_at rfl) (by kernel_rfl) (by kernel_rfl) (by kernel_rfl) (fun _ _ _ h => h) (Or.inl ⟨by rfl, ?hy35⟩) (by assumption) ?rest35
          case hy35 =>
            intro w' hS
            have hs_ := run_str (P := Try.prog) (S := 22) (T := 9) Try.underlying22 Try.underlying5 Try.underlying9 (own_src (own_only hv5 hS (fun _ _ => by simp))) rfl
            go_simp
            try with_reducible rfl
          try simp only [Act.put, List.setIfInBounds_toArray, List.set_cons_zero, List.set_cons_succ]
          refine wpAnyH_ready (rs := [8]) (by kernel_rfl) (by simp) (AllReadyH.cons (op_at rfl) (fun K hK => ?_) AllReadyH.nil)
          go_simp
          refine (hB9.out _ ((Only.drew wD []).trans o5)).mono fun e w8 hq => ?_
          obtain ⟨v8, rfl, hv8, _, o8⟩ := hq
          obtain ⟨a8, c8, rfl⟩ := own_slice hv8
          go_wp2_with fail
          refine hK.out _ _ o8 (fun hHeld => ?_)
          clear hK K
          try simp only [Act.put, List.setIfInBounds_toArray, List.set_cons_zero, List.set_cons_succ]
          refine wpAnyH_more (S' := fun w' => Only w8 w' []) (fun w' h => Only.trans o8 h) _ _ _ _ ?_
          clear hHeld
          have hHeld : Only w8 w8 [] := Only.refl _ _
          refine' wpAnyH_take (i := 9) (v := _) (op_at rfl) (by kernel_rfl) (by kernel_rfl) (by kernel_rfl) (fun _ _ _ h => h) (Or.inl ⟨by rfl, ?hy36⟩) (by assumption) ?rest36
          case hy36 =>
            intro w' hS
            have hs_ := run_str (P := Try.prog) (S := 22) (T := 9) Try.underlying22 Try.underlying5 Try.underlying9 (own_src (own_only hv8 hS (fun _ _ => by simp))) rfl
            go_simp
            try with_reducible rfl
          try simp only [Act.put, List.setIfInBounds_toArray, List.set_cons_zero, List.set_cons_succ]
          refine' wpAnyH_take (i := 10) (v := _) (op_at rfl) (by kernel_rfl) (by kernel_rfl) (by kernel_rfl) (fun _ _ _ h => h) (Or.inl ⟨by rfl, ?hy37⟩) (by assumption) ?rest37
          case hy37 =>
            intro w' hS
            go_simp
            try with_reducible rfl
          try simp only [Act.put, List.setIfInBounds_toArray, List.set_cons_zero, List.set_cons_succ]
          refine' wpAnyH_take (i := 11) (v := _) (op_at rfl) (by kernel_rfl) (by kernel_rfl) (by kernel_rfl) (fun _ _ _ h => h) (Or.inl ⟨by rfl, ?hy38⟩) (by assumption) ?rest38
          case hy38 =>
            intro w' hS
            go_simp
            try with_reducible rfl
          try simp only [Act.put, List.setIfInBounds_toArray, List.set_cons_zero, List.set_cons_succ]
          refine wpAnyH_done (by kernel_rfl) ?_ _
          go_wp2_with fail
          go_meet
          case rel => exact (hst2.quiet (((Only.drew wD []).trans o5).trans o8)).drop
      case rest =>
        obtain ⟨P4, v4, rv4, l4, ms4, s5, hp5⟩ := hcut
        have hlen := hp5.len
        have htd := told_any B S l4 ms4 v4 rv4 P4 _ s5 hp5.inv (by omega) hp5.bs
        have HP5 := Lib.hid hp5
        clear hp5 s4 hlen
        go_wp2_with fail
        refine htd.mono ?_
        rintro e w5 ⟨rfl, o5⟩
        have s6 := s5.quiet o5
        clear htd s5 o5
        go_wp2_with fail
        exact ⟨⟨k + 1, v4, rv4, l4, ms4, P4, by simp, by omega, s6, HP5.out⟩, by simp [intOf]; omega⟩
    · obtain rfl : k = xs.length := by omega
      have d1 : decide ((xs.length : Int) < xs.length) = false := by simp
      have oF := hs.only
      clear hs hp HA
      go_wp2_with fail
      go_ret
      exact ⟨rfl, oF.below (Nat.le_refl _) (by simp)⟩

set_option maxRecDepth 100000 in
theorem plays_bail (ap : Option Addr) (n cp : Nat) (w : World) (h : 50 < n) :
    Calls Try.prog 5 #[.slice ap n cp] w fun e w' => e = .returned (.bool true) ∧ Below w.heap.size w w' := by
  have d0 : decide ((50 : Int) < n) = true := by simp; omega
  clear h
  go_enter Try.func5, Try.ntmps5
  go_wp2_with fail
  refine (awake_any _).mono ?_
  rintro e w1 ⟨rfl, h1⟩
  go_wp2_with fail
  refine (awake_any _).mono ?_
  rintro e w2 ⟨rfl, h2⟩
  go_wp2_with fail
  go_ret
  exact ⟨rfl, (h1.trans h2).below (Nat.le_refl _) (by simp)⟩

theorem cnAct : Try.prog.cellsOf 55 = 4 := by kernel_rfl
theorem cnU8 : Try.prog.cellsOf 5 = 1 := by kernel_rfl
set_option maxRecDepth 100000 in
theorem act_of {W : World} {cs : List Value} (h : Reads Try.prog W 55 cs) (hl : cs.length = 4) : ∃ x : Ac, cs = acc x ∧ AcOk x := by
  obtain ⟨a, ea, wa⟩ := reads_int Try.underlying5 (reads_field Try.underlying55 h 0 _ rfl 0 1 5 rfl rfl cnU8)
  obtain ⟨b, eb, wb⟩ := reads_int Try.underlying5 (reads_field Try.underlying55 h 1 _ rfl 1 1 5 rfl rfl cnU8)
  obtain ⟨c, ec, wc⟩ := reads_int Try.underlying5 (reads_field Try.underlying55 h 2 _ rfl 2 1 5 rfl rfl cnU8)
  obtain ⟨d, ed, wd⟩ := reads_int Try.underlying5 (reads_field Try.underlying55 h 3 _ rfl 3 1 5 rfl rfl cnU8)
  refine ⟨⟨a, b, c, d⟩, ?_, u8_wf wa, u8_wf wb, u8_wf wc, u8_wf wd⟩
  match cs, hl with
  | [x0, x1, x2, x3], _ =>
    simp at ea eb ec ed
    simp [acc, ea, eb, ec, ed]

set_option maxRecDepth 100000 in
theorem registryPlays_holds : Rows.RegistryPlaysSaid := registryPlays.said fun H enc base W v0 d0 p0 h0 t0 => by
  obtain ⟨fuel, hf⟩ := t0
  obtain ⟨ap', len', cap', rfl⟩ := Go.WideShapes.okWide_slice Try.underlying48 h0
  obtain ⟨ap, cp, xs, e, hp, hr⟩ := reads_recs (enc := acc) (Q := AcOk) acc_len (by decide) Try.underlying48 cnAct (fun cs' hl hc => act_of hc hl) ⟨H, enc, fuel, _, hf⟩
  have e : [Value.slice ap' len' cap'] = [.slice ap xs.length cp] := e
  injection e with e
  rw [e]
  by_cases hc : xs.length ≤ 50
  · exact plays_walk ap cp xs W hp hr hc
  · exact plays_bail ap _ cp W (by omega)
end Go.Proofs.Yteljkfihmbddaaa
