/- The contracts of the reference of layers 9, 11, 13 and 14 (pawlref09): each function gives the document's bytes behind those that it is handed, in new memory, for bytes shorter than the bounds that each contract names. -/
import Derived.Test.YtemlpjfngaemdaaWireP
import Derived.Deep.RegionHeld3
namespace Go.Proofs.Ytemlpjfngaemdaa
open Go.RowKit Go.Pw
set_option linter.unusedVariables false

/-- The answer is a row of the call's own, which holds xs; nothing that was there has turned. -/
def Fresh (xs : List Int) (w : World) (e : Ending) (w' : World) : Prop :=
  ∃ v, e = .returned v ∧ w'.ownsRow 0 5 1 v xs.length (xs.map (Value.int .u8)) ∧ SoN w (.slice none 0 0) v ∧ Only w w' []

/-- A slice of bytes that is read. -/
def Rd (w : World) (v : Value) (xs : List Int) : Prop := Src w v 1 xs.length (xs.map (Value.int .u8))

theorem Rd.nil (w : World) : Rd w (.slice none 0 0) [] := ⟨none, 0, rfl, Nat.le_refl _, Nat.zero_le _, rfl, fun _ => ⟨rfl, rfl⟩, by simp⟩
theorem Rd.new {w w' : World} {v : Value} {xs : List Int} (h : Rd w v xs) (ho : Only w w' []) : Rd w' v xs := Src.off h ho (fun _ _ _ => by simp)
theorem Rd.slice {w : World} {v : Value} {xs : List Int} (h : Rd w v xs) : ∃ ao c, v = .slice ao xs.length c := by
  obtain ⟨ao, c, h, _⟩ := h
  exact ⟨ao, c, h⟩

theorem own_rd {w : World} {v : Value} {xs : List Int} (h : w.ownsRow 0 5 1 v xs.length (xs.map (Value.int .u8))) : Rd w v xs := own_src h

set_option maxHeartbeats 800000 in
theorem rfnum_any (v0 : Value) (xs : List Int) (n : Int) (k : Nat) (w : World) (h0 : Rd w v0 xs) (hl : xs.length ≤ 1000000) (hk : k ≤ 8) (hn0 : 0 ≤ n) (hn1 : n < 18446744073709551616) :
    Calls Try.prog 33 #[v0, .int .u64 n, .int .i64 k] w (Fresh (xs ++ be n k) w) := by
  obtain ⟨i0, hi, hz0, hz1, hz2⟩ := info_parts Try.info5
  obtain ⟨ao, c, rfl⟩ := h0.slice
  have h0 := Lib.hid h0
  go_enter Try.func33, Try.ntmps33
  go_wp2_with (at_builtin; refine wpList_append_src rfl _ _ 22 rfl 5 i0 (.int .u8 0) 1 1 Try.underlying22 hi hz0 hz1 hz2 rfl (by decide) (.slice none 0 0) 0 [] rfl (World.ownsRow_nil _ _ _ _) _ xs.length _ rfl h0.out (one_ints _ _) (by unfold maxLen; omega) (by omega) ?_; intro v' w2 g1 g2 g3; simp only [Nat.zero_add, List.nil_append] at g1; obtain ⟨aq, cq, rfl⟩ := own_slice g1)
  have ho2 : Only w w2 [] := Only.grown g2 (by simp [Value.ownBlock])
  clear g2
  go_loopw [7, 8] (fun vv i wr => ∃ j : Nat, i = .int .i64 ((j : Int) - 1) ∧ j ≤ k ∧ ∃ ys, wr.ownsRow 0 5 1 vv ys.length (ys.map (Value.int .u8)) ∧ SoN w (.slice none 0 0) vv ∧ Only w wr [] ∧ ys ++ be n j = xs ++ be n k ∧ ys.length ≤ 1000000 + k - j)
    (fun _ i _ => (intOf i + 1).toNat)
  case atStart => exact ⟨k, rfl, Nat.le_refl _, xs, g1, g3, ho2, rfl, by omega⟩
  case round =>
    obtain ⟨j, rfl, hj, ys, hown, hson, honly, hys, hyl⟩ := hrel
    clear g1 g3 ho2
    by_cases hj0 : j = 0
    · subst hj0
      obtain ⟨ao', cc', rfl⟩ := own_slice hown
      have Hys := Lib.hid hys
      clear hys
      go_wp2
      go_ret
      have e : ys = xs ++ be n k := by simpa [be] using Hys.out
      subst e
      exact ⟨_, rfl, hown, hson, honly⟩
    · obtain ⟨j', rfl⟩ : ∃ j', j = j' + 1 := ⟨j - 1, by omega⟩
      obtain ⟨ao', cc', rfl⟩ := own_slice hown
      have p1 : 0 ≤ 8 * (j' : Int) := by omega
      have m1 : (8 * (j' : Int)).toNat = 8 * j' := by omega
      have Hys := Lib.hid hys
      clear hys
      go_wp2_with (at_builtin; refine wpList_append_src rfl _ _ 22 rfl 5 i0 (.int .u8 0) 1 1 Try.underlying22 hi hz0 hz1 hz2 rfl (by decide) (.slice ao' ys.length cc') ys.length _ rfl (hown.alloc _) _ 1 _ rfl (src_one wr (.int .u8 (IntKind.u8.wrap (n / 2 ^ (8 * j')))) 5) (by simp [Value.oneCell']) (by unfold maxLen; omega) (by omega) ?_; intro v' w2 q1 q2 q3)
      go_roundw
      case rel =>
        refine ⟨j', rfl, by omega, ys ++ [IntKind.u8.wrap (n / 2 ^ (8 * j'))], by simpa using q1, hson.trans (q3.weaken (by simp)) honly.size, ?_, ?_, by simp; omega⟩
        · refine (honly.trans (Only.alloc wr _ [])).step (Only.grown q2 (L := (Value.slice ao' ys.length cc').ownBlock.toList) (fun k hk => by simp [hk])) (fun i hi => ?_)
          rcases hson i (by simpa using hi) with h | h
          · simp [Value.ownBlock] at h
          · exact .inr h
        · rw [← Hys.out]; simp [be, be_head n j' hn0]
      case measure => simp [intOf]

set_option maxHeartbeats 800000 in
theorem rfbytes_any (v0 q : Value) (xs qs : List Int) (w : World) (h0 : Rd w v0 xs) (h1 : Rd w q qs) (hl : xs.length ≤ 900000) (hq : qs.length ≤ 1000000000) :
    Calls Try.prog 31 #[v0, q] w (Fresh (xs ++ be qs.length 4 ++ qs) w) := by
  obtain ⟨i0, hi, hz0, hz1, hz2⟩ := info_parts Try.info5
  obtain ⟨ao, c, rfl⟩ := h0.slice
  obtain ⟨aq, cq, rfl⟩ := h1.slice
  go_enter Try.func31, Try.ntmps31
  go_wp2_with fail
  refine (rfnum_any _ xs qs.length 4 _ h0 (by omega) (by decide) (by omega) (by omega)).mono ?_
  rintro e w1 ⟨v1, rfl, g1, g2, g3⟩
  have hq1 := h1.new g3
  clear h0 h1
  have hyl : (xs ++ be qs.length 4).length ≤ 900004 := by simp [be_len]; omega
  have e4 := Lib.hid (show xs ++ be qs.length 4 ++ qs = (xs ++ be qs.length 4) ++ qs from rfl)
  obtain ⟨ys, hys⟩ : ∃ ys, ys = xs ++ be qs.length 4 := ⟨_, rfl⟩
  rw [← hys] at g1 hyl
  have Hys := Lib.hid hys
  clear hys e4
  obtain ⟨a1, c1, rfl⟩ := own_slice g1
  go_wp2_with (at_builtin; refine wpList_append_src rfl _ _ 22 rfl 5 i0 (.int .u8 0) 1 1 Try.underlying22 hi hz0 hz1 hz2 rfl (by decide) (.slice a1 ys.length c1) ys.length _ rfl g1 _ qs.length _ rfl hq1 (one_ints _ _) (by unfold maxLen; omega) (by omega) ?_; intro v' w2 q1 q2 q3; obtain ⟨a2, c2, rfl⟩ := own_slice q1)
  go_ret
  rw [← Hys.out]
  refine ⟨_, rfl, by rw [List.length_append, List.map_append]; exact q1, g2.trans q3 g3.size, g3.step (Only.grown q2 (L := (Value.slice a1 ys.length c1).ownBlock.toList) (fun k hk => by simp [hk])) (fun i hi => ?_)⟩
  rcases g2 i (by simpa using hi) with h | h
  · simp [Value.ownBlock] at h
  · exact .inr h

theorem rfnum4 (v0 : Value) (xs : List Int) (n : Int) (w : World) (h0 : Rd w v0 xs) (hl : xs.length ≤ 1000000) (hn0 : 0 ≤ n) (hn1 : n < 18446744073709551616) :
    Calls Try.prog 33 #[v0, .int .u64 n, .int .i64 4] w (Fresh (xs ++ be n 4) w) := rfnum_any v0 xs n 4 w h0 hl (by decide) hn0 hn1

/-- A Fresh row, its bytes under a name, its value written out. -/
theorem Fresh.name {xs : List Int} {w : World} {e : Ending} {w' : World} (h : Fresh xs w e w') : ∃ ys ao c, Hid (ys = xs) ∧ e = .returned (.slice ao ys.length c) ∧ w'.ownsRow 0 5 1 (.slice ao ys.length c) ys.length (ys.map (Value.int .u8)) ∧ SoN w (.slice none 0 0) (.slice ao ys.length c) ∧ Only w w' [] := by
  obtain ⟨v, rfl, h1, h2, h3⟩ := h
  obtain ⟨ao, c, rfl⟩ := own_slice h1
  exact ⟨xs, ao, c, rfl, rfl, h1, h2, h3⟩

set_option maxHeartbeats 400000 in
theorem rfflag_any (v0 : Value) (xs : List Int) (b : Bool) (w : World) (h0 : Rd w v0 xs) (hl : xs.length ≤ 1000000) :
    Calls Try.prog 35 #[v0, .bool b] w (Fresh (xs ++ [if b then 1 else 0]) w) := by
  obtain ⟨ao, c, rfl⟩ := h0.slice
  cases b
  · go_enter Try.func35, Try.ntmps35
    go_wp2_with fail
    refine (rfnum_any _ xs 0 1 _ h0 hl (by decide) (by decide) (by decide)).mono fun e w1 hq => ?_
    obtain ⟨ys, a1, c1, Hys, rfl, g1, g2, g3⟩ := hq.name
    clear hq
    go_wp2
    go_ret
    exact ⟨_, rfl, (Hys.out : ys = xs ++ [0]) ▸ g1, g2, g3⟩
  · go_enter Try.func35, Try.ntmps35
    go_wp2_with fail
    refine (rfnum_any _ xs 1 1 _ h0 hl (by decide) (by decide) (by decide)).mono fun e w1 hq => ?_
    obtain ⟨ys, a1, c1, Hys, rfl, g1, g2, g3⟩ := hq.name
    clear hq
    go_wp2
    go_ret
    exact ⟨_, rfl, (Hys.out : ys = xs ++ [1]) ▸ g1, g2, g3⟩

theorem u64_u32 (u : Int) : IntKind.u64.wrap (IntKind.u32.wrap u) = IntKind.u32.wrap u := by simp [IntKind.wrap, IntKind.bits, IntKind.signed]; omega
theorem u32_lo (u : Int) : 0 ≤ IntKind.u32.wrap u := by simp [IntKind.wrap, IntKind.bits, IntKind.signed]; omega
theorem u32_hi (u : Int) : IntKind.u32.wrap u < 18446744073709551616 := by simp [IntKind.wrap, IntKind.bits, IntKind.signed]; omega

theorem fresh_end {xs ys : List Int} {w w1 w2 : World} {v : Value} (h : w2.ownsRow 0 5 1 v ys.length (ys.map (Value.int .u8))) (hs : SoN w1 (.slice none 0 0) v) (hz : w.heap.size ≤ w1.heap.size) (ho : Only w w2 []) (e : ys = xs) : Fresh xs w (.returned v) w2 := by
  subst e
  exact ⟨v, rfl, h, hs.weaken hz, ho⟩
theorem u64_in (n : Int) (h0 : 0 ≤ n) (h1 : n < 4294967296) : IntKind.u64.wrap n = n := by simp [IntKind.wrap, IntKind.bits, IntKind.signed]; omega

/-- The bytes of a device; of what is public of it. -/
def whoB (u d : Int) : List Int := be (IntKind.u32.wrap u) 4 ++ be (IntKind.u32.wrap d) 4
def identB (a s : List Int) : List Int := be a.length 4 ++ a ++ be s.length 4 ++ s

set_option maxHeartbeats 800000 in
theorem rfwho_any (v0 : Value) (xs : List Int) (u d : Int) (w : World) (h0 : Rd w v0 xs) (hl : xs.length ≤ 900000) :
    Calls Try.prog 57 #[v0, .agg #[.int .i64 u, .int .i64 d]] w (Fresh (xs ++ whoB u d) w) := by
  obtain ⟨ao, c, rfl⟩ := h0.slice
  go_enter Try.func57, Try.ntmps57
  go_wp2_with fail
  obtain ⟨W, X, hW, hX, hb, hoW, _, _⟩ := new_block w (.cells #[.int .i64 u, .int .i64 d] 34)
  rw [← hW, ← hX]
  clear hW hX
  have Sk : ∀ w', Only W w' [] → w'.cell? ⟨X, 0, none⟩ = some (.int .i64 u) ∧ w'.cell? ⟨X, 1, none⟩ = some (.int .i64 d) := fun w' ho => ⟨ho.cell_in hb (by simp) 0, ho.cell_in hb (by simp) 1⟩
  have Hb := Lib.hid hb
  have hod := Only.drew W []
  have h1 := h0.new hoW
  clear hb h0
  have e1 : IntKind.u64.wrap (IntKind.u32.wrap u) = IntKind.u32.wrap u := u64_u32 u
  have e2 : IntKind.u64.wrap (IntKind.u32.wrap d) = IntKind.u32.wrap d := u64_u32 d
  go_region_held3 (fun w' => w'.cell? ⟨X, 0, none⟩ = some (.int .i64 u) ∧ w'.cell? ⟨X, 1, none⟩ = some (.int .i64 d)) (exact Sk _ (by assumption))
    (first
      | (go_at_call 33; (with_reducible refine (rfnum4 (.slice ao xs.length c) xs (IntKind.u32.wrap u) _ (h1.new hod) (by omega) (u32_lo u) (u32_hi u)).mono fun e w1 hq => ?_); obtain ⟨ys, a1, c1, Hys, rfl, g1, g2, g3⟩ := hq.name; have g4 := hod.trans g3; have gl : ys.length ≤ 950000 := by rw [Hys.out]; simp [be_len]; omega)
      | (go_at_call 33; (with_reducible refine (rfnum4 (.slice a1 ys.length c1) ys (IntKind.u32.wrap d) _ (own_rd g1) (by omega) (u32_lo d) (u32_hi d)).mono fun e w2 hq2 => ?_); obtain ⟨zs, a2, c2, Hzs, rfl, k1, k2, k3⟩ := hq2.name; have k4 := g4.trans k3))
  go_wp2
  go_ret
  exact fresh_end k1 k2 (hoW.trans g4).size (hoW.trans k4) (by rw [Hzs.out, Hys.out, List.append_assoc]; rfl)

set_option maxHeartbeats 800000 in
theorem rfident_any (v0 va vs : Value) (xs ags sgs : List Int) (w : World) (h0 : Rd w v0 xs) (ha : Rd w va ags) (hs : Rd w vs sgs) (hl : xs.length + ags.length + sgs.length ≤ 800000) :
    Calls Try.prog 52 #[v0, .agg #[va, vs]] w (Fresh (xs ++ identB ags sgs) w) := by
  obtain ⟨ao, c, rfl⟩ := h0.slice
  obtain ⟨aa, ca, rfl⟩ := ha.slice
  obtain ⟨az, cs, rfl⟩ := hs.slice
  go_enter Try.func52, Try.ntmps52
  go_wp2_with fail
  obtain ⟨W, X, hW, hX, hb, hoW, _, _⟩ := new_block w (.cells #[.slice aa ags.length ca, .slice az sgs.length cs] 36)
  rw [← hW, ← hX]
  clear hW hX
  have Sk : ∀ w', Only W w' [] → w'.cell? ⟨X, 0, none⟩ = some (.slice aa ags.length ca) ∧ w'.cell? ⟨X, 1, none⟩ = some (.slice az sgs.length cs) := fun w' ho => ⟨ho.cell_in hb (by simp) 0, ho.cell_in hb (by simp) 1⟩
  have hod := Only.drew W []
  have h1 := h0.new (hoW.trans hod)
  have h2 := ha.new (hoW.trans hod)
  have h3 := hs.new (hoW.trans hod)
  clear hb h0 ha hs
  go_region_held3 (fun w' => w'.cell? ⟨X, 0, none⟩ = some (.slice aa ags.length ca) ∧ w'.cell? ⟨X, 1, none⟩ = some (.slice az sgs.length cs)) (exact Sk _ (by assumption))
    (first
      | (go_at_call 31; (with_reducible refine (rfbytes_any (.slice ao xs.length c) (.slice aa ags.length ca) xs ags _ h1 h2 (by omega) (by omega)).mono fun e w1 hq => ?_); obtain ⟨ys, a1, c1, Hys, rfl, g1, g2, g3⟩ := hq.name; have g4 := hod.trans g3; have gl : ys.length ≤ xs.length + ags.length + 4 := by rw [Hys.out]; simp [be_len]; omega)
      | (go_at_call 31; (with_reducible refine (rfbytes_any (.slice a1 ys.length c1) (.slice az sgs.length cs) ys sgs _ (own_rd g1) (h3.new g3) (by omega) (by omega)).mono fun e w2 hq2 => ?_); obtain ⟨zs, a2, c2, Hzs, rfl, k1, k2, k3⟩ := hq2.name; have k4 := g4.trans k3))
  go_wp2
  go_ret
  exact fresh_end k1 k2 (hoW.trans g4).size (hoW.trans k4) (by rw [Hzs.out, Hys.out]; simp [identB])

/-- The bytes of a Hello; of a head. -/
def helloB (a s key : List Int) (signed : Int) (has : Bool) (once : Int) : List Int :=
  identB a s ++ be key.length 4 ++ key ++ be signed 4 ++ [if has then 1 else 0] ++ if has then be once 4 else []
def headB (key : List Int) (prev n : Int) : List Int := be key.length 4 ++ key ++ be prev 4 ++ be n 4

/-- A number of four bytes. -/
def U32 (n : Int) : Prop := 0 ≤ n ∧ n < 4294967296

set_option maxHeartbeats 800000 in
theorem rfhead_any (v0 vk : Value) (xs ks : List Int) (p n : Int) (w : World) (h0 : Rd w v0 xs) (hk : Rd w vk ks) (hp : U32 p) (hn : U32 n) (hl : xs.length + ks.length ≤ 800000) :
    Calls Try.prog 49 #[v0, .agg #[vk, .int .u32 p, .int .u32 n]] w (Fresh (xs ++ headB ks p n) w) := by
  obtain ⟨p0, p1⟩ := hp
  obtain ⟨n0, n1⟩ := hn
  obtain ⟨ao, c, rfl⟩ := h0.slice
  obtain ⟨aa, ca, rfl⟩ := hk.slice
  go_enter Try.func49, Try.ntmps49
  go_wp2_with fail
  obtain ⟨W, X, hW, hX, hb, hoW, _, _⟩ := new_block w (.cells #[.slice aa ks.length ca, .int .u32 p, .int .u32 n] 41)
  rw [← hW, ← hX]
  clear hW hX
  have Sk : ∀ w', Only W w' [] → w'.cell? ⟨X, 0, none⟩ = some (.slice aa ks.length ca) ∧ w'.cell? ⟨X, 1, none⟩ = some (.int .u32 p) ∧ w'.cell? ⟨X, 2, none⟩ = some (.int .u32 n) := fun w' ho => ⟨ho.cell_in hb (by simp) 0, ho.cell_in hb (by simp) 1, ho.cell_in hb (by simp) 2⟩
  have hod := Only.drew W []
  have h1 := h0.new (hoW.trans hod)
  have h2 := hk.new (hoW.trans hod)
  have e1 : IntKind.u64.wrap p = p := u64_in p p0 p1
  have e2 : IntKind.u64.wrap n = n := u64_in n n0 n1
  clear hb h0 hk
  go_region_held3 (fun w' => w'.cell? ⟨X, 0, none⟩ = some (.slice aa ks.length ca) ∧ w'.cell? ⟨X, 1, none⟩ = some (.int .u32 p) ∧ w'.cell? ⟨X, 2, none⟩ = some (.int .u32 n)) (exact Sk _ (by assumption))
    (first
      | (go_at_call 31; (with_reducible refine (rfbytes_any (.slice ao xs.length c) (.slice aa ks.length ca) xs ks _ h1 h2 (by omega) (by omega)).mono fun e w1 hq => ?_); obtain ⟨ys, a1, c1, Hys, rfl, g1, g2, g3⟩ := hq.name; have g4 := hod.trans g3; have gl : ys.length ≤ xs.length + ks.length + 4 := by rw [Hys.out]; simp [be_len]; omega)
      | (go_at_call 33; (with_reducible refine (rfnum4 (.slice a1 ys.length c1) ys p _ (own_rd g1) (by omega) p0 (by omega)).mono fun e w2 hq2 => ?_); obtain ⟨zs, a2, c2, Hzs, rfl, k1, k2, k3⟩ := hq2.name; have k4 := g4.trans k3; have kl : zs.length ≤ xs.length + ks.length + 8 := by rw [Hzs.out]; simp [be_len]; omega)
      | (go_at_call 33; (with_reducible refine (rfnum4 (.slice a2 zs.length c2) zs n _ (own_rd k1) (by omega) n0 (by omega)).mono fun e w3 hq3 => ?_); obtain ⟨us, a3, c3, Hus, rfl, l1, l2, l3⟩ := hq3.name; have l4 := k4.trans l3))
  go_wp2
  go_ret
  exact fresh_end l1 l2 (hoW.trans k4).size (hoW.trans l4) (by rw [Hus.out, Hzs.out, Hys.out]; simp [headB])

set_option maxHeartbeats 1600000 in
theorem rfhello_any (v0 va vs vk : Value) (xs ags sgs ks : List Int) (sg on : Int) (has : Bool) (w : World) (h0 : Rd w v0 xs) (ha : Rd w va ags) (hs : Rd w vs sgs) (hk : Rd w vk ks) (hsg : U32 sg) (hon : U32 on) (hl : xs.length + ags.length + sgs.length + ks.length ≤ 700000) :
    Calls Try.prog 38 #[v0, .agg #[va, vs, vk, .int .u32 sg, .bool has, .int .u32 on]] w (Fresh (xs ++ helloB ags sgs ks sg has on) w) := by
  obtain ⟨p0, p1⟩ := hsg
  obtain ⟨n0, n1⟩ := hon
  obtain ⟨ao, c, rfl⟩ := h0.slice
  obtain ⟨aa, ca, rfl⟩ := ha.slice
  obtain ⟨az, cs, rfl⟩ := hs.slice
  obtain ⟨ak, ck, rfl⟩ := hk.slice
  go_enter Try.func38, Try.ntmps38
  go_wp2_with fail
  obtain ⟨W, X, hW, hX, hb, hoW, _, _⟩ := new_block w (.cells #[.slice aa ags.length ca, .slice az sgs.length cs, .slice ak ks.length ck, .int .u32 sg, .bool has, .int .u32 on] 39)
  rw [← hW, ← hX]
  clear hW hX
  have Sk : ∀ w', Only W w' [] → w'.cell? ⟨X, 0, none⟩ = some (.slice aa ags.length ca) ∧ w'.cell? ⟨X, 1, none⟩ = some (.slice az sgs.length cs) ∧ w'.cell? ⟨X, 2, none⟩ = some (.slice ak ks.length ck) ∧ w'.cell? ⟨X, 3, none⟩ = some (.int .u32 sg) ∧ w'.cell? ⟨X, 4, none⟩ = some (.bool has) ∧ w'.cell? ⟨X, 5, none⟩ = some (.int .u32 on) := fun w' ho => ⟨ho.cell_in hb (by simp) 0, ho.cell_in hb (by simp) 1, ho.cell_in hb (by simp) 2, ho.cell_in hb (by simp) 3, ho.cell_in hb (by simp) 4, ho.cell_in hb (by simp) 5⟩
  have hod := Only.drew W []
  have h1 := h0.new (hoW.trans hod)
  have h2 := ha.new (hoW.trans hod)
  have h3 := hs.new (hoW.trans hod)
  have h4 := hk.new (hoW.trans hod)
  have e1 : IntKind.u64.wrap sg = sg := u64_in sg p0 p1
  have e2 : IntKind.u64.wrap on = on := u64_in on n0 n1
  clear hb h0 ha hs hk
  go_region_held3 (fun w' => w'.cell? ⟨X, 0, none⟩ = some (.slice aa ags.length ca) ∧ w'.cell? ⟨X, 1, none⟩ = some (.slice az sgs.length cs) ∧ w'.cell? ⟨X, 2, none⟩ = some (.slice ak ks.length ck) ∧ w'.cell? ⟨X, 3, none⟩ = some (.int .u32 sg) ∧ w'.cell? ⟨X, 4, none⟩ = some (.bool has) ∧ w'.cell? ⟨X, 5, none⟩ = some (.int .u32 on)) (exact Sk _ (by assumption))
    (first
      | (go_at_call 52; (with_reducible refine (rfident_any (.slice ao xs.length c) (.slice aa ags.length ca) (.slice az sgs.length cs) xs ags sgs _ h1 h2 h3 (by omega)).mono fun e w1 hq => ?_); obtain ⟨ys, a1, c1, Hys, rfl, g1, g2, g3⟩ := hq.name; have g4 := hod.trans g3; have gl : ys.length ≤ xs.length + ags.length + sgs.length + 8 := by rw [Hys.out]; simp [be_len, identB]; omega)
      | (go_at_call 31; (with_reducible refine (rfbytes_any (.slice a1 ys.length c1) (.slice ak ks.length ck) ys ks _ (own_rd g1) (h4.new g3) (by omega) (by omega)).mono fun e w2 hq2 => ?_); obtain ⟨zs, a2, c2, Hzs, rfl, k1, k2, k3⟩ := hq2.name; have k4 := g4.trans k3; have kl : zs.length ≤ xs.length + ags.length + sgs.length + ks.length + 12 := by rw [Hzs.out]; simp [be_len]; omega))
  go_wp2_with fail
  have hod2 := k4.trans (Only.drew w2 [])
  go_region_held3 (fun w' => w'.cell? ⟨X, 0, none⟩ = some (.slice aa ags.length ca) ∧ w'.cell? ⟨X, 1, none⟩ = some (.slice az sgs.length cs) ∧ w'.cell? ⟨X, 2, none⟩ = some (.slice ak ks.length ck) ∧ w'.cell? ⟨X, 3, none⟩ = some (.int .u32 sg) ∧ w'.cell? ⟨X, 4, none⟩ = some (.bool has) ∧ w'.cell? ⟨X, 5, none⟩ = some (.int .u32 on)) (exact Sk _ (by assumption))
    (first
      | (go_at_call 33; (with_reducible refine (rfnum4 (.slice a2 zs.length c2) zs sg _ ((own_rd k1).new (Only.drew w2 [])) (by omega) p0 (by omega)).mono fun e w3 hq3 => ?_); obtain ⟨us, a3, c3, Hus, rfl, l1, l2, l3⟩ := hq3.name; have l4 := hod2.trans l3; have ll : us.length ≤ xs.length + ags.length + sgs.length + ks.length + 16 := by rw [Hus.out]; simp [be_len]; omega)
      | (go_at_call 35; (with_reducible refine (rfflag_any (.slice a3 us.length c3) us has _ (own_rd l1) (by omega)).mono fun e w4 hq4 => ?_); obtain ⟨ts, a4, c4, Hts, rfl, m1, m2, m3⟩ := hq4.name; have m4 := l4.trans m3; have ml : ts.length ≤ xs.length + ags.length + sgs.length + ks.length + 17 := by rw [Hts.out]; simp; omega))
  have hS := Sk w4 m4
  cases has
  · go_wp2_with fail
    go_ret
    exact fresh_end m1 m2 (hoW.trans l4).size (hoW.trans m4) (by rw [Hts.out, Hus.out, Hzs.out, Hys.out]; simp [helloB])
  · go_wp2_with fail
    refine (rfnum4 (.slice a4 ts.length c4) ts on _ (own_rd m1) (by omega) n0 (by omega)).mono fun e w5 hq5 => ?_
    obtain ⟨rs, a5, c5, Hrs, rfl, o1, o2, o3⟩ := hq5.name
    clear hS
    go_wp2_with fail
    go_ret
    exact fresh_end o1 o2 (hoW.trans m4).size (hoW.trans (m4.trans o3)) (by rw [Hrs.out, Hts.out, Hus.out, Hzs.out, Hys.out]; simp [helloB])
end Go.Proofs.Ytemlpjfngaemdaa
