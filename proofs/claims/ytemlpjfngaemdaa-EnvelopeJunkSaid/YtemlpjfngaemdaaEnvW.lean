/- The contracts of package envelope's writing side: who, ident, hello, front, Hello, Front, Encode, EncodeInner, EncodeBundle lay the document's bytes, for parts shorter than the bounds that each contract names. -/
import Derived.Test.YtemlpjfngaemdaaEnv
namespace Go.Proofs.Ytemlpjfngaemdaa
open Go.RowKit Go.Pw
set_option linter.unusedVariables false

set_option maxHeartbeats 1600000 in
theorem who_any (B : Nat) (v0 : Value) (xs : List Int) (u d : Int) (w : World) (hw : IsW 26 5 B v0 xs w) (hl : xs.length ≤ 900000) :
    Calls Try.prog 53 #[.pointer (some ⟨B, 0, none⟩), .agg #[.int .i64 u, .int .i64 d]] w fun e w' => e = .returned (.tuple #[]) ∧ St B v0 w w' (xs ++ whoB u d) := by
  go_enter Try.func53, Try.ntmps53
  go_wp2_with fail
  obtain ⟨W, X, hW, hX, hb, hoW, hX1, hX2⟩ := new_block w (.cells #[.int .i64 u, .int .i64 d] 34)
  rw [← hW, ← hX]
  clear hW hX
  have hXn := isw_apart hw hX1
  have Sk : ∀ w', Only W w' (B :: v0.ownBlock.toList) → w'.cell? ⟨X, 0, none⟩ = some (.int .i64 u) ∧ w'.cell? ⟨X, 1, none⟩ = some (.int .i64 d) := fun w' ho => ⟨ho.cell_in hb hXn 0, ho.cell_in hb hXn 1⟩
  have st0 := (St.start (isw_new hw hoW)).drew
  have ho0 := st0.only
  have e1 : IntKind.u64.wrap (IntKind.u32.wrap u) = IntKind.u32.wrap u := u64_u32 u
  have e2 : IntKind.u64.wrap (IntKind.u32.wrap d) = IntKind.u32.wrap d := u64_u32 d
  clear hb
  go_region_held3 (fun w' => w'.cell? ⟨X, 0, none⟩ = some (.int .i64 u) ∧ w'.cell? ⟨X, 1, none⟩ = some (.int .i64 d)) (exact Sk _ (by assumption))
    (first
      | (go_at_call 32; (with_reducible refine (wnum4_st st0 (IntKind.u32.wrap u) (by omega) (u32_lo u) (u32_hi u)).mono fun e w1 hq => ?_); obtain ⟨rfl, st1⟩ := hq; have ho1 := st1.only; have hl1 : (xs ++ be (IntKind.u32.wrap u) 4).length ≤ 900004 := by simp [be_len] <;> omega)
      | (go_at_call 32; (with_reducible refine (wnum4_st st1 (IntKind.u32.wrap d) (by omega) (u32_lo d) (u32_hi d)).mono fun e w2 hq => ?_); obtain ⟨rfl, st2⟩ := hq; have ho2 := st2.only; have hl2 : (xs ++ be (IntKind.u32.wrap u) 4 ++ be (IntKind.u32.wrap d) 4).length ≤ 900008 := by simp [be_len] <;> omega))
  go_wp2_with fail
  go_end0
  refine ⟨rfl, ?_⟩
  rw [whoB, ← List.append_assoc]
  exact St.trans (SoN.refl _ _) (hoW.mono (by simp)) st2

set_option maxHeartbeats 1600000 in
theorem ident_any (B : Nat) (v0 : Value) (xs : List Int) (va : Value) (vs : Value) (ags : List Int) (sgs : List Int) (w : World) (hw : IsW 26 5 B v0 xs w) (hg : Rd w va ags) (fg : Off va (B :: v0.ownBlock.toList)) (hp : Rd w vs sgs) (fp : Off vs (B :: v0.ownBlock.toList)) (hl : xs.length ≤ 800000) (hl2 : ags.length + sgs.length ≤ 50000) :
    Calls Try.prog 54 #[.pointer (some ⟨B, 0, none⟩), .agg #[va, vs]] w fun e w' => e = .returned (.tuple #[]) ∧ St B v0 w w' (xs ++ identB ags sgs) := by
  obtain ⟨ag, cg, rfl⟩ := hg.slice
  obtain ⟨ap, cp, rfl⟩ := hp.slice
  go_enter Try.func54, Try.ntmps54
  go_wp2_with fail
  obtain ⟨W, X, hW, hX, hb, hoW, hX1, hX2⟩ := new_block w (.cells #[.slice ag ags.length cg, .slice ap sgs.length cp] 36)
  rw [← hW, ← hX]
  clear hW hX
  have hXn := isw_apart hw hX1
  have Sk : ∀ w', Only W w' (B :: v0.ownBlock.toList) → w'.cell? ⟨X, 0, none⟩ = some (.slice ag ags.length cg) ∧ w'.cell? ⟨X, 1, none⟩ = some (.slice ap sgs.length cp) := fun w' ho => ⟨ho.cell_in hb hXn 0, ho.cell_in hb hXn 1⟩
  have st0 := (St.start (isw_new hw hoW)).drew
  have ho0 := st0.only
  have ng := hg.new (hoW)
  have np := hp.new (hoW)
  clear hb hg hp
  go_region_held3 (fun w' => w'.cell? ⟨X, 0, none⟩ = some (.slice ag ags.length cg) ∧ w'.cell? ⟨X, 1, none⟩ = some (.slice ap sgs.length cp)) (exact Sk _ (by assumption))
    (first
      | (go_at_call 14; (with_reducible refine (wbytes_st st0 ng fg (by omega) (by omega)).mono fun e w1 hq => ?_); obtain ⟨rfl, st1⟩ := hq; have ho1 := st1.only; have hl1 : (xs ++ be ags.length 4 ++ ags).length ≤ 800000 + ags.length + 4 := by simp [be_len] <;> omega)
      | (go_at_call 14; (with_reducible refine (wbytes_st st1 np fp (by omega) (by omega)).mono fun e w2 hq => ?_); obtain ⟨rfl, st2⟩ := hq; have ho2 := st2.only; have hl2 : (xs ++ be ags.length 4 ++ ags ++ be sgs.length 4 ++ sgs).length ≤ 800000 + ags.length + sgs.length + 8 := by simp [be_len] <;> omega))
  go_wp2_with fail
  go_end0
  refine ⟨rfl, ?_⟩
  have st3 := St.trans (SoN.refl _ _) (hoW.mono (by simp)) st2
  simpa [identB] using st3

set_option maxHeartbeats 1600000 in
theorem hello_any (B : Nat) (v0 : Value) (xs : List Int) (va : Value) (vs : Value) (vk : Value) (ags : List Int) (sgs : List Int) (ks : List Int) (sg on : Int) (has : Bool) (w : World) (hw : IsW 26 5 B v0 xs w) (hg : Rd w va ags) (fg : Off va (B :: v0.ownBlock.toList)) (hp : Rd w vs sgs) (fp : Off vs (B :: v0.ownBlock.toList)) (hk : Rd w vk ks) (fk : Off vk (B :: v0.ownBlock.toList)) (hsg : U32 sg) (hon : U32 on) (hl : xs.length ≤ 700000) (hl2 : ags.length + sgs.length + ks.length ≤ 50000) :
    Calls Try.prog 50 #[.pointer (some ⟨B, 0, none⟩), .agg #[va, vs, vk, .int .u32 sg, .bool has, .int .u32 on]] w fun e w' => e = .returned (.tuple #[]) ∧ St B v0 w w' (xs ++ helloB ags sgs ks sg has on) := by
  obtain ⟨ag, cg, rfl⟩ := hg.slice
  obtain ⟨ap, cp, rfl⟩ := hp.slice
  obtain ⟨ak, ck, rfl⟩ := hk.slice
  obtain ⟨p0, p1⟩ := hsg
  obtain ⟨n0, n1⟩ := hon
  go_enter Try.func50, Try.ntmps50
  go_wp2_with fail
  obtain ⟨W, X, hW, hX, hb, hoW, hX1, hX2⟩ := new_block w (.cells #[.slice ag ags.length cg, .slice ap sgs.length cp, .slice ak ks.length ck, .int .u32 sg, .bool has, .int .u32 on] 39)
  rw [← hW, ← hX]
  clear hW hX
  have hXn := isw_apart hw hX1
  have Sk : ∀ w', Only W w' (B :: v0.ownBlock.toList) → w'.cell? ⟨X, 0, none⟩ = some (.slice ag ags.length cg) ∧ w'.cell? ⟨X, 1, none⟩ = some (.slice ap sgs.length cp) ∧ w'.cell? ⟨X, 2, none⟩ = some (.slice ak ks.length ck) ∧ w'.cell? ⟨X, 3, none⟩ = some (.int .u32 sg) ∧ w'.cell? ⟨X, 4, none⟩ = some (.bool has) ∧ w'.cell? ⟨X, 5, none⟩ = some (.int .u32 on) := fun w' ho => ⟨ho.cell_in hb hXn 0, ho.cell_in hb hXn 1, ho.cell_in hb hXn 2, ho.cell_in hb hXn 3, ho.cell_in hb hXn 4, ho.cell_in hb hXn 5⟩
  have st0 := St.start (isw_new hw hoW)
  have ho0 := st0.only
  have ng := hg.new (hoW)
  have np := hp.new (hoW)
  have nk := hk.new (hoW)
  have e1 : IntKind.u64.wrap sg = sg := u64_in sg p0 p1
  have e2 : IntKind.u64.wrap on = on := u64_in on n0 n1
  clear hb hg hp hk
  have hS := Sk W ho0
  go_wp2_with fail
  refine (st0.step fun v1 q1 q2 => ident_any B v1 xs (.slice ag ags.length cg) (.slice ap sgs.length cp) ags sgs W q1 ng (off_next ng fg q2) np (off_next np fp q2) (by omega) (by omega)).mono fun e w1 hq => ?_
  obtain ⟨rfl, st1⟩ := hq
  clear hS
  go_wp2_with fail
  have st1 := st1.drew
  have ho1 := st1.only
  have hl1 : (xs ++ identB ags sgs).length ≤ 700000 + ags.length + sgs.length + 8 := by simp [identB_len]; omega
  go_region_held3 (fun w' => w'.cell? ⟨X, 0, none⟩ = some (.slice ag ags.length cg) ∧ w'.cell? ⟨X, 1, none⟩ = some (.slice ap sgs.length cp) ∧ w'.cell? ⟨X, 2, none⟩ = some (.slice ak ks.length ck) ∧ w'.cell? ⟨X, 3, none⟩ = some (.int .u32 sg) ∧ w'.cell? ⟨X, 4, none⟩ = some (.bool has) ∧ w'.cell? ⟨X, 5, none⟩ = some (.int .u32 on)) (exact Sk _ (by assumption))
    (first
      | (go_at_call 14; (with_reducible refine (wbytes_st st1 nk fk (by omega) (by omega)).mono fun e w2 hq => ?_); obtain ⟨rfl, st2⟩ := hq; have ho2 := st2.only; have hl2 : (xs ++ identB ags sgs ++ be ks.length 4 ++ ks).length ≤ 700000 + ags.length + sgs.length + ks.length + 12 := by simp [be_len, identB_len] <;> omega)
      | (go_at_call 32; (with_reducible refine (wnum4_st st2 (sg) (by omega) p0 (by omega)).mono fun e w3 hq => ?_); obtain ⟨rfl, st3⟩ := hq; have ho3 := st3.only; have hl3 : (xs ++ identB ags sgs ++ be ks.length 4 ++ ks ++ be (sg) 4).length ≤ 700000 + ags.length + sgs.length + ks.length + 16 := by simp [be_len, identB_len] <;> omega)
      | (go_at_call 34; (with_reducible refine (wflag_st st3 has (by omega)).mono fun e w4 hq => ?_); obtain ⟨rfl, st4⟩ := hq; have ho4 := st4.only; have hl4 : (xs ++ identB ags sgs ++ be ks.length 4 ++ ks ++ be (sg) 4 ++ [if has then 1 else 0]).length ≤ 700000 + ags.length + sgs.length + ks.length + 17 := by simp [be_len, identB_len] <;> omega))
  have hS := Sk w4 ho4
  cases has
  · go_wp2_with fail
    go_end0
    refine ⟨rfl, ?_⟩
    have st5 := St.trans (SoN.refl _ _) (hoW.mono (by simp)) st4
    simpa [helloB] using st5
  · go_wp2_with fail
    refine (wnum4_st st4 on (by omega) n0 (by omega)).mono fun e w5 hq => ?_
    obtain ⟨rfl, st5⟩ := hq
    clear hS
    go_wp2_with fail
    go_end0
    refine ⟨rfl, ?_⟩
    have st6 := St.trans (SoN.refl _ _) (hoW.mono (by simp)) st5
    simpa [helloB] using st6

set_option maxRecDepth 100000 in
set_option maxHeartbeats 3200000 in
theorem front_any (B : Nat) (v0 : Value) (xs : List Int) (fu fd tu td sg on dp dn : Int) (hs hh : Bool) (vss : Value) (vha : Value) (vhs : Value) (vhk : Value) (vdk : Value) (vsl : Value) (ss : List Int) (has : List Int) (hss : List Int) (hks : List Int) (dks : List Int) (sls : List Int) (w : World) (hw : IsW 26 5 B v0 xs w) (hp : Rd w vss ss) (fp : Off vss (B :: v0.ownBlock.toList)) (hx : Rd w vha has) (fx : Off vha (B :: v0.ownBlock.toList)) (hy : Rd w vhs hss) (fy : Off vhs (B :: v0.ownBlock.toList)) (hk : Rd w vhk hks) (fk : Off vhk (B :: v0.ownBlock.toList)) (hj : Rd w vdk dks) (fj : Off vdk (B :: v0.ownBlock.toList)) (hz : Rd w vsl sls) (fz : Off vsl (B :: v0.ownBlock.toList)) (hsg : U32 sg) (hon : U32 on) (hl : xs.length ≤ 600000) (hl2 : ss.length + has.length + hss.length + hks.length + dks.length + sls.length ≤ 50000) :
    Calls Try.prog 58 #[.pointer (some ⟨B, 0, none⟩), .agg #[.int .i64 fu, .int .i64 fd, .int .i64 tu, .int .i64 td, vss, .bool hs, vha, vhs, vhk, .int .u32 sg, .bool hh, .int .u32 on, vdk, .int .u32 dp, .int .u32 dn, vsl]] w fun e w' => e = .returned (.tuple #[]) ∧ St B v0 w w' (xs ++ frontB fu fd tu td ss hs has hss hks sg hh on) := by
  obtain ⟨ap, cp, rfl⟩ := hp.slice
  obtain ⟨ax, cx, rfl⟩ := hx.slice
  obtain ⟨ay, cy, rfl⟩ := hy.slice
  obtain ⟨ak, ck, rfl⟩ := hk.slice
  obtain ⟨aj, cj, rfl⟩ := hj.slice
  obtain ⟨az, cz, rfl⟩ := hz.slice
  go_enter Try.func58, Try.ntmps58
  go_wp2_with fail
  obtain ⟨W, X, hW, hX, hb, hoW, hX1, hX2⟩ := new_block w (.cells #[.int .i64 fu, .int .i64 fd, .int .i64 tu, .int .i64 td, .slice ap ss.length cp, .bool hs, .slice ax has.length cx, .slice ay hss.length cy, .slice ak hks.length ck, .int .u32 sg, .bool hh, .int .u32 on, .slice aj dks.length cj, .int .u32 dp, .int .u32 dn, .slice az sls.length cz] 43)
  rw [← hW, ← hX]
  clear hW hX
  have hXn := isw_apart hw hX1
  have Sk : ∀ w', Only W w' (B :: v0.ownBlock.toList) → w'.cell? ⟨X, 0, none⟩ = some (.int .i64 fu) ∧ w'.cell? ⟨X, 1, none⟩ = some (.int .i64 fd) ∧ w'.cell? ⟨X, 2, none⟩ = some (.int .i64 tu) ∧ w'.cell? ⟨X, 3, none⟩ = some (.int .i64 td) ∧ w'.cell? ⟨X, 4, none⟩ = some (.slice ap ss.length cp) ∧ w'.cell? ⟨X, 5, none⟩ = some (.bool hs) ∧ w'.cell? ⟨X, 6, none⟩ = some (.slice ax has.length cx) ∧ w'.cell? ⟨X, 7, none⟩ = some (.slice ay hss.length cy) ∧ w'.cell? ⟨X, 8, none⟩ = some (.slice ak hks.length ck) ∧ w'.cell? ⟨X, 9, none⟩ = some (.int .u32 sg) ∧ w'.cell? ⟨X, 10, none⟩ = some (.bool hh) ∧ w'.cell? ⟨X, 11, none⟩ = some (.int .u32 on) ∧ w'.cell? ⟨X, 12, none⟩ = some (.slice aj dks.length cj) ∧ w'.cell? ⟨X, 13, none⟩ = some (.int .u32 dp) ∧ w'.cell? ⟨X, 14, none⟩ = some (.int .u32 dn) ∧ w'.cell? ⟨X, 15, none⟩ = some (.slice az sls.length cz) := fun w' ho => ⟨ho.cell_in hb hXn 0, ho.cell_in hb hXn 1, ho.cell_in hb hXn 2, ho.cell_in hb hXn 3, ho.cell_in hb hXn 4, ho.cell_in hb hXn 5, ho.cell_in hb hXn 6, ho.cell_in hb hXn 7, ho.cell_in hb hXn 8, ho.cell_in hb hXn 9, ho.cell_in hb hXn 10, ho.cell_in hb hXn 11, ho.cell_in hb hXn 12, ho.cell_in hb hXn 13, ho.cell_in hb hXn 14, ho.cell_in hb hXn 15⟩
  have st0 := St.start (isw_new hw hoW)
  have ho0 := st0.only
  have np := hp.new (hoW)
  have nx := hx.new (hoW)
  have ny := hy.new (hoW)
  have nk := hk.new (hoW)
  have nj := hj.new (hoW)
  have nz := hz.new (hoW)
  clear hb hp hx hy hk hj hz
  have hS := Sk W ho0
  go_wp2_with fail
  refine (st0.step fun v1 q1 q2 => who_any B v1 xs fu fd W q1 (by omega)).mono fun e w1 hq => ?_
  obtain ⟨rfl, st1⟩ := hq
  have ho1 := st1.only
  clear hS
  have hS := Sk w1 ho1
  go_wp2_with fail
  refine (st1.step fun v1 q1 q2 => who_any B v1 _ tu td w1 q1 (by simp [whoB_len]; omega)).mono fun e w2 hq => ?_
  obtain ⟨rfl, st2⟩ := hq
  clear hS
  go_wp2_with fail
  have st2 := st2.drew
  have ho2 := st2.only
  have hl2' : (xs ++ whoB fu fd ++ whoB tu td).length ≤ 600016 := by simp [whoB_len]; omega
  go_region_held3 (fun w' => w'.cell? ⟨X, 0, none⟩ = some (.int .i64 fu) ∧ w'.cell? ⟨X, 1, none⟩ = some (.int .i64 fd) ∧ w'.cell? ⟨X, 2, none⟩ = some (.int .i64 tu) ∧ w'.cell? ⟨X, 3, none⟩ = some (.int .i64 td) ∧ w'.cell? ⟨X, 4, none⟩ = some (.slice ap ss.length cp) ∧ w'.cell? ⟨X, 5, none⟩ = some (.bool hs) ∧ w'.cell? ⟨X, 6, none⟩ = some (.slice ax has.length cx) ∧ w'.cell? ⟨X, 7, none⟩ = some (.slice ay hss.length cy) ∧ w'.cell? ⟨X, 8, none⟩ = some (.slice ak hks.length ck) ∧ w'.cell? ⟨X, 9, none⟩ = some (.int .u32 sg) ∧ w'.cell? ⟨X, 10, none⟩ = some (.bool hh) ∧ w'.cell? ⟨X, 11, none⟩ = some (.int .u32 on) ∧ w'.cell? ⟨X, 12, none⟩ = some (.slice aj dks.length cj) ∧ w'.cell? ⟨X, 13, none⟩ = some (.int .u32 dp) ∧ w'.cell? ⟨X, 14, none⟩ = some (.int .u32 dn) ∧ w'.cell? ⟨X, 15, none⟩ = some (.slice az sls.length cz)) (exact Sk _ (by assumption))
    (first
      | (go_at_call 14; (with_reducible refine (wbytes_st st2 np fp (by omega) (by omega)).mono fun e w3 hq => ?_); obtain ⟨rfl, st3⟩ := hq; have ho3 := st3.only; have hl3 : (xs ++ whoB fu fd ++ whoB tu td ++ be ss.length 4 ++ ss).length ≤ 600000 + ss.length + 20 := by simp [be_len, whoB_len] <;> omega)
      | (go_at_call 34; (with_reducible refine (wflag_st st3 hs (by omega)).mono fun e w4 hq => ?_); obtain ⟨rfl, st4⟩ := hq; have ho4 := st4.only; have hl4 : (xs ++ whoB fu fd ++ whoB tu td ++ be ss.length 4 ++ ss ++ [if hs then 1 else 0]).length ≤ 600000 + ss.length + 21 := by simp [be_len, whoB_len] <;> omega))
  have hS := Sk w4 ho4
  cases hs
  · go_wp2_with fail
    go_end0
    refine ⟨rfl, ?_⟩
    have st5 := St.trans (SoN.refl _ _) (hoW.mono (by simp)) st4
    simpa [frontB] using st5
  · go_wp2_with fail
    refine (st4.step fun v1 q1 q2 => hello_any B v1 _ (.slice ax has.length cx) (.slice ay hss.length cy) (.slice ak hks.length ck) has hss hks sg on hh w4 q1 (Src.off nx ho4 fx) (off_next nx fx q2) (Src.off ny ho4 fy) (off_next ny fy q2) (Src.off nk ho4 fk) (off_next nk fk q2) hsg hon (by omega) (by omega)).mono fun e w5 hq => ?_
    obtain ⟨rfl, st5⟩ := hq
    clear hS
    go_wp2_with fail
    go_end0
    refine ⟨rfl, ?_⟩
    have st6 := St.trans (SoN.refl _ _) (hoW.mono (by simp)) st5
    simpa [frontB] using st6

/-- The Writer's bytes, done: a row of the call's own. -/
theorem fresh_done {B : Nat} {w W w1 w2 : World} {e : Ending} {xs ys : List Int} (h : Fresh ys w1 e w2) (hoW : Only w W []) (hB : w.heap.size ≤ B) (h1 : Only W w1 (B :: (Value.slice none 0 0).ownBlock.toList)) (he : ys = xs) : Fresh xs w e w2 := by
  subst he
  obtain ⟨v, rfl, g1, g2, g3⟩ := h
  have ho : Only w w1 [] := hoW.new h1 (by simp [Value.ownBlock]; omega)
  exact ⟨v, rfl, g1, g2.weaken ho.size, ho.trans g3⟩

set_option maxHeartbeats 1600000 in
theorem encinner_any (u n : Int) (vt : Value) (ts : List Int) (w : World) (ht : Rd w vt ts) (hn : U32 n) (hl : ts.length ≤ 400000) :
    Calls Try.prog 22 #[.agg #[.int .i64 u, .int .u32 n, vt]] w (Fresh (innerB u n ts) w) := by
  obtain ⟨az, ct, rfl⟩ := ht.slice
  obtain ⟨n0, n1⟩ := hn
  go_enter Try.func22, Try.ntmps22
  go_wp2_with fail
  obtain ⟨W1, X, hW, hX, hb0, hoW1, hX1, hX2⟩ := new_block w (.cells #[.int .i64 u, .int .u32 n, .slice az ts.length ct] 49)
  have hs1 : W1.heap.size = X + 1 := by rw [hW, hX]; simp
  rw [← hW, ← hX]
  clear hW hX
  obtain ⟨W, B, hW, hB, hbw, hoW2, hB1, hB2⟩ := new_block W1 (.cells #[.slice none 0 0] 26)
  rw [← hW, ← hs1, ← hB]
  clear hW hB hs1
  have hb := hoW2.at hb0 (by simp)
  have hoW := hoW1.trans hoW2
  have hBw : w.heap.size ≤ B := Nat.le_trans hoW1.size hB1
  have hXn : X ∉ B :: (Value.slice none 0 0).ownBlock.toList := by simp [Value.ownBlock]; omega
  have hw : IsW 26 5 B (.slice none 0 0) [] W := ⟨hbw, World.ownsRow_nil _ _ _ _⟩
  have Sk : ∀ w', Only W w' (B :: (Value.slice none 0 0).ownBlock.toList) → w'.cell? ⟨X, 0, none⟩ = some (.int .i64 u) ∧ w'.cell? ⟨X, 1, none⟩ = some (.int .u32 n) ∧ w'.cell? ⟨X, 2, none⟩ = some (.slice az ts.length ct) := fun w' ho => ⟨ho.cell_in hb hXn 0, ho.cell_in hb hXn 1, ho.cell_in hb hXn 2⟩
  have ft : Off (.slice az ts.length ct) (B :: (Value.slice none 0 0).ownBlock.toList) := Src.off_new ht (by decide) (by simp [Value.ownBlock]; omega)
  have nt := ht.new hoW
  have st0 := (St.start hw).drew
  have ho0 := st0.only
  have hl0 : ([] : List Int).length ≤ 0 := by simp
  have e1 : IntKind.u64.wrap (IntKind.u32.wrap u) = IntKind.u32.wrap u := u64_u32 u
  have e2 : IntKind.u64.wrap n = n := u64_in n n0 n1
  clear hb hb0 ht hbw
  go_region_held3 (fun w' => w'.cell? ⟨X, 0, none⟩ = some (.int .i64 u) ∧ w'.cell? ⟨X, 1, none⟩ = some (.int .u32 n) ∧ w'.cell? ⟨X, 2, none⟩ = some (.slice az ts.length ct)) (exact Sk _ (by assumption))
    (first
      | (go_at_call 32; (with_reducible refine (wnum4_st st0 (IntKind.u32.wrap u) (by omega) (u32_lo u) (u32_hi u)).mono fun e w1 hq => ?_); obtain ⟨rfl, st1⟩ := hq; have ho1 := st1.only; have hl1 : ([] ++ be (IntKind.u32.wrap u) 4).length ≤ 4 := by simp [be_len] <;> omega)
      | (go_at_call 32; (with_reducible refine (wnum4_st st1 (n) (by omega) n0 (by omega)).mono fun e w2 hq => ?_); obtain ⟨rfl, st2⟩ := hq; have ho2 := st2.only; have hl2 : ([] ++ be (IntKind.u32.wrap u) 4 ++ be (n) 4).length ≤ 8 := by simp [be_len] <;> omega)
      | (go_at_call 14; (with_reducible refine (wbytes_st st2 nt ft (by omega) (by omega)).mono fun e w3 hq => ?_); obtain ⟨rfl, st3⟩ := hq; have ho3 := st3.only; have hl3 : ([] ++ be (IntKind.u32.wrap u) 4 ++ be (n) 4 ++ be ts.length 4 ++ ts).length ≤ ts.length + 12 := by simp [be_len] <;> omega)
      | (go_at_call 15; (with_reducible refine (wdone_st st3 (by omega)).mono fun e w4 hq => ?_); have ho4 : Only W w4 (B :: (Value.slice none 0 0).ownBlock.toList) := ho3.trans (Only.mono hq.choose_spec.2.2.2 (by simp)); obtain ⟨ys, a4, c4, Hys, rfl, g1, g2, g3⟩ := hq.name))
  go_wp2_with fail
  go_ret
  exact fresh_done ⟨_, rfl, g1, g2, g3⟩ hoW hBw ho3 (by rw [Hys.out]; simp [innerB])

set_option maxHeartbeats 1600000 in
theorem enchello_any (va : Value) (vs : Value) (vk : Value) (ags : List Int) (sgs : List Int) (ks : List Int) (sg on : Int) (has : Bool) (w : World) (hg : Rd w va ags) (hp : Rd w vs sgs) (hk : Rd w vk ks) (hsg : U32 sg) (hon : U32 on) (hl2 : ags.length + sgs.length + ks.length ≤ 50000) :
    Calls Try.prog 36 #[.agg #[va, vs, vk, .int .u32 sg, .bool has, .int .u32 on]] w (Fresh (helloB ags sgs ks sg has on) w) := by
  obtain ⟨ag, cg, rfl⟩ := hg.slice
  obtain ⟨ap, cp, rfl⟩ := hp.slice
  obtain ⟨ak, ck, rfl⟩ := hk.slice
  go_enter Try.func36, Try.ntmps36
  go_wp2_with fail
  obtain ⟨W1, X, hW, hX, hb0, hoW1, hX1, hX2⟩ := new_block w (.cells #[.slice ag ags.length cg, .slice ap sgs.length cp, .slice ak ks.length ck, .int .u32 sg, .bool has, .int .u32 on] 39)
  have hs1 : W1.heap.size = X + 1 := by rw [hW, hX]; simp
  rw [← hW, ← hX]
  clear hW hX
  obtain ⟨W, B, hW, hB, hbw, hoW2, hB1, hB2⟩ := new_block W1 (.cells #[.slice none 0 0] 26)
  rw [← hW, ← hs1, ← hB]
  clear hW hB hs1
  have hb := hoW2.at hb0 (by simp)
  have hoW := hoW1.trans hoW2
  have hBw : w.heap.size ≤ B := Nat.le_trans hoW1.size hB1
  have hXn : X ∉ B :: (Value.slice none 0 0).ownBlock.toList := by simp [Value.ownBlock]; omega
  have hw : IsW 26 5 B (.slice none 0 0) [] W := ⟨hbw, World.ownsRow_nil _ _ _ _⟩
  have Sk : ∀ w', Only W w' (B :: (Value.slice none 0 0).ownBlock.toList) → w'.cell? ⟨X, 0, none⟩ = some (.slice ag ags.length cg) ∧ w'.cell? ⟨X, 1, none⟩ = some (.slice ap sgs.length cp) ∧ w'.cell? ⟨X, 2, none⟩ = some (.slice ak ks.length ck) ∧ w'.cell? ⟨X, 3, none⟩ = some (.int .u32 sg) ∧ w'.cell? ⟨X, 4, none⟩ = some (.bool has) ∧ w'.cell? ⟨X, 5, none⟩ = some (.int .u32 on) := fun w' ho => ⟨ho.cell_in hb hXn 0, ho.cell_in hb hXn 1, ho.cell_in hb hXn 2, ho.cell_in hb hXn 3, ho.cell_in hb hXn 4, ho.cell_in hb hXn 5⟩
  have fg : Off (.slice ag ags.length cg) (B :: (Value.slice none 0 0).ownBlock.toList) := Src.off_new hg (by decide) (by simp [Value.ownBlock]; omega)
  have ng := hg.new hoW
  have fp : Off (.slice ap sgs.length cp) (B :: (Value.slice none 0 0).ownBlock.toList) := Src.off_new hp (by decide) (by simp [Value.ownBlock]; omega)
  have np := hp.new hoW
  have fk : Off (.slice ak ks.length ck) (B :: (Value.slice none 0 0).ownBlock.toList) := Src.off_new hk (by decide) (by simp [Value.ownBlock]; omega)
  have nk := hk.new hoW
  have st0 := St.start hw
  have hS := Sk W st0.only
  go_wp2_with fail
  refine (st0.step fun v1 q1 q2 => hello_any B v1 [] (.slice ag ags.length cg) (.slice ap sgs.length cp) (.slice ak ks.length ck) ags sgs ks sg on has W q1 ng (off_next ng fg q2) np (off_next np fp q2) nk (off_next nk fk q2) hsg hon (by simp) (by omega)).mono fun e w1 hq => ?_
  obtain ⟨rfl, st1⟩ := hq
  clear hS
  go_wp2_with fail
  have hle := helloB_len ags sgs ks sg has on
  refine (wdone_st st1 (by simp; omega)).mono fun e w2 hq => ?_
  have hf := hq.name
  obtain ⟨ys, a4, c4, Hys, rfl, g1, g2, g3⟩ := hf
  clear hq
  go_wp2_with fail
  go_ret
  exact fresh_done ⟨_, rfl, g1, g2, g3⟩ hoW hBw st1.only (by rw [Hys.out]; rfl)

set_option maxRecDepth 100000 in
set_option maxHeartbeats 3200000 in
theorem encfront_any (fu fd tu td sg on dp dn : Int) (hs hh : Bool) (vss : Value) (vha : Value) (vhs : Value) (vhk : Value) (vdk : Value) (vsl : Value) (ss : List Int) (has : List Int) (hss : List Int) (hks : List Int) (dks : List Int) (sls : List Int) (w : World) (hp : Rd w vss ss) (hx : Rd w vha has) (hy : Rd w vhs hss) (hk : Rd w vhk hks) (hj : Rd w vdk dks) (hz : Rd w vsl sls) (hsg : U32 sg) (hon : U32 on) (hdp : U32 dp) (hdn : U32 dn) (hl2 : ss.length + has.length + hss.length + hks.length + dks.length + sls.length ≤ 50000) :
    Calls Try.prog 45 #[.agg #[.int .i64 fu, .int .i64 fd, .int .i64 tu, .int .i64 td, vss, .bool hs, vha, vhs, vhk, .int .u32 sg, .bool hh, .int .u32 on, vdk, .int .u32 dp, .int .u32 dn, vsl]] w (Fresh (frontB fu fd tu td ss hs has hss hks sg hh on) w) := by
  obtain ⟨ap, cp, rfl⟩ := hp.slice
  obtain ⟨ax, cx, rfl⟩ := hx.slice
  obtain ⟨ay, cy, rfl⟩ := hy.slice
  obtain ⟨ak, ck, rfl⟩ := hk.slice
  obtain ⟨aj, cj, rfl⟩ := hj.slice
  obtain ⟨az, cz, rfl⟩ := hz.slice
  go_enter Try.func45, Try.ntmps45
  go_wp2_with fail
  obtain ⟨W1, X, hW, hX, hb0, hoW1, hX1, hX2⟩ := new_block w (.cells #[.int .i64 fu, .int .i64 fd, .int .i64 tu, .int .i64 td, .slice ap ss.length cp, .bool hs, .slice ax has.length cx, .slice ay hss.length cy, .slice ak hks.length ck, .int .u32 sg, .bool hh, .int .u32 on, .slice aj dks.length cj, .int .u32 dp, .int .u32 dn, .slice az sls.length cz] 43)
  have hs1 : W1.heap.size = X + 1 := by rw [hW, hX]; simp
  rw [← hW, ← hX]
  clear hW hX
  obtain ⟨W, B, hW, hB, hbw, hoW2, hB1, hB2⟩ := new_block W1 (.cells #[.slice none 0 0] 26)
  rw [← hW, ← hs1, ← hB]
  clear hW hB hs1
  have hb := hoW2.at hb0 (by simp)
  have hoW := hoW1.trans hoW2
  have hBw : w.heap.size ≤ B := Nat.le_trans hoW1.size hB1
  have hXn : X ∉ B :: (Value.slice none 0 0).ownBlock.toList := by simp [Value.ownBlock]; omega
  have hw : IsW 26 5 B (.slice none 0 0) [] W := ⟨hbw, World.ownsRow_nil _ _ _ _⟩
  have Sk : ∀ w', Only W w' (B :: (Value.slice none 0 0).ownBlock.toList) → w'.cell? ⟨X, 0, none⟩ = some (.int .i64 fu) ∧ w'.cell? ⟨X, 1, none⟩ = some (.int .i64 fd) ∧ w'.cell? ⟨X, 2, none⟩ = some (.int .i64 tu) ∧ w'.cell? ⟨X, 3, none⟩ = some (.int .i64 td) ∧ w'.cell? ⟨X, 4, none⟩ = some (.slice ap ss.length cp) ∧ w'.cell? ⟨X, 5, none⟩ = some (.bool hs) ∧ w'.cell? ⟨X, 6, none⟩ = some (.slice ax has.length cx) ∧ w'.cell? ⟨X, 7, none⟩ = some (.slice ay hss.length cy) ∧ w'.cell? ⟨X, 8, none⟩ = some (.slice ak hks.length ck) ∧ w'.cell? ⟨X, 9, none⟩ = some (.int .u32 sg) ∧ w'.cell? ⟨X, 10, none⟩ = some (.bool hh) ∧ w'.cell? ⟨X, 11, none⟩ = some (.int .u32 on) ∧ w'.cell? ⟨X, 12, none⟩ = some (.slice aj dks.length cj) ∧ w'.cell? ⟨X, 13, none⟩ = some (.int .u32 dp) ∧ w'.cell? ⟨X, 14, none⟩ = some (.int .u32 dn) ∧ w'.cell? ⟨X, 15, none⟩ = some (.slice az sls.length cz) := fun w' ho => ⟨ho.cell_in hb hXn 0, ho.cell_in hb hXn 1, ho.cell_in hb hXn 2, ho.cell_in hb hXn 3, ho.cell_in hb hXn 4, ho.cell_in hb hXn 5, ho.cell_in hb hXn 6, ho.cell_in hb hXn 7, ho.cell_in hb hXn 8, ho.cell_in hb hXn 9, ho.cell_in hb hXn 10, ho.cell_in hb hXn 11, ho.cell_in hb hXn 12, ho.cell_in hb hXn 13, ho.cell_in hb hXn 14, ho.cell_in hb hXn 15⟩
  have fp : Off (.slice ap ss.length cp) (B :: (Value.slice none 0 0).ownBlock.toList) := Src.off_new hp (by decide) (by simp [Value.ownBlock]; omega)
  have np := hp.new hoW
  have fx : Off (.slice ax has.length cx) (B :: (Value.slice none 0 0).ownBlock.toList) := Src.off_new hx (by decide) (by simp [Value.ownBlock]; omega)
  have nx := hx.new hoW
  have fy : Off (.slice ay hss.length cy) (B :: (Value.slice none 0 0).ownBlock.toList) := Src.off_new hy (by decide) (by simp [Value.ownBlock]; omega)
  have ny := hy.new hoW
  have fk : Off (.slice ak hks.length ck) (B :: (Value.slice none 0 0).ownBlock.toList) := Src.off_new hk (by decide) (by simp [Value.ownBlock]; omega)
  have nk := hk.new hoW
  have fj : Off (.slice aj dks.length cj) (B :: (Value.slice none 0 0).ownBlock.toList) := Src.off_new hj (by decide) (by simp [Value.ownBlock]; omega)
  have nj := hj.new hoW
  have fz : Off (.slice az sls.length cz) (B :: (Value.slice none 0 0).ownBlock.toList) := Src.off_new hz (by decide) (by simp [Value.ownBlock]; omega)
  have nz := hz.new hoW
  have st0 := St.start hw
  have hS := Sk W st0.only
  go_wp2_with fail
  refine (st0.step fun v1 q1 q2 => front_any B v1 [] fu fd tu td sg on dp dn hs hh (.slice ap ss.length cp) (.slice ax has.length cx) (.slice ay hss.length cy) (.slice ak hks.length ck) (.slice aj dks.length cj) (.slice az sls.length cz) ss has hss hks dks sls W q1 np (off_next np fp q2) nx (off_next nx fx q2) ny (off_next ny fy q2) nk (off_next nk fk q2) nj (off_next nj fj q2) nz (off_next nz fz q2) hsg hon (by simp) (by omega)).mono fun e w1 hq => ?_
  obtain ⟨rfl, st1⟩ := hq
  clear hS
  go_wp2_with fail
  have hle := frontB_len fu fd tu td ss hs has hss hks sg hh on
  refine (wdone_st st1 (by simp; omega)).mono fun e w2 hq => ?_
  have hf := hq.name
  obtain ⟨ys, a4, c4, Hys, rfl, g1, g2, g3⟩ := hf
  clear hq
  go_wp2_with fail
  go_ret
  exact fresh_done ⟨_, rfl, g1, g2, g3⟩ hoW hBw st1.only (by rw [Hys.out]; rfl)

set_option maxRecDepth 100000 in
set_option maxHeartbeats 3200000 in
theorem encode_any (fu fd tu td sg on dp dn : Int) (hs hh : Bool) (vss : Value) (vha : Value) (vhs : Value) (vhk : Value) (vdk : Value) (vsl : Value) (ss : List Int) (has : List Int) (hss : List Int) (hks : List Int) (dks : List Int) (sls : List Int) (w : World) (hp : Rd w vss ss) (hx : Rd w vha has) (hy : Rd w vhs hss) (hk : Rd w vhk hks) (hj : Rd w vdk dks) (hz : Rd w vsl sls) (hsg : U32 sg) (hon : U32 on) (hdp : U32 dp) (hdn : U32 dn) (hl2 : ss.length + has.length + hss.length + hks.length + dks.length + sls.length ≤ 50000) :
    Calls Try.prog 43 #[.agg #[.int .i64 fu, .int .i64 fd, .int .i64 tu, .int .i64 td, vss, .bool hs, vha, vhs, vhk, .int .u32 sg, .bool hh, .int .u32 on, vdk, .int .u32 dp, .int .u32 dn, vsl]] w (Fresh (envB fu fd tu td ss hs has hss hks sg hh on dks dp dn sls) w) := by
  obtain ⟨ap, cp, rfl⟩ := hp.slice
  obtain ⟨ax, cx, rfl⟩ := hx.slice
  obtain ⟨ay, cy, rfl⟩ := hy.slice
  obtain ⟨ak, ck, rfl⟩ := hk.slice
  obtain ⟨aj, cj, rfl⟩ := hj.slice
  obtain ⟨az, cz, rfl⟩ := hz.slice
  go_enter Try.func43, Try.ntmps43
  go_wp2_with fail
  obtain ⟨W1, X, hW, hX, hb0, hoW1, hX1, hX2⟩ := new_block w (.cells #[.int .i64 fu, .int .i64 fd, .int .i64 tu, .int .i64 td, .slice ap ss.length cp, .bool hs, .slice ax has.length cx, .slice ay hss.length cy, .slice ak hks.length ck, .int .u32 sg, .bool hh, .int .u32 on, .slice aj dks.length cj, .int .u32 dp, .int .u32 dn, .slice az sls.length cz] 43)
  have hs1 : W1.heap.size = X + 1 := by rw [hW, hX]; simp
  rw [← hW, ← hX]
  clear hW hX
  obtain ⟨W, B, hW, hB, hbw, hoW2, hB1, hB2⟩ := new_block W1 (.cells #[.slice none 0 0] 26)
  rw [← hW, ← hs1, ← hB]
  clear hW hB hs1
  have hb := hoW2.at hb0 (by simp)
  have hoW := hoW1.trans hoW2
  have hBw : w.heap.size ≤ B := Nat.le_trans hoW1.size hB1
  have hXn : X ∉ B :: (Value.slice none 0 0).ownBlock.toList := by simp [Value.ownBlock]; omega
  have hw : IsW 26 5 B (.slice none 0 0) [] W := ⟨hbw, World.ownsRow_nil _ _ _ _⟩
  have Sk : ∀ w', Only W w' (B :: (Value.slice none 0 0).ownBlock.toList) → w'.cell? ⟨X, 0, none⟩ = some (.int .i64 fu) ∧ w'.cell? ⟨X, 1, none⟩ = some (.int .i64 fd) ∧ w'.cell? ⟨X, 2, none⟩ = some (.int .i64 tu) ∧ w'.cell? ⟨X, 3, none⟩ = some (.int .i64 td) ∧ w'.cell? ⟨X, 4, none⟩ = some (.slice ap ss.length cp) ∧ w'.cell? ⟨X, 5, none⟩ = some (.bool hs) ∧ w'.cell? ⟨X, 6, none⟩ = some (.slice ax has.length cx) ∧ w'.cell? ⟨X, 7, none⟩ = some (.slice ay hss.length cy) ∧ w'.cell? ⟨X, 8, none⟩ = some (.slice ak hks.length ck) ∧ w'.cell? ⟨X, 9, none⟩ = some (.int .u32 sg) ∧ w'.cell? ⟨X, 10, none⟩ = some (.bool hh) ∧ w'.cell? ⟨X, 11, none⟩ = some (.int .u32 on) ∧ w'.cell? ⟨X, 12, none⟩ = some (.slice aj dks.length cj) ∧ w'.cell? ⟨X, 13, none⟩ = some (.int .u32 dp) ∧ w'.cell? ⟨X, 14, none⟩ = some (.int .u32 dn) ∧ w'.cell? ⟨X, 15, none⟩ = some (.slice az sls.length cz) := fun w' ho => ⟨ho.cell_in hb hXn 0, ho.cell_in hb hXn 1, ho.cell_in hb hXn 2, ho.cell_in hb hXn 3, ho.cell_in hb hXn 4, ho.cell_in hb hXn 5, ho.cell_in hb hXn 6, ho.cell_in hb hXn 7, ho.cell_in hb hXn 8, ho.cell_in hb hXn 9, ho.cell_in hb hXn 10, ho.cell_in hb hXn 11, ho.cell_in hb hXn 12, ho.cell_in hb hXn 13, ho.cell_in hb hXn 14, ho.cell_in hb hXn 15⟩
  have fp : Off (.slice ap ss.length cp) (B :: (Value.slice none 0 0).ownBlock.toList) := Src.off_new hp (by decide) (by simp [Value.ownBlock]; omega)
  have np := hp.new hoW
  have fx : Off (.slice ax has.length cx) (B :: (Value.slice none 0 0).ownBlock.toList) := Src.off_new hx (by decide) (by simp [Value.ownBlock]; omega)
  have nx := hx.new hoW
  have fy : Off (.slice ay hss.length cy) (B :: (Value.slice none 0 0).ownBlock.toList) := Src.off_new hy (by decide) (by simp [Value.ownBlock]; omega)
  have ny := hy.new hoW
  have fk : Off (.slice ak hks.length ck) (B :: (Value.slice none 0 0).ownBlock.toList) := Src.off_new hk (by decide) (by simp [Value.ownBlock]; omega)
  have nk := hk.new hoW
  have fj : Off (.slice aj dks.length cj) (B :: (Value.slice none 0 0).ownBlock.toList) := Src.off_new hj (by decide) (by simp [Value.ownBlock]; omega)
  have nj := hj.new hoW
  have fz : Off (.slice az sls.length cz) (B :: (Value.slice none 0 0).ownBlock.toList) := Src.off_new hz (by decide) (by simp [Value.ownBlock]; omega)
  have nz := hz.new hoW
  have st0 := St.start hw
  have hS := Sk W st0.only
  go_wp2_with fail
  refine (st0.step fun v1 q1 q2 => front_any B v1 [] fu fd tu td sg on dp dn hs hh (.slice ap ss.length cp) (.slice ax has.length cx) (.slice ay hss.length cy) (.slice ak hks.length ck) (.slice aj dks.length cj) (.slice az sls.length cz) ss has hss hks dks sls W q1 np (off_next np fp q2) nx (off_next nx fx q2) ny (off_next ny fy q2) nk (off_next nk fk q2) nj (off_next nj fj q2) nz (off_next nz fz q2) hsg hon (by simp) (by omega)).mono fun e w1 hq => ?_
  obtain ⟨rfl, st1⟩ := hq
  clear hS
  go_wp2_with fail
  have hle := frontB_len fu fd tu td ss hs has hss hks sg hh on
  have st1 := st1.drew
  have ho1 := st1.only
  obtain ⟨p0, p1⟩ := hdp
  obtain ⟨n0, n1⟩ := hdn
  have e1 : IntKind.u64.wrap dp = dp := u64_in dp p0 p1
  have e2 : IntKind.u64.wrap dn = dn := u64_in dn n0 n1
  generalize hFF : frontB fu fd tu td ss hs has hss hks sg hh on = FF at *
  have HFF := Lib.hid hFF
  clear hFF
  have hl1 : ([] ++ FF).length ≤ ss.length + has.length + hss.length + hks.length + 42 := by simpa using hle
  go_region_held3 (fun w' => w'.cell? ⟨X, 0, none⟩ = some (.int .i64 fu) ∧ w'.cell? ⟨X, 1, none⟩ = some (.int .i64 fd) ∧ w'.cell? ⟨X, 2, none⟩ = some (.int .i64 tu) ∧ w'.cell? ⟨X, 3, none⟩ = some (.int .i64 td) ∧ w'.cell? ⟨X, 4, none⟩ = some (.slice ap ss.length cp) ∧ w'.cell? ⟨X, 5, none⟩ = some (.bool hs) ∧ w'.cell? ⟨X, 6, none⟩ = some (.slice ax has.length cx) ∧ w'.cell? ⟨X, 7, none⟩ = some (.slice ay hss.length cy) ∧ w'.cell? ⟨X, 8, none⟩ = some (.slice ak hks.length ck) ∧ w'.cell? ⟨X, 9, none⟩ = some (.int .u32 sg) ∧ w'.cell? ⟨X, 10, none⟩ = some (.bool hh) ∧ w'.cell? ⟨X, 11, none⟩ = some (.int .u32 on) ∧ w'.cell? ⟨X, 12, none⟩ = some (.slice aj dks.length cj) ∧ w'.cell? ⟨X, 13, none⟩ = some (.int .u32 dp) ∧ w'.cell? ⟨X, 14, none⟩ = some (.int .u32 dn) ∧ w'.cell? ⟨X, 15, none⟩ = some (.slice az sls.length cz)) (exact Sk _ (by assumption))
    (first
      | (go_at_call 14; (with_reducible refine (wbytes_st st1 nj fj (by omega) (by omega)).mono fun e w2 hq => ?_); obtain ⟨rfl, st2⟩ := hq; have ho2 := st2.only; have hl2 : ([] ++ FF ++ be dks.length 4 ++ dks).length ≤ ss.length + has.length + hss.length + hks.length + dks.length + sls.length + 46 := by simp [be_len] <;> omega)
      | (go_at_call 32; (with_reducible refine (wnum4_st st2 (dp) (by omega) p0 (by omega)).mono fun e w3 hq => ?_); obtain ⟨rfl, st3⟩ := hq; have ho3 := st3.only; have hl3 : ([] ++ FF ++ be dks.length 4 ++ dks ++ be (dp) 4).length ≤ ss.length + has.length + hss.length + hks.length + dks.length + sls.length + 50 := by simp [be_len] <;> omega)
      | (go_at_call 32; (with_reducible refine (wnum4_st st3 (dn) (by omega) n0 (by omega)).mono fun e w4 hq => ?_); obtain ⟨rfl, st4⟩ := hq; have ho4 := st4.only; have hl4 : ([] ++ FF ++ be dks.length 4 ++ dks ++ be (dp) 4 ++ be (dn) 4).length ≤ ss.length + has.length + hss.length + hks.length + dks.length + sls.length + 54 := by simp [be_len] <;> omega)
      | (go_at_call 14; (with_reducible refine (wbytes_st st4 nz fz (by omega) (by omega)).mono fun e w5 hq => ?_); obtain ⟨rfl, st5⟩ := hq; have ho5 := st5.only; have hl5 : ([] ++ FF ++ be dks.length 4 ++ dks ++ be (dp) 4 ++ be (dn) 4 ++ be sls.length 4 ++ sls).length ≤ ss.length + has.length + hss.length + hks.length + dks.length + sls.length + 58 := by simp [be_len] <;> omega)
      | (go_at_call 15; (with_reducible refine (wdone_st st5 (by omega)).mono fun e w6 hq => ?_); have ho6 : Only W w6 (B :: (Value.slice none 0 0).ownBlock.toList) := ho5.trans (Only.mono hq.choose_spec.2.2.2 (by simp)); obtain ⟨ys, a4, c4, Hys, rfl, g1, g2, g3⟩ := hq.name))
  go_wp2_with fail
  go_ret
  exact fresh_done ⟨_, rfl, g1, g2, g3⟩ hoW hBw ho5 (by rw [Hys.out, envB, HFF.out]; simp [headB])

set_option maxRecDepth 100000 in
set_option maxHeartbeats 3200000 in
theorem encbundle_any (u d sg on : Int) (hs : Bool) (vag : Value) (vsg : Value) (vk : Value) (vq : Value) (vo : Value) (ags : List Int) (sgs : List Int) (ks : List Int) (qs : List Int) (os : List Int) (w : World) (hg : Rd w vag ags) (hp : Rd w vsg sgs) (hk : Rd w vk ks) (hq : Rd w vq qs) (ho : Rd w vo os) (hsg : U32 sg) (hon : U32 on) (hl : ags.length + sgs.length + ks.length + qs.length + os.length ≤ 50000) :
    Calls Try.prog 39 #[.agg #[.int .i64 u, .int .i64 d, vag, vsg, .int .u32 sg, vk, vq, .bool hs, .int .u32 on, vo]] w (Fresh (bundleB u d ags sgs sg ks qs hs on os) w) := by
  obtain ⟨ag, cg, rfl⟩ := hg.slice
  obtain ⟨ap, cp, rfl⟩ := hp.slice
  obtain ⟨ak, ck, rfl⟩ := hk.slice
  obtain ⟨aq, cq, rfl⟩ := hq.slice
  obtain ⟨ao, co, rfl⟩ := ho.slice
  obtain ⟨p0, p1⟩ := hsg
  obtain ⟨n0, n1⟩ := hon
  go_enter Try.func39, Try.ntmps39
  go_wp2_with fail
  obtain ⟨W1, X, hW, hX, hb0, hoW1, hX1, hX2⟩ := new_block w (.cells #[.int .i64 u, .int .i64 d, .slice ag ags.length cg, .slice ap sgs.length cp, .int .u32 sg, .slice ak ks.length ck, .slice aq qs.length cq, .bool hs, .int .u32 on, .slice ao os.length co] 76)
  have hs1 : W1.heap.size = X + 1 := by rw [hW, hX]; simp
  rw [← hW, ← hX]
  clear hW hX
  obtain ⟨W, B, hW, hB, hbw, hoW2, hB1, hB2⟩ := new_block W1 (.cells #[.slice none 0 0] 26)
  rw [← hW, ← hs1, ← hB]
  clear hW hB hs1
  have hb := hoW2.at hb0 (by simp)
  have hoW := hoW1.trans hoW2
  have hBw : w.heap.size ≤ B := Nat.le_trans hoW1.size hB1
  have hXn : X ∉ B :: (Value.slice none 0 0).ownBlock.toList := by simp [Value.ownBlock]; omega
  have hw : IsW 26 5 B (.slice none 0 0) [] W := ⟨hbw, World.ownsRow_nil _ _ _ _⟩
  have Sk : ∀ w', Only W w' (B :: (Value.slice none 0 0).ownBlock.toList) → w'.cell? ⟨X, 0, none⟩ = some (.int .i64 u) ∧ w'.cell? ⟨X, 1, none⟩ = some (.int .i64 d) ∧ w'.cell? ⟨X, 2, none⟩ = some (.slice ag ags.length cg) ∧ w'.cell? ⟨X, 3, none⟩ = some (.slice ap sgs.length cp) ∧ w'.cell? ⟨X, 4, none⟩ = some (.int .u32 sg) ∧ w'.cell? ⟨X, 5, none⟩ = some (.slice ak ks.length ck) ∧ w'.cell? ⟨X, 6, none⟩ = some (.slice aq qs.length cq) ∧ w'.cell? ⟨X, 7, none⟩ = some (.bool hs) ∧ w'.cell? ⟨X, 8, none⟩ = some (.int .u32 on) ∧ w'.cell? ⟨X, 9, none⟩ = some (.slice ao os.length co) := fun w' ho => ⟨ho.cell_in hb hXn 0, ho.cell_in hb hXn 1, ho.cell_in hb hXn 2, ho.cell_in hb hXn 3, ho.cell_in hb hXn 4, ho.cell_in hb hXn 5, ho.cell_in hb hXn 6, ho.cell_in hb hXn 7, ho.cell_in hb hXn 8, ho.cell_in hb hXn 9⟩
  have fg : Off (.slice ag ags.length cg) (B :: (Value.slice none 0 0).ownBlock.toList) := Src.off_new hg (by decide) (by simp [Value.ownBlock]; omega)
  have ng := hg.new hoW
  have fp : Off (.slice ap sgs.length cp) (B :: (Value.slice none 0 0).ownBlock.toList) := Src.off_new hp (by decide) (by simp [Value.ownBlock]; omega)
  have np := hp.new hoW
  have fk : Off (.slice ak ks.length ck) (B :: (Value.slice none 0 0).ownBlock.toList) := Src.off_new hk (by decide) (by simp [Value.ownBlock]; omega)
  have nk := hk.new hoW
  have fq : Off (.slice aq qs.length cq) (B :: (Value.slice none 0 0).ownBlock.toList) := Src.off_new hq (by decide) (by simp [Value.ownBlock]; omega)
  have nq := hq.new hoW
  have fo : Off (.slice ao os.length co) (B :: (Value.slice none 0 0).ownBlock.toList) := Src.off_new ho (by decide) (by simp [Value.ownBlock]; omega)
  have no := ho.new hoW
  have st0 := St.start hw
  have hS := Sk W st0.only
  have e1 : IntKind.u64.wrap sg = sg := u64_in sg p0 p1
  have e2 : IntKind.u64.wrap on = on := u64_in on n0 n1
  go_wp2_with fail
  refine (st0.step fun v1 q1 q2 => who_any B v1 [] u d W q1 (by simp)).mono fun e w1 hq => ?_
  obtain ⟨rfl, st1⟩ := hq
  have ho1 := st1.only
  clear hS
  have hS := Sk w1 ho1
  go_wp2_with fail
  refine (st1.step fun v1 q1 q2 => ident_any B v1 _ (.slice ag ags.length cg) (.slice ap sgs.length cp) ags sgs w1 q1 (Src.off ng ho1 fg) (off_next ng fg q2) (Src.off np ho1 fp) (off_next np fp q2) (by simp [whoB_len]) (by omega)).mono fun e w2 hq => ?_
  obtain ⟨rfl, st2⟩ := hq
  clear hS
  go_wp2_with fail
  have st2 := st2.drew
  have ho2 := st2.only
  generalize hGG : [] ++ whoB u d ++ identB ags sgs = GG at *
  have hl2 : GG.length ≤ ags.length + sgs.length + ks.length + qs.length + os.length + 16 := by rw [← hGG]; simp [whoB_len, identB_len]; omega
  have HGG := Lib.hid hGG
  clear hGG
  go_region_held3 (fun w' => w'.cell? ⟨X, 0, none⟩ = some (.int .i64 u) ∧ w'.cell? ⟨X, 1, none⟩ = some (.int .i64 d) ∧ w'.cell? ⟨X, 2, none⟩ = some (.slice ag ags.length cg) ∧ w'.cell? ⟨X, 3, none⟩ = some (.slice ap sgs.length cp) ∧ w'.cell? ⟨X, 4, none⟩ = some (.int .u32 sg) ∧ w'.cell? ⟨X, 5, none⟩ = some (.slice ak ks.length ck) ∧ w'.cell? ⟨X, 6, none⟩ = some (.slice aq qs.length cq) ∧ w'.cell? ⟨X, 7, none⟩ = some (.bool hs) ∧ w'.cell? ⟨X, 8, none⟩ = some (.int .u32 on) ∧ w'.cell? ⟨X, 9, none⟩ = some (.slice ao os.length co)) (exact Sk _ (by assumption))
    (first
      | (go_at_call 32; (with_reducible refine (wnum4_st st2 (sg) (by omega) p0 (by omega)).mono fun e w3 hq => ?_); obtain ⟨rfl, st3⟩ := hq; have ho3 := st3.only; have hl3 : (GG ++ be (sg) 4).length ≤ ags.length + sgs.length + ks.length + qs.length + os.length + 20 := by simp [be_len] <;> omega)
      | (go_at_call 14; (with_reducible refine (wbytes_st st3 nk fk (by omega) (by omega)).mono fun e w4 hq => ?_); obtain ⟨rfl, st4⟩ := hq; have ho4 := st4.only; have hl4 : (GG ++ be (sg) 4 ++ be ks.length 4 ++ ks).length ≤ ags.length + sgs.length + ks.length + qs.length + os.length + ks.length + 24 := by simp [be_len] <;> omega)
      | (go_at_call 14; (with_reducible refine (wbytes_st st4 nq fq (by omega) (by omega)).mono fun e w5 hq => ?_); obtain ⟨rfl, st5⟩ := hq; have ho5 := st5.only; have hl5 : (GG ++ be (sg) 4 ++ be ks.length 4 ++ ks ++ be qs.length 4 ++ qs).length ≤ ags.length + sgs.length + ks.length + qs.length + os.length + ks.length + qs.length + 28 := by simp [be_len] <;> omega)
      | (go_at_call 34; (with_reducible refine (wflag_st st5 hs (by omega)).mono fun e w6 hq => ?_); obtain ⟨rfl, st6⟩ := hq; have ho6 := st6.only; have hl6 : (GG ++ be (sg) 4 ++ be ks.length 4 ++ ks ++ be qs.length 4 ++ qs ++ [if hs then 1 else 0]).length ≤ ags.length + sgs.length + ks.length + qs.length + os.length + ks.length + qs.length + 29 := by simp [be_len] <;> omega))
  have hS := Sk w6 ho6
  cases hs
  · go_wp2_with fail
    refine (wdone_st st6 (by omega)).mono fun e w7 hq => ?_
    have hf := hq.name
    obtain ⟨ys, a4, c4, Hys, rfl, g1, g2, g3⟩ := hf
    clear hq hS
    go_wp2_with fail
    go_ret
    exact fresh_done ⟨_, rfl, g1, g2, g3⟩ hoW hBw ho6 (by rw [Hys.out, ← HGG.out]; simp [bundleB])
  · go_wp2_with fail
    clear hS
    have st6 : St B (.slice none 0 0) W w6.drew (GG ++ be (sg) 4 ++ be ks.length 4 ++ ks ++ be qs.length 4 ++ qs ++ [1]) := st6.drew
    have ho6 := st6.only
    have hl6 : (GG ++ be (sg) 4 ++ be ks.length 4 ++ ks ++ be qs.length 4 ++ qs ++ [1]).length ≤ ags.length + sgs.length + ks.length + qs.length + os.length + ks.length + qs.length + 29 := hl6
    go_region_held3 (fun w' => w'.cell? ⟨X, 0, none⟩ = some (.int .i64 u) ∧ w'.cell? ⟨X, 1, none⟩ = some (.int .i64 d) ∧ w'.cell? ⟨X, 2, none⟩ = some (.slice ag ags.length cg) ∧ w'.cell? ⟨X, 3, none⟩ = some (.slice ap sgs.length cp) ∧ w'.cell? ⟨X, 4, none⟩ = some (.int .u32 sg) ∧ w'.cell? ⟨X, 5, none⟩ = some (.slice ak ks.length ck) ∧ w'.cell? ⟨X, 6, none⟩ = some (.slice aq qs.length cq) ∧ w'.cell? ⟨X, 7, none⟩ = some (.bool true) ∧ w'.cell? ⟨X, 8, none⟩ = some (.int .u32 on) ∧ w'.cell? ⟨X, 9, none⟩ = some (.slice ao os.length co)) (exact Sk _ (by assumption))
      (first
        | (go_at_call 32; (with_reducible refine (wnum4_st st6 (on) (by omega) n0 (by omega)).mono fun e w7 hq => ?_); obtain ⟨rfl, st7⟩ := hq; have ho7 := st7.only; have hl7 : (GG ++ be (sg) 4 ++ be ks.length 4 ++ ks ++ be qs.length 4 ++ qs ++ [1] ++ be (on) 4).length ≤ ags.length + sgs.length + ks.length + qs.length + os.length + ks.length + qs.length + 33 := by simp [be_len] <;> omega)
        | (go_at_call 14; (with_reducible refine (wbytes_st st7 no fo (by omega) (by omega)).mono fun e w8 hq => ?_); obtain ⟨rfl, st8⟩ := hq; have ho8 := st8.only; have hl8 : (GG ++ be (sg) 4 ++ be ks.length 4 ++ ks ++ be qs.length 4 ++ qs ++ [1] ++ be (on) 4 ++ be os.length 4 ++ os).length ≤ ags.length + sgs.length + ks.length + qs.length + os.length + ks.length + qs.length + os.length + 37 := by simp [be_len] <;> omega))
    go_wp2_with fail
    refine (wdone_st st8 (by omega)).mono fun e w9 hq => ?_
    have hf := hq.name
    obtain ⟨ys, a4, c4, Hys, rfl, g1, g2, g3⟩ := hf
    clear hq
    go_wp2_with fail
    go_ret
    exact fresh_done ⟨_, rfl, g1, g2, g3⟩ hoW hBw ho8 (by rw [Hys.out, ← HGG.out]; simp [bundleB])

end Go.Proofs.Ytemlpjfngaemdaa
