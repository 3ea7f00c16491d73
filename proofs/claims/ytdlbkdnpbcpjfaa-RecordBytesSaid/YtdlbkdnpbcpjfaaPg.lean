/- Several texts in one: Env, EnvW, EnvR, EnvR2, EnvR3, EnvP, EnvH, By, EnvInv. -/
import Derived.Test.YtdlbkdnpbcpjfaaPf
set_option linter.unusedSimpArgs false
set_option linter.unusedVariables false
/- A Writer of layer 9 through a chain of calls: its state against the world in which the chain began. -/
namespace Go.Proofs.Ytdlbkdnpbcpjfaa
open Go.RowKit Go.Pw
set_option linter.unusedVariables false
set_option maxRecDepth 100000

/-- The Writer at B, which had the row v0 in the world W, has laid ys by the world w'. -/
def St (B : Nat) (v0 : Value) (W w' : World) (ys : List Int) : Prop :=
  ∃ v, IsW 100 5 B v ys w' ∧ SoN W v0 v ∧ Only W w' (B :: v0.ownBlock.toList)

theorem St.start {B : Nat} {v0 : Value} {W : World} {xs : List Int} (h : IsW 100 5 B v0 xs W) : St B v0 W W xs := ⟨v0, h, SoN.refl _ _, Only.refl _ _⟩
theorem St.only {B : Nat} {v0 : Value} {W w' : World} {ys : List Int} (h : St B v0 W w' ys) : Only W w' (B :: v0.ownBlock.toList) := h.choose_spec.2.2
theorem isw_new {T E B : Nat} {v : Value} {xs : List Int} {w w' : World} (h : IsW T E B v xs w) (ho : Only w w' []) : IsW T E B v xs w' := ⟨ho.at h.1 (by simp), own_new h.2 ho (by simp)⟩
theorem St.new {B : Nat} {v0 : Value} {W w1 w2 : World} {ys : List Int} (h : St B v0 W w1 ys) (ho : Only w1 w2 []) : St B v0 W w2 ys := by
  obtain ⟨v, h1, h2, h3⟩ := h
  exact ⟨v, isw_new h1 ho, h2, h3.trans (ho.mono (by simp))⟩
theorem St.drew {B : Nat} {v0 : Value} {W w1 : World} {ys : List Int} (h : St B v0 W w1 ys) : St B v0 W w1.drew ys := h.new (Only.drew _ _)
theorem St.trans {B : Nat} {v0 v1 : Value} {W w1 w2 : World} {zs : List Int} (h2 : SoN W v0 v1) (h3 : Only W w1 (B :: v0.ownBlock.toList)) (h : St B v1 w1 w2 zs) : St B v0 W w2 zs := by
  obtain ⟨v, k1, k2, k3⟩ := h
  exact ⟨v, k1, h2.trans k2 h3.size, h3.step k3 (own_list h2)⟩
theorem off_next {B : Nat} {v0 v1 p : Value} {W : World} {ps : List Int} (hp : Rd W p ps) (ho : Off p (B :: v0.ownBlock.toList)) (h : SoN W v0 v1) : Off p (B :: v1.ownBlock.toList) := fun hm k hk hkL => by
  rcases own_list h k hkL with h1 | h1
  · exact ho hm k hk h1
  · have := Src.lt hp (by decide) hm k hk; omega

/-- A step of the chain: a call that goes on from the Writer's state at hand. -/
theorem St.step {B f : Nat} {v0 r : Value} {args : Array Value} {W w1 : World} {ys zs : List Int} (h : St B v0 W w1 ys)
    (hc : ∀ v1, IsW 100 5 B v1 ys w1 → SoN W v0 v1 → Calls Try.prog f args w1 fun e w2 => e = .returned r ∧ St B v1 w1 w2 zs) :
    Calls Try.prog f args w1 fun e w2 => e = .returned r ∧ St B v0 W w2 zs := by
  obtain ⟨v1, h1, h2, h3⟩ := h
  refine (hc v1 h1 h2).mono ?_
  rintro e w2 ⟨rfl, k⟩
  exact ⟨rfl, k.trans h2 h3⟩

theorem wnum4_st {B : Nat} {v0 : Value} {W w1 : World} {ys : List Int} (h : St B v0 W w1 ys) (n : Int) (hl : ys.length ≤ 1000000) (hn0 : 0 ≤ n) (hn1 : n < 18446744073709551616) :
    Calls Try.prog 42 #[.pointer (some ⟨B, 0, none⟩), .int .u64 n, .int .i64 4] w1 fun e w2 => e = .returned (.pointer (some ⟨B, 0, none⟩)) ∧ St B v0 W w2 (ys ++ be n 4) :=
  h.step fun v1 h1 _ => wnum_any B v1 ys n 4 w1 (by decide) hn0 hn1 h1 hl
theorem wflag_st {B : Nat} {v0 : Value} {W w1 : World} {ys : List Int} (h : St B v0 W w1 ys) (b : Bool) (hl : ys.length ≤ 1000000) :
    Calls Try.prog 44 #[.pointer (some ⟨B, 0, none⟩), .bool b] w1 fun e w2 => e = .returned (.pointer (some ⟨B, 0, none⟩)) ∧ St B v0 W w2 (ys ++ [if b then 1 else 0]) :=
  h.step fun v1 h1 _ => wflag_any B v1 ys b w1 h1 hl
theorem wbytes_st {B : Nat} {v0 p : Value} {W w1 : World} {ys ps : List Int} (h : St B v0 W w1 ys) (hp : Rd W p ps) (ho : Off p (B :: v0.ownBlock.toList)) (hl : ys.length ≤ 900000) (hpl : ps.length ≤ 1000000000) :
    Calls Try.prog 43 #[.pointer (some ⟨B, 0, none⟩), p] w1 fun e w2 => e = .returned (.pointer (some ⟨B, 0, none⟩)) ∧ St B v0 W w2 (ys ++ be ps.length 4 ++ ps) :=
  h.step fun v1 h1 h2 => wbytes_any B v1 p ys ps w1 h1 hl (Src.off hp h.only ho) hpl (off_next hp ho h2)
theorem wdone_st {B : Nat} {v0 : Value} {W w1 : World} {ys : List Int} (h : St B v0 W w1 ys) (hl : ys.length ≤ 1000000000) :
    Calls Try.prog 47 #[.pointer (some ⟨B, 0, none⟩)] w1 (Fresh ys w1) := by
  obtain ⟨v1, h1, _, _⟩ := h
  exact wdone_any B v1 ys w1 h1 hl

theorem isw_apart {T E B X : Nat} {v : Value} {xs : List Int} {w : World} (h : IsW T E B v xs w) (hX : w.heap.size ≤ X) : X ∉ B :: v.ownBlock.toList := by
  intro hm
  have h1 := (Array.getElem?_eq_some_iff.1 h.1).1
  rcases List.mem_cons.1 hm with rfl | hm
  · omega
  · have := (h.2.lt X (by simpa using hm)).2
    omega
end Go.Proofs.Ytdlbkdnpbcpjfaa

/- The contracts of package envelope's writing side: who, ident, hello, front, Hello, Front, Encode, EncodeInner, EncodeBundle lay the document's bytes, for parts shorter than the bounds that each contract names. -/
namespace Go.Proofs.Ytdlbkdnpbcpjfaa
open Go.RowKit Go.Pw
set_option linter.unusedVariables false
set_option maxRecDepth 100000

set_option maxHeartbeats 1600000 in
theorem eident_any (B : Nat) (v0 : Value) (xs : List Int) (va : Value) (vs : Value) (ags : List Int) (sgs : List Int) (w : World) (hw : IsW 100 5 B v0 xs w) (hg : Rd w va ags) (fg : Off va (B :: v0.ownBlock.toList)) (hp : Rd w vs sgs) (fp : Off vs (B :: v0.ownBlock.toList)) (hl : xs.length ≤ 800000) (hl2 : ags.length + sgs.length ≤ 50000) :
    Calls Try.prog 89 #[.pointer (some ⟨B, 0, none⟩), .agg #[va, vs]] w fun e w' => e = .returned (.tuple #[]) ∧ St B v0 w w' (xs ++ identB ags sgs) := by
  obtain ⟨ag, cg, rfl⟩ := hg.slice
  obtain ⟨ap, cp, rfl⟩ := hp.slice
  go_enter Try.func89, Try.ntmps89
  go_wp2_with fail
  obtain ⟨W, X, hW, hX, hb, hoW, hX1, hX2⟩ := new_block w (.cells #[.slice ag ags.length cg, .slice ap sgs.length cp] 30)
  rw [← hW, ← hX]
  clear hW hX
  have hXn := isw_apart hw hX1
  have Sk : ∀ w', Only W w' (B :: v0.ownBlock.toList) → w'.cell? ⟨X, 0, none⟩ = some (.slice ag ags.length cg) ∧ w'.cell? ⟨X, 1, none⟩ = some (.slice ap sgs.length cp) := fun w' ho => ⟨ho.cell_in hb hXn 0, ho.cell_in hb hXn 1⟩
  have st0 := (St.start (isw_new hw hoW)).drew
  have ho0 := st0.only
  have ng := hg.new (hoW)
  have np := hp.new (hoW)
  clear hb hg hp
  go_region_held3 (fun w' => w'.cell? ⟨X, 0, none⟩ = some (.slice ag ags.length cg) ∧ w'.cell? ⟨X, 1, none⟩ = some (.slice ap sgs.length cp)) (exact Sk _ (by assumption))
    (first
      | (go_at_call 43; (with_reducible refine (wbytes_st st0 ng fg (by omega) (by omega)).mono fun e w1 hq => ?_); obtain ⟨rfl, st1⟩ := hq; have ho1 := st1.only; have hl1 : (xs ++ be ags.length 4 ++ ags).length ≤ 800000 + ags.length + 4 := by simp [be_len] <;> omega)
      | (go_at_call 43; (with_reducible refine (wbytes_st st1 np fp (by omega) (by omega)).mono fun e w2 hq => ?_); obtain ⟨rfl, st2⟩ := hq; have ho2 := st2.only; have hl2 : (xs ++ be ags.length 4 ++ ags ++ be sgs.length 4 ++ sgs).length ≤ 800000 + ags.length + sgs.length + 8 := by simp [be_len] <;> omega))
  go_wp2_with fail
  go_end0
  refine ⟨rfl, ?_⟩
  have st3 := St.trans (SoN.refl _ _) (hoW.mono (by simp)) st2
  simpa [identB] using st3

set_option maxHeartbeats 1600000 in
theorem hello_any (B : Nat) (v0 : Value) (xs : List Int) (va : Value) (vs : Value) (vk : Value) (ags : List Int) (sgs : List Int) (ks : List Int) (sg on : Int) (has : Bool) (w : World) (hw : IsW 100 5 B v0 xs w) (hg : Rd w va ags) (fg : Off va (B :: v0.ownBlock.toList)) (hp : Rd w vs sgs) (fp : Off vs (B :: v0.ownBlock.toList)) (hk : Rd w vk ks) (fk : Off vk (B :: v0.ownBlock.toList)) (hsg : U32 sg) (hon : U32 on) (hl : xs.length ≤ 700000) (hl2 : ags.length + sgs.length + ks.length ≤ 50000) :
    Calls Try.prog 83 #[.pointer (some ⟨B, 0, none⟩), .agg #[va, vs, vk, .int .u32 sg, .bool has, .int .u32 on]] w fun e w' => e = .returned (.tuple #[]) ∧ St B v0 w w' (xs ++ helloB ags sgs ks sg has on) := by
  obtain ⟨ag, cg, rfl⟩ := hg.slice
  obtain ⟨ap, cp, rfl⟩ := hp.slice
  obtain ⟨ak, ck, rfl⟩ := hk.slice
  obtain ⟨p0, p1⟩ := hsg
  obtain ⟨n0, n1⟩ := hon
  go_enter Try.func83, Try.ntmps83
  go_wp2_with fail
  obtain ⟨W, X, hW, hX, hb, hoW, hX1, hX2⟩ := new_block w (.cells #[.slice ag ags.length cg, .slice ap sgs.length cp, .slice ak ks.length ck, .int .u32 sg, .bool has, .int .u32 on] 90)
  rw [← hW, ← hX]
  clear hW hX
  have hXn := isw_apart hw hX1
  have Sk : ∀ w', Only W w' (B :: v0.ownBlock.toList) → w'.cell? ⟨X, 0, none⟩ = some (.slice ag ags.length cg) ∧ w'.cell? ⟨X, 1, none⟩ = some (.slice ap sgs.length cp) ∧ w'.cell? ⟨X, 2, none⟩ = some (.slice ak ks.length ck) ∧ w'.cell? ⟨X, 3, none⟩ = some (.int .u32 sg) ∧ w'.cell? ⟨X, 4, none⟩ = some (.bool has) ∧ w'.cell? ⟨X, 5, none⟩ = some (.int .u32 on) := fun w' ho => ⟨ho.cell_in hb hXn 0, ho.cell_in hb hXn 1, ho.cell_in hb hXn 2, ho.cell_in hb hXn 3, ho.cell_in hb hXn 4, ho.cell_in hb hXn 5⟩
  have st0 := St.start (isw_new hw hoW)
  have ho0 := st0.only
  have ng := hg.new (hoW)
  have np := hp.new (hoW)
  have nk := hk.new (hoW)
  have e1 : IntKind.u64.wrap sg = sg := u64_in sg p0 p1
  have e2 : IntKind.u64.wrap on = on := u64_in on n0 n1
  clear hb hg hp hk
  have hS := Sk W ho0
  go_wp2_with fail
  refine (st0.step fun v1 q1 q2 => eident_any B v1 xs (.slice ag ags.length cg) (.slice ap sgs.length cp) ags sgs W q1 ng (off_next ng fg q2) np (off_next np fp q2) (by omega) (by omega)).mono fun e w1 hq => ?_
  obtain ⟨rfl, st1⟩ := hq
  clear hS
  go_wp2_with fail
  have st1 := st1.drew
  have ho1 := st1.only
  have hl1 : (xs ++ identB ags sgs).length ≤ 700000 + ags.length + sgs.length + 8 := by simp [identB_len]; omega
  go_region_held3 (fun w' => w'.cell? ⟨X, 0, none⟩ = some (.slice ag ags.length cg) ∧ w'.cell? ⟨X, 1, none⟩ = some (.slice ap sgs.length cp) ∧ w'.cell? ⟨X, 2, none⟩ = some (.slice ak ks.length ck) ∧ w'.cell? ⟨X, 3, none⟩ = some (.int .u32 sg) ∧ w'.cell? ⟨X, 4, none⟩ = some (.bool has) ∧ w'.cell? ⟨X, 5, none⟩ = some (.int .u32 on)) (exact Sk _ (by assumption))
    (first
      | (go_at_call 43; (with_reducible refine (wbytes_st st1 nk fk (by omega) (by omega)).mono fun e w2 hq => ?_); obtain ⟨rfl, st2⟩ := hq; have ho2 := st2.only; have hl2 : (xs ++ identB ags sgs ++ be ks.length 4 ++ ks).length ≤ 700000 + ags.length + sgs.length + ks.length + 12 := by simp [be_len, identB_len] <;> omega)
      | (go_at_call 42; (with_reducible refine (wnum4_st st2 (sg) (by omega) p0 (by omega)).mono fun e w3 hq => ?_); obtain ⟨rfl, st3⟩ := hq; have ho3 := st3.only; have hl3 : (xs ++ identB ags sgs ++ be ks.length 4 ++ ks ++ be (sg) 4).length ≤ 700000 + ags.length + sgs.length + ks.length + 16 := by simp [be_len, identB_len] <;> omega)
      | (go_at_call 44; (with_reducible refine (wflag_st st3 has (by omega)).mono fun e w4 hq => ?_); obtain ⟨rfl, st4⟩ := hq; have ho4 := st4.only; have hl4 : (xs ++ identB ags sgs ++ be ks.length 4 ++ ks ++ be (sg) 4 ++ [if has then 1 else 0]).length ≤ 700000 + ags.length + sgs.length + ks.length + 17 := by simp [be_len, identB_len] <;> omega))
  have hS := Sk w4 ho4
  cases has
  · go_wp2_with fail
    go_end0
    refine ⟨rfl, ?_⟩
    have st5 := St.trans (SoN.refl _ _) (hoW.mono (by simp)) st4
    simpa [helloB] using st5
  · go_wp2_with fail
    refine (wnum4_st st4 on (by omega) n0 (by omega)).mono fun e w5 hq => ?_
    obtain ⟨rfl, st5⟩ := hq
    clear hS
    go_wp2_with fail
    go_end0
    refine ⟨rfl, ?_⟩
    have st6 := St.trans (SoN.refl _ _) (hoW.mono (by simp)) st5
    simpa [helloB] using st6

/-- The Writer's bytes, done: a row of the call's own. -/
theorem fresh_done {B : Nat} {w W w1 w2 : World} {e : Ending} {xs ys : List Int} (h : Fresh ys w1 e w2) (hoW : Only w W []) (hB : w.heap.size ≤ B) (h1 : Only W w1 (B :: (Value.slice none 0 0).ownBlock.toList)) (he : ys = xs) : Fresh xs w e w2 := by
  subst he
  obtain ⟨v, rfl, g1, g2, g3⟩ := h
  have ho : Only w w1 [] := hoW.new h1 (by simp [Value.ownBlock]; omega)
  exact ⟨v, rfl, g1, g2.weaken ho.size, ho.trans g3⟩

set_option maxHeartbeats 1600000 in
theorem enchello_any (va : Value) (vs : Value) (vk : Value) (ags : List Int) (sgs : List Int) (ks : List Int) (sg on : Int) (has : Bool) (w : World) (hg : Rd w va ags) (hp : Rd w vs sgs) (hk : Rd w vk ks) (hsg : U32 sg) (hon : U32 on) (hl2 : ags.length + sgs.length + ks.length ≤ 50000) :
    Calls Try.prog 70 #[.agg #[va, vs, vk, .int .u32 sg, .bool has, .int .u32 on]] w (Fresh (helloB ags sgs ks sg has on) w) := by
  obtain ⟨ag, cg, rfl⟩ := hg.slice
  obtain ⟨ap, cp, rfl⟩ := hp.slice
  obtain ⟨ak, ck, rfl⟩ := hk.slice
  go_enter Try.func70, Try.ntmps70
  go_wp2_with fail
  obtain ⟨W1, X, hW, hX, hb0, hoW1, hX1, hX2⟩ := new_block w (.cells #[.slice ag ags.length cg, .slice ap sgs.length cp, .slice ak ks.length ck, .int .u32 sg, .bool has, .int .u32 on] 90)
  have hs1 : W1.heap.size = X + 1 := by rw [hW, hX]; simp
  rw [← hW, ← hX]
  clear hW hX
  obtain ⟨W, B, hW, hB, hbw, hoW2, hB1, hB2⟩ := new_block W1 (.cells #[.slice none 0 0] 100)
  rw [← hW, ← hs1, ← hB]
  clear hW hB hs1
  have hb := hoW2.at hb0 (by simp)
  have hoW := hoW1.trans hoW2
  have hBw : w.heap.size ≤ B := Nat.le_trans hoW1.size hB1
  have hXn : X ∉ B :: (Value.slice none 0 0).ownBlock.toList := by simp [Value.ownBlock]; omega
  have hw : IsW 100 5 B (.slice none 0 0) [] W := ⟨hbw, World.ownsRow_nil _ _ _ _⟩
  have Sk : ∀ w', Only W w' (B :: (Value.slice none 0 0).ownBlock.toList) → w'.cell? ⟨X, 0, none⟩ = some (.slice ag ags.length cg) ∧ w'.cell? ⟨X, 1, none⟩ = some (.slice ap sgs.length cp) ∧ w'.cell? ⟨X, 2, none⟩ = some (.slice ak ks.length ck) ∧ w'.cell? ⟨X, 3, none⟩ = some (.int .u32 sg) ∧ w'.cell? ⟨X, 4, none⟩ = some (.bool has) ∧ w'.cell? ⟨X, 5, none⟩ = some (.int .u32 on) := fun w' ho => ⟨ho.cell_in hb hXn 0, ho.cell_in hb hXn 1, ho.cell_in hb hXn 2, ho.cell_in hb hXn 3, ho.cell_in hb hXn 4, ho.cell_in hb hXn 5⟩
  have fg : Off (.slice ag ags.length cg) (B :: (Value.slice none 0 0).ownBlock.toList) := Src.off_new hg (by decide) (by simp [Value.ownBlock]; omega)
  have ng := hg.new hoW
  have fp : Off (.slice ap sgs.length cp) (B :: (Value.slice none 0 0).ownBlock.toList) := Src.off_new hp (by decide) (by simp [Value.ownBlock]; omega)
  have np := hp.new hoW
  have fk : Off (.slice ak ks.length ck) (B :: (Value.slice none 0 0).ownBlock.toList) := Src.off_new hk (by decide) (by simp [Value.ownBlock]; omega)
  have nk := hk.new hoW
  have st0 := St.start hw
  have hS := Sk W st0.only
  go_wp2_with fail
  refine (st0.step fun v1 q1 q2 => hello_any B v1 [] (.slice ag ags.length cg) (.slice ap sgs.length cp) (.slice ak ks.length ck) ags sgs ks sg on has W q1 ng (off_next ng fg q2) np (off_next np fp q2) nk (off_next nk fk q2) hsg hon (by simp) (by omega)).mono fun e w1 hq => ?_
  obtain ⟨rfl, st1⟩ := hq
  clear hS
  go_wp2_with fail
  have hle := helloB_len ags sgs ks sg has on
  refine (wdone_st st1 (by simp; omega)).mono fun e w2 hq => ?_
  have hf := hq.name
  obtain ⟨ys, a4, c4, Hys, rfl, g1, g2, g3⟩ := hf
  clear hq
  go_wp2_with fail
  go_ret
  exact fresh_done ⟨_, rfl, g1, g2, g3⟩ hoW hBw st1.only (by rw [Hys.out]; rfl)

end Go.Proofs.Ytdlbkdnpbcpjfaa

/- The contracts of package envelope's reading side: readWho, readIdent, readHello, ReadHello, Decode, DecodeInner, DecodeBundle at any bytes, fewer than 1000000001 of them. -/
namespace Go.Proofs.Ytdlbkdnpbcpjfaa
open Go.RowKit Go.Pw
set_option linter.unusedVariables false
set_option maxRecDepth 100000

/-- What is read next: a number of four bytes, bytes, a truth; and what is left: the rest, the fault. -/
def pN (s : List Int × Bool) : Int × List Int × Bool := RN 4 s.1 s.2
def pB (s : List Int × Bool) : List Int × List Int × Bool :=
  let r := RN 4 s.1 s.2
  let f := BF r.2.2 65536 r.1 r.2.1.length
  (BV f r.1 r.2.1, BR f r.1 r.2.1, f)
def pF (s : List Int × Bool) : Bool × List Int × Bool :=
  let r := RN 1 s.1 s.2
  (FV r.1, r.2.1, FB r.2.2 1 r.1)

/-- A slice that the call has made since W, which reads as xs. -/
def Got (W w : World) (v : Value) (xs : List Int) : Prop := (∃ ao c, v = .slice ao xs.length c) ∧ Rd w v xs ∧ (∀ k, v.ownBlock = some k → W.heap.size ≤ k) ∧ Byt xs

theorem Got.next {W w w' : World} {v : Value} {xs : List Int} {L : List Nat} (h : Got W w v xs) (ho : Only w w' L) (hL : ∀ k ∈ L, k < W.heap.size) : Got W w' v xs := by
  obtain ⟨h1, h2, h3, h4⟩ := h
  exact ⟨h1, Src.off h2 ho (fun _ k hk hm => by have := h3 k hk; have := hL k hm; omega), h3, h4⟩
theorem Got.mono {W W' w : World} {v : Value} {xs : List Int} (h : Got W w v xs) (hs : W'.heap.size ≤ W.heap.size) : Got W' w v xs := ⟨h.1, h.2.1, fun k hk => Nat.le_trans hs (h.2.2.1 k hk), h.2.2.2⟩
theorem got_nil (W w : World) : Got W w (.slice none 0 0) [] := ⟨⟨none, 0, rfl⟩, Rd.nil w, fun k hk => by simp [Value.ownBlock] at hk, fun x hx => by simp at hx⟩

/-- A Reader against the world W in which a chain began. -/
structure RT (R : Nat) (p : Value) (s : List Int × Bool) (W w : World) : Prop where
  rs : RS R p s.1 s.2 W w
  len : s.1.length ≤ 1000000000
  le : s.1.length ≤ slen p
  plt : 0 < slen p → ∀ k, p.ownBlock = some k → k < W.heap.size
  rlt : R < W.heap.size

theorem RT.only {R : Nat} {p : Value} {s : List Int × Bool} {W w : World} (h : RT R p s W w) : Only W w [R] := h.rs.2
theorem RT.step {R : Nat} {p p1 : Value} {s s' : List Int × Bool} {W w1 w2 : World} (h0 : RT R p s W w1) (hp : p1.ownBlock = p.ownBlock) (h : RS R p1 s'.1 s'.2 w1 w2) (hs : s'.1.length ≤ s.1.length) : RT R p s' W w2 := by
  obtain ⟨⟨p', h1, h2⟩, h3⟩ := h
  have := h0.len
  have := h0.le
  exact ⟨⟨⟨p', h1.trans hp, h2⟩, h0.only.trans h3⟩, by omega, by omega, h0.plt, h0.rlt⟩
theorem rs_new {R : Nat} {p : Value} {s : List Int × Bool} {w w' : World} {L : List Nat} (h : ∃ p', p'.ownBlock = p.ownBlock ∧ IsR 131 R p' s.1 s.2 w) (hl : s.1.length ≤ slen p) (ho : Only w w' L) (hR : R ∉ L) (hp : Off p L) : ∃ p', p'.ownBlock = p.ownBlock ∧ IsR 131 R p' s.1 s.2 w' := by
  obtain ⟨p', h1, h2, h3, h4⟩ := h
  refine ⟨p', h1, ho.at h2 hR, ?_, h4⟩
  refine Src.off h3 ho (fun hm k hk hkL => ?_)
  obtain ⟨ao, c, rfl, _⟩ := id h3
  exact hp (Nat.lt_of_lt_of_le hm hl) k (h1 ▸ hk) hkL
/-- Other blocks are written, new ones since W. -/
theorem RT.keep {R : Nat} {p : Value} {s : List Int × Bool} {W w w' : World} {L : List Nat} (h : RT R p s W w) (ho : Only w w' L) (hL : ∀ k ∈ L, W.heap.size ≤ k) : RT R p s W w' := by
  have hR : R ∉ L := fun hm => by have := hL R hm; have := h.rlt; omega
  have hp : Off p L := fun hm k hk hkL => by have := h.plt hm k hk; have := hL k hkL; omega
  exact ⟨⟨rs_new h.rs.1 h.le ho hR hp, h.only.step ho (fun i hi => .inr (hL i hi))⟩, h.len, h.le, h.plt, h.rlt⟩
theorem RT.new {R : Nat} {p : Value} {s : List Int × Bool} {W w w' : World} (h : RT R p s W w) (ho : Only w w' []) : RT R p s W w' := h.keep ho (by simp)
/-- The chain begun anew, at the world at hand. -/
theorem RT.here {R : Nat} {p : Value} {s : List Int × Bool} {W w : World} (h : RT R p s W w) : RT R p s w w :=
  ⟨⟨h.rs.1, Only.refl _ _⟩, h.len, h.le, fun hm k hk => Nat.lt_of_lt_of_le (h.plt hm k hk) h.only.size, Nat.lt_of_lt_of_le h.rlt h.only.size⟩
/-- A chain that was begun anew, seen from where the first began. -/
theorem RT.back {R : Nat} {p : Value} {s s' : List Int × Bool} {W w w' : World} (h : RT R p s W w) (k : RT R p s' w w') : RT R p s' W w' :=
  ⟨⟨k.rs.1, h.only.trans k.only⟩, k.len, k.le, h.plt, h.rlt⟩

theorem rnum_rt {R : Nat} {p : Value} {s : List Int × Bool} {W w : World} (h : RT R p s W w) :
    Calls Try.prog 50 #[.pointer (some ⟨R, 0, none⟩), .int .i64 4] w fun e w' => ∃ n s', Hid (pN s = (n, s')) ∧ e = .returned (.int .u64 n) ∧ 0 ≤ n ∧ n < 4294967296 ∧ RT R p s' W w' := by
  obtain ⟨⟨p1, h1, h2⟩, h3⟩ := id h.rs
  have h4 := h.len
  have hb := RN_bd 4 s.1 s.2 h2.2.2
  refine (rnum_any R p1 s.1 s.2 4 w h2 h4 (by decide)).mono ?_
  rintro e w' ⟨rfl, k⟩
  refine ⟨_, (RN 4 s.1 s.2).2, rfl, rfl, hb.1, by have := hb.2.1; rw [pow4] at this; exact this, RT.step h h1 k hb.2.2.1⟩

theorem rflag_rt {R : Nat} {p : Value} {s : List Int × Bool} {W w : World} (h : RT R p s W w) :
    Calls Try.prog 52 #[.pointer (some ⟨R, 0, none⟩)] w fun e w' => ∃ b s', Hid (pF s = (b, s')) ∧ e = .returned (.bool b) ∧ RT R p s' W w' := by
  obtain ⟨⟨p1, h1, h2⟩, h3⟩ := id h.rs
  have h4 := h.len
  have hb := RN_bd 1 s.1 s.2 h2.2.2
  refine (rflag_any R p1 s.1 s.2 w h2 h4).mono ?_
  rintro e w' ⟨rfl, k⟩
  exact ⟨_, (pF s).2, rfl, rfl, RT.step h h1 k hb.2.2.1⟩

theorem rbytes_rt {R : Nat} {p : Value} {s : List Int × Bool} {W w : World} (h : RT R p s W w) :
    Calls Try.prog 51 #[.pointer (some ⟨R, 0, none⟩), .int .i64 65536] w fun e w' => ∃ v xs s', Hid (pB s = (xs, s')) ∧ e = .returned v ∧ Got W w' v xs ∧ xs.length ≤ 65536 ∧ RT R p s' W w' := by
  obtain ⟨⟨p1, h1, h2⟩, h3⟩ := id h.rs
  have h4 := h.len
  have hb := RN_bd 4 s.1 s.2 h2.2.2
  refine (rbytes_any R p1 s.1 s.2 65536 w h2 h4 (by decide)).mono ?_
  rintro e w' ⟨v, rfl, g1, g2, k⟩
  obtain ⟨ao, c, rfl⟩ := own_slice g1
  have hl : (pB s).2.1.length ≤ s.1.length ∧ (pB s).1.length ≤ 65536 ∧ Byt (pB s).1 := by
    unfold pB
    simp only
    generalize hr : RN 4 s.1 s.2 = r at *
    cases hf : BF r.2.2 65536 r.1 r.2.1.length
    · simp only [BF, Bool.or_eq_false_iff, decide_eq_false_iff_not] at hf
      refine ⟨?_, ?_, fun y hy => hb.2.2.2 y ?_⟩
      · simp [BR]; omega
      · simp [BV]; omega
      · simp [BV] at hy; exact List.mem_of_mem_take hy
    · exact ⟨by simp [BR]; omega, by simp [BV], fun y hy => by simp [BV] at hy⟩
  refine ⟨_, (pB s).1, (pB s).2, rfl, rfl, ⟨⟨_, _, rfl⟩, own_rd g1, fun k hk => ?_, hl.2.2⟩, hl.2.1, RT.step h h1 k hl.1⟩
  rcases g2 k hk with h | h
  · simp [Value.ownBlock] at h
  · exact Nat.le_trans h3.size h

/-- A device; what is public of one; a Hello; as they are read. -/
def pW (s : List Int × Bool) : (Int × Int) × List Int × Bool :=
  let a := pN s
  let b := pN a.2
  ((a.1, b.1), b.2)
def pI (s : List Int × Bool) : (List Int × List Int) × List Int × Bool :=
  let a := pB s
  let b := pB a.2
  ((a.1, b.1), b.2)

/-- What a step of reading leaves: its answer r, and the Reader. -/
def Ans {α : Type} (f : List Int × Bool → α × List Int × Bool) (R : Nat) (p : Value) (s : List Int × Bool) (W : World) (ok : α → Value → World → Prop) (e : Ending) (w' : World) : Prop :=
  ∃ a s' v, f s = (a, s') ∧ e = .returned v ∧ ok a v w' ∧ RT R p s' W w'

def OkWho (a : Int × Int) (v : Value) (_ : World) : Prop := v = .agg #[.int .i64 a.1, .int .i64 a.2] ∧ U32 a.1 ∧ U32 a.2

end Go.Proofs.Ytdlbkdnpbcpjfaa

/- The contracts of package envelope's reading side, second part: readIdent, readHello, ReadHello, DecodeInner, DecodeBundle, Decode at any bytes, fewer than 1000000001 of them. -/
namespace Go.Proofs.Ytdlbkdnpbcpjfaa
open Go.RowKit Go.Pw
set_option linter.unusedVariables false
set_option maxRecDepth 100000

/-- A row of cells stored, one behind the other. -/
def setAll (w : World) (X : Nat) : Nat → List Value → World
  | _, [] => w
  | i, v :: vs => setAll (w.setCell ⟨X, i, none⟩ v) X (i + 1) vs
def putAll (cs : Array Value) : Nat → List Value → Array Value
  | _, [] => cs
  | i, v :: vs => putAll (cs.setIfInBounds i v) (i + 1) vs
theorem setAll_only (X : Nat) (vs : List Value) : ∀ (w : World) (i : Nat), Only w (setAll w X i vs) [X] := by
  induction vs with
  | nil => intro w i; exact Only.refl _ _
  | cons v vs ih => intro w i; exact (Only.setCell w ⟨X, i, none⟩ v [X] (by simp)).trans (ih _ _)
theorem setAll_at {X : Nat} {T : TypeId} {fr : Nat × Nat} (vs : List Value) : ∀ {w : World} {cs : Array Value} (i : Nat), w.heap[X]? = some (.cells cs T fr) → (setAll w X i vs).heap[X]? = some (.cells (putAll cs i vs) T fr) := by
  induction vs with
  | nil => intro w cs i h; exact h
  | cons v vs ih => intro w cs i h; exact ih (i + 1) (set_at h v)

def OkIdent (W : World) (a : List Int × List Int) (v : Value) (w : World) : Prop := ∃ va vs, v = .agg #[va, vs] ∧ Got W w va a.1 ∧ Got W w vs a.2 ∧ a.1.length ≤ 65536 ∧ a.2.length ≤ 65536

set_option maxHeartbeats 800000 in
theorem readident_rt {R : Nat} {p : Value} {s : List Int × Bool} {W w : World} (h : RT R p s W w) :
    Calls Try.prog 92 #[.pointer (some ⟨R, 0, none⟩)] w (Ans pI R p s W (OkIdent w)) := by
  go_enter Try.func92, Try.ntmps92
  go_wp2_with fail
  obtain ⟨W0, X, hW, hX, hb, hoW, hX1, hX2⟩ := new_block w (.cells #[.slice none 0 0, .slice none 0 0] 30)
  rw [← hW, ← hX]
  clear hW hX
  have hWX : W.heap.size ≤ X := Nat.le_trans h.only.size hX1
  have hRX : X ∉ [R] := by have := h.rlt; simp; omega
  refine (rbytes_rt (h.new hoW).here).mono ?_
  rintro e w1 ⟨v1, x1, s1, H1, rfl, g1, l1, r1⟩
  obtain ⟨⟨a1, c1, rfl⟩, _⟩ := id g1
  go_wp2_with fail
  refine (rbytes_rt r1.here).mono ?_
  rintro e w2 ⟨v2, x2, s2, H2, rfl, g2, l2, r2⟩
  obtain ⟨⟨a2, c2, rfl⟩, _⟩ := id g2
  have hb2 := (r1.back r2).only.at hb hRX
  have k1 := g1.next r2.only (by have := (h.new hoW).here.rlt; simpa using this)
  have e0 := cell_in hb2 0
  have e1 := cell_in hb2 1
  have f0 := free_in hb2 0
  have f1 := free_in hb2 1
  go_wp2_with fail
  have hb3 := (set_at (i := 1) (set_at (i := 0) hb2 (.slice a1 x1.length c1)) (.slice a2 x2.length c2))
  have d0 := cell_in hb3 0
  have d1 := cell_in hb3 1
  have ho : Only w2 ((w2.setCell ⟨X, 0, none⟩ (.slice a1 x1.length c1)).setCell ⟨X, 1, none⟩ (.slice a2 x2.length c2)) [X] := by repeat (first | exact Only.setCell _ _ _ _ (by simp) | refine Only.trans ?_ (Only.setCell _ _ _ _ (by simp)))
  generalize ((w2.setCell ⟨X, 0, none⟩ (.slice a1 x1.length c1)).setCell ⟨X, 1, none⟩ (.slice a2 x2.length c2)) = w3 at *
  simp at d0 d1
  have hX0 : ∀ k ∈ [X], k < W0.heap.size := by simpa using hX2
  refine bodyPost_ret (v := .agg #[.slice a1 x1.length c1, .slice a2 x2.length c2]) (by simp [results, Try.results92, go_sem, d0, d1]) rfl ?_
  refine ⟨(x1, x2), s2, _, by simp [pI, H1.out, H2.out], rfl, ⟨_, _, rfl, (k1.next ho hX0).mono hoW.size, ((g2.mono r1.only.size).next ho hX0).mono hoW.size, l1, l2⟩, ((h.new hoW).back (r1.back r2)).keep ho (by simpa using hWX)⟩

/-- What is read of a Hello. -/
structure HelloD where
  ag : List Int
  sg : List Int
  key : List Int
  signed : Int
  has : Bool
  once : Int

def pH (s : List Int × Bool) : HelloD × List Int × Bool :=
  let i := pI s
  let k := pB i.2
  let g := pN k.2
  let h := pF g.2
  if h.1 then let o := pN h.2; (⟨i.1.1, i.1.2, k.1, g.1, true, o.1⟩, o.2) else (⟨i.1.1, i.1.2, k.1, g.1, false, 0⟩, h.2)

structure GotH (W w : World) (a : HelloD) (va vs vk : Value) : Prop where
  ga : Got W w va a.ag
  gs : Got W w vs a.sg
  gk : Got W w vk a.key
  la : a.ag.length ≤ 65536
  ls : a.sg.length ≤ 65536
  lk : a.key.length ≤ 65536
  us : U32 a.signed
  uo : U32 a.once
theorem GotH.next {W w w' : World} {a : HelloD} {va vs vk : Value} {L : List Nat} (h : GotH W w a va vs vk) (ho : Only w w' L) (hL : ∀ k ∈ L, k < W.heap.size) : GotH W w' a va vs vk :=
  ⟨h.ga.next ho hL, h.gs.next ho hL, h.gk.next ho hL, h.la, h.ls, h.lk, h.us, h.uo⟩
theorem Got.keep {W w w' : World} {v : Value} {xs : List Int} {L : List Nat} (h : Got W w v xs) (ho : Only w w' L) (hL : ∀ k ∈ L, k < W.heap.size ∨ w.heap.size ≤ k) : Got W w' v xs := by
  obtain ⟨h1, h2, h3, h4⟩ := h
  refine ⟨h1, Src.off h2 ho (fun hm k hk hkL => ?_), h3, h4⟩
  have a1 := h3 k hk
  have a2 := Src.lt h2 (by decide) hm k hk
  rcases hL k hkL with h | h <;> omega
theorem GotH.keep {W w w' : World} {a : HelloD} {va vs vk : Value} {L : List Nat} (h : GotH W w a va vs vk) (ho : Only w w' L) (hL : ∀ k ∈ L, k < W.heap.size ∨ w.heap.size ≤ k) : GotH W w' a va vs vk :=
  ⟨h.ga.keep ho hL, h.gs.keep ho hL, h.gk.keep ho hL, h.la, h.ls, h.lk, h.us, h.uo⟩
theorem GotH.mono {W W' w : World} {a : HelloD} {va vs vk : Value} (h : GotH W w a va vs vk) (hs : W'.heap.size ≤ W.heap.size) : GotH W' w a va vs vk :=
  ⟨h.ga.mono hs, h.gs.mono hs, h.gk.mono hs, h.la, h.ls, h.lk, h.us, h.uo⟩
def OkHello (W : World) (a : HelloD) (v : Value) (w : World) : Prop := ∃ va vs vk, v = .agg #[va, vs, vk, .int .u32 a.signed, .bool a.has, .int .u32 a.once] ∧ GotH W w a va vs vk

set_option maxRecDepth 100000 in
set_option maxHeartbeats 1600000 in
theorem readhello_rt {R : Nat} {p : Value} {s : List Int × Bool} {W w : World} (h : RT R p s W w) :
    Calls Try.prog 85 #[.pointer (some ⟨R, 0, none⟩)] w (Ans pH R p s W (OkHello w)) := by
  go_enter Try.func85, Try.ntmps85
  go_wp2_with fail
  obtain ⟨W0, X, hW, hX, hb, hoW, hX1, hX2⟩ := new_block w (.cells #[.slice none 0 0, .slice none 0 0, .slice none 0 0, .int .u32 0, .bool false, .int .u32 0] 90)
  rw [← hW, ← hX]
  clear hW hX
  have hWX : W.heap.size ≤ X := Nat.le_trans h.only.size hX1
  have hRX : X ∉ [R] := by have := h.rlt; simp; omega
  refine (readident_rt (h.new hoW).here).mono ?_
  rintro e w1 ⟨⟨x1, x2⟩, s1, v1, H1, rfl, ⟨va, vs, rfl, g1, g2, l1, l2⟩, r1⟩
  obtain ⟨⟨a1, c1, rfl⟩, _⟩ := id g1
  obtain ⟨⟨a2, c2, rfl⟩, _⟩ := id g2
  have H1 := Lib.hid H1
  go_wp2_with fail
  refine (rbytes_rt r1.here).mono ?_
  rintro e w2 ⟨v3, x3, s2, H2, rfl, g3, l3, r2⟩
  obtain ⟨⟨a3, c3, rfl⟩, _⟩ := id g3
  go_wp2_with fail
  refine (rnum_rt r2.here).mono ?_
  rintro e w3 ⟨n4, s3, H3, rfl, lo4, hi4, r3⟩
  go_wp2_with fail
  refine (rflag_rt r3.here).mono ?_
  rintro e w4 ⟨b5, s4, H4, rfl, r4⟩
  have r04 : RT R p s4 W0 w4 := ((r1.back r2).back r3).back r4
  have hR0 : ∀ k ∈ [R], k < W0.heap.size := by have := (h.new hoW).here.rlt; simpa using this
  have g1 := ((g1.next r2.only hR0).next r3.only hR0).next r4.only hR0
  have g2 := ((g2.next r2.only hR0).next r3.only hR0).next r4.only hR0
  have g3 := ((g3.mono r1.only.size).next r3.only hR0).next r4.only hR0
  have hb4 := r04.only.at hb hRX
  cases b5
  · have e0 := cell_al (cell_in hb4 0)
    have e1 := cell_al (cell_in hb4 1)
    have e2 := cell_al (cell_in hb4 2)
    have e3 := cell_al (cell_in hb4 3)
    have e4 := cell_al (cell_in hb4 4)
    have e5 := cell_al (cell_in hb4 5)
    have f0 := free_al (cell_in hb4 0) (free_in hb4 0)
    have f1 := free_al (cell_in hb4 1) (free_in hb4 1)
    have f2 := free_al (cell_in hb4 2) (free_in hb4 2)
    have f3 := free_al (cell_in hb4 3) (free_in hb4 3)
    have f4 := free_al (cell_in hb4 4) (free_in hb4 4)
    have f5 := free_al (cell_in hb4 5) (free_in hb4 5)
    go_wp2_with fail
    have hbV := (Only.alloc w4 (.cells #[.slice a1 x1.length c1, .slice a2 x2.length c2, .slice a3 x3.length c3, .int .u32 n4, .bool false, .int .u32 0] 90) []).at hb4 (by simp)
    have hoV := Only.alloc w4 (.cells #[.slice a1 x1.length c1, .slice a2 x2.length c2, .slice a3 x3.length c3, .int .u32 n4, .bool false, .int .u32 0] 90) []
    generalize hE : (((((((w4.alloc (.cells #[.slice a1 x1.length c1, .slice a2 x2.length c2, .slice a3 x3.length c3, .int .u32 n4, .bool false, .int .u32 0] 90)).setCell ⟨X, 0, none⟩ (.slice a1 x1.length c1)).setCell ⟨X, 1, none⟩ (.slice a2 x2.length c2)).setCell ⟨X, 2, none⟩ (.slice a3 x3.length c3)).setCell ⟨X, 3, none⟩ (.int .u32 n4)).setCell ⟨X, 4, none⟩ (.bool false)).setCell ⟨X, 5, none⟩ (.int .u32 0)) = wE
    have hE0 : wE = setAll (w4.alloc (.cells #[.slice a1 x1.length c1, .slice a2 x2.length c2, .slice a3 x3.length c3, .int .u32 n4, .bool false, .int .u32 0] 90)) X 0 [.slice a1 x1.length c1, .slice a2 x2.length c2, .slice a3 x3.length c3, .int .u32 n4, .bool false, .int .u32 0] := hE.symm
    clear hE
    have hoE : Only (w4.alloc (.cells #[.slice a1 x1.length c1, .slice a2 x2.length c2, .slice a3 x3.length c3, .int .u32 n4, .bool false, .int .u32 0] 90)) wE [X] := hE0 ▸ setAll_only _ _ _ _
    have hbE : wE.heap[X]? = _ := hE0 ▸ setAll_at _ 0 hbV
    have d0 : wE.cell? ⟨X, 0, none⟩ = some (.slice a1 x1.length c1) := (cell_in hbE 0).trans rfl
    have d1 : wE.cell? ⟨X, 1, none⟩ = some (.slice a2 x2.length c2) := (cell_in hbE 1).trans rfl
    have d2 : wE.cell? ⟨X, 2, none⟩ = some (.slice a3 x3.length c3) := (cell_in hbE 2).trans rfl
    have d3 : wE.cell? ⟨X, 3, none⟩ = some (.int .u32 n4) := (cell_in hbE 3).trans rfl
    have d4 : wE.cell? ⟨X, 4, none⟩ = some (.bool false) := (cell_in hbE 4).trans rfl
    have d5 : wE.cell? ⟨X, 5, none⟩ = some (.int .u32 0) := (cell_in hbE 5).trans rfl
    clear hE0
    have hX0 : ∀ k ∈ [X], k < W0.heap.size := by simpa using hX2
    refine bodyPost_ret (v := .agg #[.slice a1 x1.length c1, .slice a2 x2.length c2, .slice a3 x3.length c3, .int .u32 n4, .bool false, .int .u32 0]) (by simp [results, Try.results85, go_sem, d0, d1, d2, d3, d4, d5]) rfl ?_
    refine ⟨⟨x1, x2, x3, n4, false, 0⟩, s4, _, by simp [pH, H1.out, H2.out, H3.out, H4.out], rfl, ⟨_, _, _, rfl, ((GotH.next (L := []) ⟨g1, g2, g3, l1, l2, l3, ⟨lo4, hi4⟩, by simp [U32]⟩ hoV (by simp)).next hoE hX0).mono hoW.size⟩, (((h.new hoW).back r04).new hoV).keep hoE (by simpa using hWX)⟩
  · go_wp2_with fail
    obtain ⟨W5, Y, hW, hY, hy, hoY, hY1, hY2⟩ := new_block w4 (.cells #[.slice a1 x1.length c1, .slice a2 x2.length c2, .slice a3 x3.length c3, .int .u32 n4, .bool true, .int .u32 0] 90)
    rw [← hW, ← hY]
    clear hW hY
    have hRY : Y ∉ [R] := by have := r4.here.rlt; simp; omega
    refine (rnum_rt (r4.here.new hoY).here).mono ?_
    rintro e w5 ⟨n6, s5, H5, rfl, lo6, hi6, r5⟩
    have hy5 := r5.only.at hy hRY
    have hb5 := r5.only.at (hoY.at hb4 (by simp)) hRX
    have hne : X ≠ Y := by have := (Array.getElem?_eq_some_iff.1 hb4).1; omega
    have hne' : Y ≠ X := fun h => hne h.symm
    have y0 := cell_in hy5 0
    have y1 := cell_in hy5 1
    have y2 := cell_in hy5 2
    have y3 := cell_in hy5 3
    have y4 := cell_in hy5 4
    have y5 := cell_in hy5 5
    have yf0 := free_in hy5 0
    have yf1 := free_in hy5 1
    have yf2 := free_in hy5 2
    have yf3 := free_in hy5 3
    have yf4 := free_in hy5 4
    have yf5 := free_in hy5 5
    have x_0 := cell_in hb5 0
    have x_1 := cell_in hb5 1
    have x_2 := cell_in hb5 2
    have x_3 := cell_in hb5 3
    have x_4 := cell_in hb5 4
    have x_5 := cell_in hb5 5
    have xf0 := free_in hb5 0
    have xf1 := free_in hb5 1
    have xf2 := free_in hb5 2
    have xf3 := free_in hb5 3
    have xf4 := free_in hb5 4
    have xf5 := free_in hb5 5
    go_wp2_with fail
    have hoV : Only w5 (w5.setCell ⟨Y, 5, none⟩ (.int .u32 n6)) [Y] := Only.setCell _ _ _ _ (by simp)
    have hbV := hoV.at hb5 (by simpa using hne)
    generalize hE : (((((((w5.setCell ⟨Y, 5, none⟩ (.int .u32 n6)).setCell ⟨X, 0, none⟩ (.slice a1 x1.length c1)).setCell ⟨X, 1, none⟩ (.slice a2 x2.length c2)).setCell ⟨X, 2, none⟩ (.slice a3 x3.length c3)).setCell ⟨X, 3, none⟩ (.int .u32 n4)).setCell ⟨X, 4, none⟩ (.bool true)).setCell ⟨X, 5, none⟩ (.int .u32 n6)) = wE
    have hE0 : wE = setAll (w5.setCell ⟨Y, 5, none⟩ (.int .u32 n6)) X 0 [.slice a1 x1.length c1, .slice a2 x2.length c2, .slice a3 x3.length c3, .int .u32 n4, .bool true, .int .u32 n6] := hE.symm
    clear hE
    have hoE : Only (w5.setCell ⟨Y, 5, none⟩ (.int .u32 n6)) wE [X] := hE0 ▸ setAll_only _ _ _ _
    have hbE : wE.heap[X]? = _ := hE0 ▸ setAll_at _ 0 hbV
    have d0 : wE.cell? ⟨X, 0, none⟩ = some (.slice a1 x1.length c1) := (cell_in hbE 0).trans rfl
    have d1 : wE.cell? ⟨X, 1, none⟩ = some (.slice a2 x2.length c2) := (cell_in hbE 1).trans rfl
    have d2 : wE.cell? ⟨X, 2, none⟩ = some (.slice a3 x3.length c3) := (cell_in hbE 2).trans rfl
    have d3 : wE.cell? ⟨X, 3, none⟩ = some (.int .u32 n4) := (cell_in hbE 3).trans rfl
    have d4 : wE.cell? ⟨X, 4, none⟩ = some (.bool true) := (cell_in hbE 4).trans rfl
    have d5 : wE.cell? ⟨X, 5, none⟩ = some (.int .u32 n6) := (cell_in hbE 5).trans rfl
    clear hE0
    have hX0 : ∀ k ∈ [X], k < W0.heap.size := by simpa using hX2
    refine bodyPost_ret (v := .agg #[.slice a1 x1.length c1, .slice a2 x2.length c2, .slice a3 x3.length c3, .int .u32 n4, .bool true, .int .u32 n6]) (by simp [results, Try.results85, go_sem, d0, d1, d2, d3, d4, d5]) rfl ?_
    have hWY : ∀ k ∈ [Y], W0.heap.size ≤ k := by have := r04.only.size; simp; omega
    have hRr := hR0 R (by simp)
    have hoT : Only w4 wE [R, Y, X] := (((hoY.mono (by simp)).trans (r5.only.mono (fun k _ hk => by simp at hk; simp [hk]))).trans (hoV.mono (fun k _ hk => by simp at hk; simp [hk]))).trans (hoE.mono (fun k _ hk => by simp at hk; simp [hk]))
    have k2 := (GotH.mk (W := W0) (w := w4) (a := ⟨x1, x2, x3, n4, true, n6⟩) g1 g2 g3 l1 l2 l3 ⟨lo4, hi4⟩ ⟨lo6, hi6⟩).keep hoT (by simp; omega)
    exact ⟨⟨x1, x2, x3, n4, true, n6⟩, s5, _, by simp [pH, H1.out, H2.out, H3.out, H4.out, H5.out], rfl, ⟨_, _, _, rfl, k2.mono hoW.size⟩, ((((h.new hoW).back r04).back ((r4.here.new hoY).back r5)).keep hoV (fun k hk => Nat.le_trans (Nat.le_trans h.only.size hoW.size) (hWY k hk))).keep hoE (by simpa using hWX)⟩

end Go.Proofs.Ytdlbkdnpbcpjfaa

/- The contract of package envelope's DecodeInner at any bytes, fewer than 1000000001 of them. -/
namespace Go.Proofs.Ytdlbkdnpbcpjfaa
open Go.RowKit Go.Pw
set_option linter.unusedVariables false
set_option maxRecDepth 100000

theorem rend_rt {R : Nat} {p : Value} {s : List Int × Bool} {W w : World} (h : RT R p s W w) :
    Calls Try.prog 55 #[.pointer (some ⟨R, 0, none⟩)] w fun e w' => e = .returned (.bool (!s.2 && decide (s.1.length = 0))) ∧ w = w' := by
  obtain ⟨⟨p1, h1, h2⟩, h3⟩ := id h.rs
  exact rend_any R p1 s.1 s.2 w h2

/-- A Reader made anew. -/
theorem rt_new {w w' : World} {R : Nat} {ao : Option Addr} {c : Nat} {ps : List Int} (h : Rd w (.slice ao ps.length c) ps) (hb : Byt ps) (hl : ps.length ≤ 1000000000) (ho : Only w w' []) (hR : w'.heap[R]? = some (.cells #[.slice ao ps.length c, .bool false] 131 (0, 0))) : RT R (.slice ao ps.length c) (ps, false) w' w' :=
  ⟨⟨⟨_, rfl, hR, h.new ho, hb⟩, Only.refl _ _⟩, hl, Nat.le_refl _, fun hm k hk => Nat.lt_of_lt_of_le (Src.lt h (by decide) hm k hk) ho.size, (Array.getElem?_eq_some_iff.1 hR).1⟩

/-- All was read, without a fault. -/
def Ends (s : List Int × Bool) : Bool := !s.2 && decide (s.1.length = 0)

def pInner (s : List Int × Bool) : (Int × Int × List Int) × List Int × Bool :=
  let a := pN s
  let b := pN a.2
  let c := pB b.2
  ((a.1, b.1, c.1), c.2)

/-- What DecodeInner answers. -/
def DecI (ps : List Int) (w : World) (e : Ending) (w' : World) : Prop :=
  ∃ u n ts s, pInner (ps, false) = ((u, n, ts), s) ∧ U32 u ∧ U32 n ∧ Byt ts ∧ Only w w' [] ∧
    ((Ends s = true ∧ ts.length ≤ 256 ∧ ∃ vt, e = .returned (.tuple #[.agg #[.int .i64 u, .int .u32 n, vt], .int .i64 0]) ∧ Got w w' vt ts) ∨
     (Ends s = true ∧ 256 < ts.length ∧ e = .returned (.tuple #[.agg #[.int .i64 0, .int .u32 0, .slice none 0 0], .int .i64 5])) ∨
     (Ends s = false ∧ e = .returned (.tuple #[.agg #[.int .i64 0, .int .u32 0, .slice none 0 0], .int .i64 4])))

end Go.Proofs.Ytdlbkdnpbcpjfaa

/- Plain laws of layer 14: what is laid is read back. -/
namespace Go.Proofs.Ytdlbkdnpbcpjfaa
open Go.RowKit Go.Pw
set_option linter.unusedVariables false
set_option maxRecDepth 100000

theorem pN_be (n : Int) (l : List Int) (h : U32 n) : pN (be n 4 ++ l, false) = (n, l, false) := RN_be n 4 l h.1 (by rw [pow4]; exact h.2) (by decide)
theorem pB_be (ps l : List Int) (h : ps.length ≤ 65536) : pB (be ps.length 4 ++ ps ++ l, false) = (ps, l, false) := by
  obtain ⟨h1, h2, h3, h4⟩ := RB_be ps l 65536 (by omega) (by omega)
  unfold pB
  simp only
  rw [h1]
  simp only
  rw [h2, h3, h4]
theorem pB_be0 (ps : List Int) (h : ps.length ≤ 65536) : pB (be ps.length 4 ++ ps, false) = (ps, [], false) := by
  have := pB_be ps [] h
  simpa using this
theorem be_one (n : Int) (h0 : 0 ≤ n) (h1 : n < 256) : be n 1 = [n] := by
  simp [be]; omega
theorem pF_be (b : Bool) (l : List Int) : pF ([if b then 1 else 0] ++ l, false) = (b, l, false) := by
  have h : RN 1 ([if b then 1 else 0] ++ l) false = ((if b then 1 else 0), l, false) := by
    have := RN_be (if b then 1 else 0) 1 l (by cases b <;> decide) (by cases b <;> decide) (by decide)
    rwa [be_one _ (by cases b <;> decide) (by cases b <;> decide)] at this
  unfold pF
  simp only
  rw [h]
  cases b <;> rfl

theorem u32_u (u : Int) : U32 (IntKind.u32.wrap u) := ⟨u32_lo u, by simp [IntKind.wrap, IntKind.bits, IntKind.signed]; omega⟩

theorem pInner_be (u n : Int) (ts : List Int) (hn : U32 n) (ht : ts.length ≤ 65536) : pInner (innerB u n ts, false) = ((IntKind.u32.wrap u, n, ts), [], false) := by
  have e : innerB u n ts = be (IntKind.u32.wrap u) 4 ++ (be n 4 ++ (be ts.length 4 ++ ts)) := by simp [innerB]
  unfold pInner
  rw [e]
  simp only
  rw [pN_be _ _ (u32_u u)]
  simp only
  rw [pN_be _ _ hn]
  simp only
  rw [pB_be0 ts ht]

theorem innerB_byt (u n : Int) (ts : List Int) (h : Byt ts) : Byt (innerB u n ts) := (((be_byt _ _).app (be_byt _ _)).app (be_byt _ _)).app h
theorem innerB_len (u n : Int) (ts : List Int) : (innerB u n ts).length = ts.length + 12 := by simp [innerB, be_len]; omega
end Go.Proofs.Ytdlbkdnpbcpjfaa

/- The contract of envelope.ReadHello at any bytes; what Hello has laid is read back. -/
namespace Go.Proofs.Ytdlbkdnpbcpjfaa
open Go.RowKit Go.Pw
set_option linter.unusedVariables false
set_option maxRecDepth 100000

/-- What ReadHello answers. -/
def DecH (ps : List Int) (w : World) (e : Ending) (w' : World) : Prop :=
  ∃ a s, pH (ps, false) = (a, s) ∧ Only w w' [] ∧
    ((Ends s = true ∧ ∃ va vs vk, e = .returned (.tuple #[.agg #[va, vs, vk, .int .u32 a.signed, .bool a.has, .int .u32 a.once], .int .i64 0]) ∧ GotH w w' a va vs vk) ∨
     (Ends s = false ∧ e = .returned (.tuple #[.agg #[.slice none 0 0, .slice none 0 0, .slice none 0 0, .int .u32 0, .bool false, .int .u32 0], .int .i64 4])))

set_option maxRecDepth 100000 in
set_option maxHeartbeats 1600000 in
theorem dechello_any (p : Value) (ps : List Int) (w : World) (hp : Rd w p ps) (hb : Byt ps) (hl : ps.length ≤ 1000000000) :
    Calls Try.prog 74 #[p] w (DecH ps w) := by
  obtain ⟨ao, c, rfl⟩ := hp.slice
  go_enter Try.func74, Try.ntmps74
  go_wp2_with fail
  obtain ⟨W0, X, hW, hX, hbX, hoW, hX1, hX2⟩ := new_block w (.cells #[.slice none 0 0, .slice none 0 0, .slice none 0 0, .int .u32 0, .bool false, .int .u32 0] 90)
  rw [← hW, ← hX]
  have hs0 : W0.heap.size = X + 1 := by rw [hW, hX]; simp
  clear hW hX
  refine (rread_any _ _ _ _).mono ?_
  rintro e W1' ⟨rfl, rfl⟩
  obtain ⟨W1, R, hW, hR, hbR, hoR, hR1, hR2⟩ := new_block W0 (.cells #[.slice ao ps.length c, .bool false] 131)
  rw [← hW, ← hR]
  clear hW hR
  have r0 := rt_new hp hb hl (hoW.trans hoR) hbR
  have hXR : X ≠ R := by omega
  go_wp2_with fail
  refine (readhello_rt r0).mono ?_
  rintro e w1 ⟨a, s1, v1, H1, rfl, ⟨va, vs, vk, rfl, g1⟩, r1⟩
  obtain ⟨⟨aa, ca, rfl⟩, _⟩ := id g1.ga
  obtain ⟨⟨az, cz, rfl⟩, _⟩ := id g1.gs
  obtain ⟨⟨ak, ck, rfl⟩, _⟩ := id g1.gk
  have H1 := Lib.hid H1
  have hX3 := r1.only.at (hoR.at hbX (by simp)) (by simpa using hXR)
  go_wp2_with fail
  obtain ⟨W5, Y, hW, hY, hy, hoY, hY1, hY2⟩ := new_block w1 (.cells #[.slice aa a.ag.length ca, .slice az a.sg.length cz, .slice ak a.key.length ck, .int .u32 a.signed, .bool a.has, .int .u32 a.once] 90)
  rw [← hW, ← hY]
  clear hW hY
  have hlt3 := (Array.getElem?_eq_some_iff.1 hX3).1
  have hne : X ≠ Y := by omega
  have hne' : Y ≠ X := fun h => hne h.symm
  have hXV := hoY.at hX3 (by simp)
  refine (rend_rt (r1.new hoY)).mono ?_
  rintro e w5 ⟨rfl, rfl⟩
  have hoT : Only w W5 [] := (((hoW.trans hoR).step r1.only (fun k hk => .inr (by simp at hk; subst hk; exact Nat.le_trans hoW.size hR1))).trans hoY)
  have gT := g1.keep hoY (by simp)
  have hw1 : w.heap.size ≤ W1.heap.size := (hoW.trans hoR).size
  have hX2p : X < W1.heap.size := by have := hoR.size; omega
  obtain ⟨eb, heb⟩ : ∃ eb, eb = (!s1.2 && decide (s1.1.length = 0)) := ⟨_, rfl⟩
  rw [← heb]
  have Heb := Lib.hid heb
  clear heb hb hp hbX hX3 g1
  have y0 := cell_in hy 0
  have y1 := cell_in hy 1
  have y2 := cell_in hy 2
  have y3 := cell_in hy 3
  have y4 := cell_in hy 4
  have y5 := cell_in hy 5
  have x_0 := cell_in hXV 0
  have x_1 := cell_in hXV 1
  have x_2 := cell_in hXV 2
  have x_3 := cell_in hXV 3
  have x_4 := cell_in hXV 4
  have x_5 := cell_in hXV 5
  have xf0 := free_in hXV 0
  have xf1 := free_in hXV 1
  have xf2 := free_in hXV 2
  have xf3 := free_in hXV 3
  have xf4 := free_in hXV 4
  have xf5 := free_in hXV 5
  cases eb
  · go_wp2_with fail
    have hE0 : ((((((W5.setCell ⟨X, 0, none⟩ (.slice none 0 0)).setCell ⟨X, 1, none⟩ (.slice none 0 0)).setCell ⟨X, 2, none⟩ (.slice none 0 0)).setCell ⟨X, 3, none⟩ (.int .u32 0)).setCell ⟨X, 4, none⟩ (.bool false)).setCell ⟨X, 5, none⟩ (.int .u32 0)) = setAll W5 X 0 [.slice none 0 0, .slice none 0 0, .slice none 0 0, .int .u32 0, .bool false, .int .u32 0] := rfl
    rw [hE0]
    have hoE := setAll_only X [.slice none 0 0, .slice none 0 0, .slice none 0 0, .int .u32 0, .bool false, .int .u32 0] W5 0
    have hbE := setAll_at [.slice none 0 0, .slice none 0 0, .slice none 0 0, .int .u32 0, .bool false, .int .u32 0] 0 hXV
    generalize setAll W5 X 0 [.slice none 0 0, .slice none 0 0, .slice none 0 0, .int .u32 0, .bool false, .int .u32 0] = wE at *
    have d0 : wE.cell? ⟨X, 0, none⟩ = some (.slice none 0 0) := (cell_in hbE 0).trans rfl
    have d1 : wE.cell? ⟨X, 1, none⟩ = some (.slice none 0 0) := (cell_in hbE 1).trans rfl
    have d2 : wE.cell? ⟨X, 2, none⟩ = some (.slice none 0 0) := (cell_in hbE 2).trans rfl
    have d3 : wE.cell? ⟨X, 3, none⟩ = some (.int .u32 0) := (cell_in hbE 3).trans rfl
    have d4 : wE.cell? ⟨X, 4, none⟩ = some (.bool false) := (cell_in hbE 4).trans rfl
    have d5 : wE.cell? ⟨X, 5, none⟩ = some (.int .u32 0) := (cell_in hbE 5).trans rfl
    clear hE0
    refine bodyPost_ret (v := .tuple #[.agg #[.slice none 0 0, .slice none 0 0, .slice none 0 0, .int .u32 0, .bool false, .int .u32 0], .int .i64 4]) (by simp [results, Try.results74, go_sem, d0, d1, d2, d3, d4, d5]) rfl ?_
    exact ⟨a, s1, H1.out, hoT.new hoE (by simpa using hX1), .inr ⟨Heb.out.symm, rfl⟩⟩
  · go_wp2_with fail
    have hE0 : ((((((W5.setCell ⟨X, 0, none⟩ (.slice aa a.ag.length ca)).setCell ⟨X, 1, none⟩ (.slice az a.sg.length cz)).setCell ⟨X, 2, none⟩ (.slice ak a.key.length ck)).setCell ⟨X, 3, none⟩ (.int .u32 a.signed)).setCell ⟨X, 4, none⟩ (.bool a.has)).setCell ⟨X, 5, none⟩ (.int .u32 a.once)) = setAll W5 X 0 [.slice aa a.ag.length ca, .slice az a.sg.length cz, .slice ak a.key.length ck, .int .u32 a.signed, .bool a.has, .int .u32 a.once] := rfl
    rw [hE0]
    have hoE := setAll_only X [.slice aa a.ag.length ca, .slice az a.sg.length cz, .slice ak a.key.length ck, .int .u32 a.signed, .bool a.has, .int .u32 a.once] W5 0
    have hbE := setAll_at [.slice aa a.ag.length ca, .slice az a.sg.length cz, .slice ak a.key.length ck, .int .u32 a.signed, .bool a.has, .int .u32 a.once] 0 hXV
    generalize setAll W5 X 0 [.slice aa a.ag.length ca, .slice az a.sg.length cz, .slice ak a.key.length ck, .int .u32 a.signed, .bool a.has, .int .u32 a.once] = wE at *
    have d0 : wE.cell? ⟨X, 0, none⟩ = some (.slice aa a.ag.length ca) := (cell_in hbE 0).trans rfl
    have d1 : wE.cell? ⟨X, 1, none⟩ = some (.slice az a.sg.length cz) := (cell_in hbE 1).trans rfl
    have d2 : wE.cell? ⟨X, 2, none⟩ = some (.slice ak a.key.length ck) := (cell_in hbE 2).trans rfl
    have d3 : wE.cell? ⟨X, 3, none⟩ = some (.int .u32 a.signed) := (cell_in hbE 3).trans rfl
    have d4 : wE.cell? ⟨X, 4, none⟩ = some (.bool a.has) := (cell_in hbE 4).trans rfl
    have d5 : wE.cell? ⟨X, 5, none⟩ = some (.int .u32 a.once) := (cell_in hbE 5).trans rfl
    clear hE0
    refine bodyPost_ret (v := .tuple #[.agg #[.slice aa a.ag.length ca, .slice az a.sg.length cz, .slice ak a.key.length ck, .int .u32 a.signed, .bool a.has, .int .u32 a.once], .int .i64 0]) (by simp [results, Try.results74, go_sem, d0, d1, d2, d3, d4, d5]) rfl ?_
    exact ⟨a, s1, H1.out, hoT.new hoE (by simpa using hX1), .inl ⟨Heb.out.symm, _, _, _, rfl, (gT.keep hoE (by simpa using .inl hX2p)).mono hw1⟩⟩

/-- What Hello has laid is read back. -/
theorem pI_be (a s l : List Int) (ha : a.length ≤ 65536) (hs : s.length ≤ 65536) : pI (identB a s ++ l, false) = ((a, s), l, false) := by
  have e : identB a s ++ l = be a.length 4 ++ a ++ (be s.length 4 ++ s ++ l) := by simp [identB]
  unfold pI
  rw [e]
  simp only
  rw [pB_be a _ ha]
  simp only
  rw [pB_be s _ hs]
theorem pH_be (a s k l : List Int) (sg : Int) (has : Bool) (on : Int) (ha : a.length ≤ 65536) (hs : s.length ≤ 65536) (hk : k.length ≤ 65536) (hsg : U32 sg) (hon : U32 on) :
    pH (helloB a s k sg has on ++ l, false) = (⟨a, s, k, sg, has, if has then on else 0⟩, l, false) := by
  have e : helloB a s k sg has on ++ l = identB a s ++ (be k.length 4 ++ k ++ (be sg 4 ++ ([if has then 1 else 0] ++ ((if has then be on 4 else []) ++ l)))) := by simp [helloB]
  unfold pH
  rw [e]
  simp only
  rw [pI_be a s _ ha hs]
  simp only
  rw [pB_be k _ hk]
  simp only
  rw [pN_be sg _ hsg]
  simp only
  rw [pF_be has]
  cases has
  · simp
  · simp only [if_true]
    rw [pN_be on _ hon]
end Go.Proofs.Ytdlbkdnpbcpjfaa

/- Bytes of layer 14 are bytes. -/
namespace Go.Proofs.Ytdlbkdnpbcpjfaa
open Go.RowKit Go.Pw
set_option linter.unusedVariables false

theorem byt_flag (b : Bool) : Byt [if b then (1 : Int) else 0] := by
  intro x hx
  cases b <;> simp at hx <;> subst hx <;> decide
theorem byt_if {b : Bool} {l : List Int} (h : Byt l) : Byt (if b then l else []) := by
  cases b
  · exact Byt.nil
  · exact h
theorem byt_ident {a s : List Int} (ha : Byt a) (hs : Byt s) : Byt (identB a s) := (((be_byt _ _).app ha).app (be_byt _ _)).app hs
theorem byt_hello {a s k : List Int} (sg : Int) (hh : Bool) (on : Int) (ha : Byt a) (hs : Byt s) (hk : Byt k) : Byt (helloB a s k sg hh on) :=
  (((((byt_ident ha hs).app (be_byt _ _)).app hk).app (be_byt _ _)).app (byt_flag _)).app (byt_if (be_byt _ _))
end Go.Proofs.Ytdlbkdnpbcpjfaa

/- Plain laws of layer 14's readings: what ends well was just the bytes of what was read. -/
namespace Go.Proofs.Ytdlbkdnpbcpjfaa
open Go.RowKit Go.Pw
set_option linter.unusedVariables false

theorem ofbe_inj : ∀ (a b : List Int), a.length = b.length → Byt a → Byt b → ofbe a = ofbe b → a = b
  | [], [], _, _, _, _ => rfl
  | [], _ :: _, h, _, _, _ => by simp at h
  | _ :: _, [], h, _, _, _ => by simp at h
  | x :: a, y :: b, h, ha, hb, he => by
    have hl : a.length = b.length := by simpa using h
    have ha' : Byt a := fun z hz => ha z (by simp [hz])
    have hb' : Byt b := fun z hz => hb z (by simp [hz])
    rw [ofbe_cons, ofbe_cons, hl] at he
    have h1 := ofbe_bd a ha'
    have h2 := ofbe_bd b hb'
    rw [hl] at h1
    have hp : (0 : Int) < 256 ^ b.length := Int.pow_pos (by decide)
    generalize (256 : Int) ^ b.length = m at *
    have hxy : x = y := by
      have e1 : (x * m + ofbe a) / m = x := by rw [Int.add_comm, Int.add_mul_ediv_right _ _ (by omega), Int.ediv_eq_zero_of_lt h1.1 h1.2, Int.zero_add]
      have e2 : (y * m + ofbe b) / m = y := by rw [Int.add_comm, Int.add_mul_ediv_right _ _ (by omega), Int.ediv_eq_zero_of_lt h2.1 h2.2, Int.zero_add]
      rw [← e1, he, e2]
    subst hxy
    rw [ofbe_inj a b hl ha' hb' (by omega)]

theorem be_ofbe (l : List Int) (h : Byt l) : be (ofbe l) l.length = l := by
  refine ofbe_inj _ _ (be_len _ _) (be_byt _ _) h ?_
  have := ofbe_bd l h
  rw [ofbe_be _ _ this.1, Int.emod_eq_of_lt this.1 this.2]

theorem rn_inv {k : Nat} {l : List Int} {b : Bool} (hb : Byt l) (h : (RN k l b).2.2 = false) : b = false ∧ l = be (RN k l b).1 k ++ (RN k l b).2.1 := by
  unfold RN at h ⊢
  split at h
  · rename_i hc
    rw [if_pos hc]
    refine ⟨hc.1, ?_⟩
    have hk : (l.take k).length = k := by simp; omega
    have := be_ofbe (l.take k) (fun y hy => hb y (List.mem_of_mem_take hy))
    rw [hk] at this
    simp only [Int.toNat_natCast]
    rw [this, List.take_append_drop]
  · cases h

theorem pN_byt {s : List Int × Bool} (h : Byt s.1) : Byt (pN s).2.1 ∧ U32 (pN s).1 := by
  have := RN_bd 4 s.1 s.2 h
  exact ⟨this.2.2.2, this.1, this.2.1⟩
theorem pN_inv {s : List Int × Bool} (hb : Byt s.1) (h : (pN s).2.2 = false) : s.2 = false ∧ s.1 = be (pN s).1 4 ++ (pN s).2.1 := rn_inv (k := 4) hb h

theorem pB_byt {s : List Int × Bool} (h : Byt s.1) : Byt (pB s).2.1 ∧ Byt (pB s).1 := by
  have hr := (RN_bd 4 s.1 s.2 h).2.2.2
  simp only [show ((4 : Nat) : Int) = 4 from rfl] at hr
  unfold pB
  simp only
  constructor
  · unfold BR; split
    · exact hr
    · exact fun y hy => hr y (List.mem_of_mem_drop hy)
  · unfold BV; split
    · exact Byt.nil
    · exact fun y hy => hr y (List.mem_of_mem_take hy)
theorem pB_inv {s : List Int × Bool} (hb : Byt s.1) (h : (pB s).2.2 = false) : s.2 = false ∧ s.1 = be (pB s).1.length 4 ++ (pB s).1 ++ (pB s).2.1 := by
  have h' : BF (RN 4 s.1 s.2).2.2 65536 (RN 4 s.1 s.2).1 (RN 4 s.1 s.2).2.1.length = false := h
  have hbd := RN_bd 4 s.1 s.2 hb
  have hi := rn_inv (k := 4) (b := s.2) hb
  simp only [show ((4 : Nat) : Int) = 4 from rfl] at hbd hi
  unfold pB
  simp only
  rw [h']
  generalize RN 4 s.1 s.2 = r at *
  obtain ⟨n, l, b⟩ := r
  simp only at h' hbd hi ⊢
  simp only [BF, Bool.or_eq_false_iff, decide_eq_false_iff_not] at h'
  obtain ⟨⟨⟨rfl, _⟩, h65⟩, hl⟩ := h'
  obtain ⟨h1, h2⟩ := hi rfl
  obtain ⟨m, rfl⟩ := Int.eq_ofNat_of_zero_le hbd.1
  refine ⟨h1, ?_⟩
  simp only [BV, BR, Bool.false_eq_true, if_false, Int.toNat_natCast]
  rw [show (l.take m).length = m by simp; omega, List.append_assoc, List.take_append_drop]
  exact h2

theorem pF_byt {s : List Int × Bool} (h : Byt s.1) : Byt (pF s).2.1 := (RN_bd 1 s.1 s.2 h).2.2.2
theorem pF_inv {s : List Int × Bool} (hb : Byt s.1) (h : (pF s).2.2 = false) : s.2 = false ∧ s.1 = [if (pF s).1 then 1 else 0] ++ (pF s).2.1 := by
  have h' : FB (RN 1 s.1 s.2).2.2 1 (RN 1 s.1 s.2).1 = false := h
  have hbd := RN_bd 1 s.1 s.2 hb
  have hi := rn_inv (k := 1) (b := s.2) hb
  simp only [show ((1 : Nat) : Int) = 1 from rfl] at hbd hi
  unfold pF
  simp only
  generalize RN 1 s.1 s.2 = r at *
  obtain ⟨n, l, b⟩ := r
  simp only at h' hbd hi ⊢
  simp only [FB, Bool.or_eq_false_iff, decide_eq_false_iff_not] at h'
  obtain ⟨rfl, hn⟩ := h'
  obtain ⟨h1, h2⟩ := hi rfl
  refine ⟨h1, ?_⟩
  rw [be_one n hbd.1 (by omega)] at h2
  rw [h2]
  rcases (by omega : n = 0 ∨ n = 1) with rfl | rfl <;> simp [FV]

theorem wrap_u32 {u : Int} (h : U32 u) : IntKind.u32.wrap u = u := by
  have := h.1; have := h.2
  simp [IntKind.wrap, IntKind.bits, IntKind.signed]
  omega

theorem pW_byt {s : List Int × Bool} (h : Byt s.1) : Byt (pW s).2.1 := (pN_byt (pN_byt h).1).1
theorem pW_inv {s : List Int × Bool} (hb : Byt s.1) (h : (pW s).2.2 = false) : s.2 = false ∧ s.1 = whoB (pW s).1.1 (pW s).1.2 ++ (pW s).2.1 := by
  obtain ⟨h1, h2⟩ := pN_inv (pN_byt hb).1 h
  obtain ⟨h3, h4⟩ := pN_inv hb h1
  refine ⟨h3, ?_⟩
  show s.1 = (be (IntKind.u32.wrap (pN s).1) 4 ++ be (IntKind.u32.wrap (pN (pN s).2).1) 4) ++ (pN (pN s).2).2.1
  rw [wrap_u32 (pN_byt hb).2, wrap_u32 (pN_byt (pN_byt hb).1).2, List.append_assoc, ← h2]
  exact h4

theorem pI_byt {s : List Int × Bool} (h : Byt s.1) : Byt (pI s).2.1 := (pB_byt (pB_byt h).1).1
theorem pI_inv {s : List Int × Bool} (hb : Byt s.1) (h : (pI s).2.2 = false) : s.2 = false ∧ s.1 = identB (pI s).1.1 (pI s).1.2 ++ (pI s).2.1 := by
  obtain ⟨h1, h2⟩ := pB_inv (pB_byt hb).1 h
  obtain ⟨h3, h4⟩ := pB_inv hb h1
  refine ⟨h3, ?_⟩
  show s.1 = identB (pB s).1 (pB (pB s).2).1 ++ (pB (pB s).2).2.1
  rw [h4]
  conv => lhs; rw [h2]
  simp [identB]

theorem pH_byt {s : List Int × Bool} (h : Byt s.1) : Byt (pH s).2.1 := by
  have hf := pF_byt (pN_byt (pB_byt (pI_byt h)).1).1
  unfold pH
  simp only
  split
  · exact (pN_byt hf).1
  · exact hf
theorem pH_inv {s : List Int × Bool} (hb : Byt s.1) (h : (pH s).2.2 = false) : s.2 = false ∧ s.1 = helloB (pH s).1.ag (pH s).1.sg (pH s).1.key (pH s).1.signed (pH s).1.has (pH s).1.once ++ (pH s).2.1 := by
  have b1 := pI_byt hb
  have b2 := (pB_byt b1).1
  have b3 := (pN_byt b2).1
  have b4 := pF_byt b3
  by_cases hf : (pF (pN (pB (pI s).2).2).2).1 = true
  · have e : pH s = (⟨(pI s).1.1, (pI s).1.2, (pB (pI s).2).1, (pN (pB (pI s).2).2).1, true, (pN (pF (pN (pB (pI s).2).2).2).2).1⟩, (pN (pF (pN (pB (pI s).2).2).2).2).2) := by
      unfold pH
      simp only
      rw [if_pos hf]
    rw [e] at h ⊢
    simp only at h ⊢
    obtain ⟨g4, k4⟩ := pN_inv b4 h
    obtain ⟨g3, k3⟩ := pF_inv b3 g4
    obtain ⟨g2, k2⟩ := pN_inv b2 g3
    obtain ⟨g1, k1⟩ := pB_inv b1 g2
    obtain ⟨g0, k0⟩ := pI_inv hb g1
    refine ⟨g0, ?_⟩
    rw [k0]
    conv => lhs; rw [k1, k2, k3, k4, hf]
    simp [helloB]
  · have e : pH s = (⟨(pI s).1.1, (pI s).1.2, (pB (pI s).2).1, (pN (pB (pI s).2).2).1, false, 0⟩, (pF (pN (pB (pI s).2).2).2).2) := by
      unfold pH
      simp only
      rw [if_neg hf]
    have hf : (pF (pN (pB (pI s).2).2).2).1 = false := by simpa using hf
    rw [e] at h ⊢
    simp only at h ⊢
    obtain ⟨g3, k3⟩ := pF_inv b3 h
    obtain ⟨g2, k2⟩ := pN_inv b2 g3
    obtain ⟨g1, k1⟩ := pB_inv b1 g2
    obtain ⟨g0, k0⟩ := pI_inv hb g1
    refine ⟨g0, ?_⟩
    rw [k0]
    conv => lhs; rw [k1, k2, k3, hf]
    simp [helloB]

theorem ends_inv {s : List Int × Bool} (h : Ends s = true) : s.2 = false ∧ s.1 = [] := by
  simp only [Ends, Bool.and_eq_true, Bool.not_eq_true', decide_eq_true_eq] at h
  exact ⟨h.1, List.eq_nil_of_length_eq_zero h.2⟩

theorem pInner_inv {ps : List Int} (hb : Byt ps) {u n : Int} {ts : List Int} {s : List Int × Bool} (h : pInner (ps, false) = ((u, n, ts), s)) (he : Ends s = true) : ps = innerB u n ts := by
  obtain ⟨e1, e2⟩ := ends_inv he
  have hs : (pB (pN (pN (ps, false)).2).2).2 = s := congrArg Prod.snd h
  have hv : ((pN (ps, false)).1, (pN (pN (ps, false)).2).1, (pB (pN (pN (ps, false)).2).2).1) = (u, n, ts) := congrArg Prod.fst h
  simp only [Prod.mk.injEq] at hv
  obtain ⟨rfl, rfl, rfl⟩ := hv
  subst hs
  have b1 := pN_byt (s := (ps, false)) hb
  have b2 := pN_byt b1.1
  obtain ⟨g2, k2⟩ := pB_inv b2.1 e1
  obtain ⟨g1, k1⟩ := pN_inv b1.1 g2
  obtain ⟨g0, k0⟩ := pN_inv (s := (ps, false)) hb g1
  rw [e2, List.append_nil] at k2
  rw [innerB, wrap_u32 b1.2]
  have k0 : ps = be (pN (ps, false)).1 4 ++ (pN (ps, false)).2.1 := k0
  conv => lhs; rw [k0, k1, k2]
  simp
end Go.Proofs.Ytdlbkdnpbcpjfaa

