/- What a book's bytes are made of (layer 16), and slices that lie between two places of the heap. No walk. -/
import Derived.Test.YtdlbkdnpbcpjfaaPg
import Derived.Test.YtdlbkdnpbcpjfaaPk
import Derived.Test.YtdlbkdnpbcpjfaaPd
import Derived.Test.YtdlbkdnpbcpjfaaPh
set_option linter.unusedSimpArgs false
set_option linter.unusedVariables false
namespace Go.Proofs.Ytdlbkdnpbcpjfaa
open Go.RowKit Go.Pw
set_option linter.unusedVariables false

/-- A key that was skipped; a ratchet's state; a session; a record: what they are. -/
structure KD where
  of : List Int
  n : Int
  key : List Int
structure TD where
  own : List Int
  their : List Int
  root : List Int
  sk : List Int
  sn : Int
  tk : List Int
  tn : Int
  prev : Int
  l : List KD
structure ED where
  id : List Int
  wth : List Int
  tell : Bool
  h : HelloD
  t : TD
structure RD where
  u : Int
  d : Int
  ag : List Int
  sg : List Int
  stale : Bool
  k : Int
  q : List ED
def lb (xs : List Int) : List Int := be xs.length 4 ++ xs
def skB (x : KD) : List Int := lb x.of ++ be x.n 4 ++ lb x.key
def stoB (l : List KD) : List Int := be l.length 2 ++ l.flatMap skB
def staB (x : TD) : List Int := lb x.own ++ lb x.their ++ lb x.root ++ (lb x.sk ++ be x.sn 4) ++ (lb x.tk ++ be x.tn 4) ++ be x.prev 4 ++ stoB x.l
def hB (h : HelloD) : List Int := helloB h.ag h.sg h.key h.signed h.has h.once
def seB (x : ED) : List Int := lb x.id ++ lb x.wth ++ [if x.tell then 1 else 0] ++ lb (hB x.h) ++ staB x.t
def quB (l : List ED) : List Int := be l.length 2 ++ l.flatMap seB
def rcB (x : RD) : List Int := be x.u 4 ++ be x.d 4 ++ lb x.ag ++ lb x.sg ++ [if x.stale then 1 else 0] ++ be x.k 8 ++ quB x.q
def bkB (l : List RD) : List Int := be l.length 2 ++ l.flatMap rcB
theorem lb_len (xs : List Int) : (lb xs).length = xs.length + 4 := by simp [lb, be_len]; omega

/-- Bytes that lie between the blocks a and b (or nowhere). -/
def RdI (a b : Nat) (w : World) (v : Value) (xs : List Int) : Prop := Rd w v xs ∧ (0 < slen v → ∀ k, v.ownBlock = some k → a ≤ k ∧ k < b) ∧ xs.length ≤ 65536 ∧ Byt xs
/-- A row of records that lies so. -/
def SrcI (a b : Nat) (w : World) (v : Value) (size m : Nat) (news : List Value) : Prop := Pw.Src w v size m news ∧ ∀ k, v.ownBlock = some k → a ≤ k ∧ k < b
theorem off_of {a b : Nat} {v : Value} {L : List Nat} (h : 0 < slen v → ∀ k, v.ownBlock = some k → a ≤ k ∧ k < b) (hL : ∀ k ∈ L, k < a ∨ b ≤ k) : Off v L := fun hm k hk hkL => by
  have := h hm k hk
  have := hL k hkL
  omega
theorem RdI.keep {a b : Nat} {w w' : World} {v : Value} {xs : List Int} {L : List Nat} (h : RdI a b w v xs) (ho : Only w w' L) (hL : ∀ k ∈ L, k < a ∨ b ≤ k) : RdI a b w' v xs :=
  ⟨Src.off h.1 ho (off_of h.2.1 hL), h.2⟩
theorem RdI.wide {a b a' b' : Nat} {w : World} {v : Value} {xs : List Int} (h : RdI a b w v xs) (ha : a' ≤ a) (hb : b ≤ b') : RdI a' b' w v xs :=
  ⟨h.1, fun hm k hk => by have := h.2.1 hm k hk; omega, h.2.2⟩
theorem SrcI.keep {a b : Nat} {w w' : World} {v : Value} {size m : Nat} {news : List Value} {L : List Nat} (h : SrcI a b w v size m news) (ho : Only w w' L) (hL : ∀ k ∈ L, k < a ∨ b ≤ k) : SrcI a b w' v size m news :=
  ⟨Src.off h.1 ho (off_of (fun _ => h.2) hL), h.2⟩
theorem SrcI.wide {a b a' b' : Nat} {w : World} {v : Value} {size m : Nat} {news : List Value} (h : SrcI a b w v size m news) (ha : a' ≤ a) (hb : b ≤ b') : SrcI a' b' w v size m news :=
  ⟨h.1, fun k hk => by have := h.2 k hk; omega⟩
theorem rdI_nil (a b : Nat) (w : World) : RdI a b w (.slice none 0 0) [] := ⟨Rd.nil w, by simp [Value.ownBlock], by simp, fun x hx => by simp at hx⟩
/-- A slice that Bytes has made. -/
theorem Got.rdI {W w : World} {v : Value} {xs : List Int} (h : Got W w v xs) (hl : xs.length ≤ 65536) : RdI W.heap.size w.heap.size w v xs :=
  ⟨h.2.1, fun hm k hk => ⟨h.2.2.1 k hk, Src.lt h.2.1 (by decide) hm k hk⟩, hl, h.2.2.2⟩

/-- The same, with the values that hold them. -/
structure Sk where
  c : KD
  vo : Value
  vk : Value
  ok : vo.oneCell' = true ∧ vk.oneCell' = true
def skc (x : Sk) : List Value := [x.vo, .int .u32 x.c.n, x.vk]
theorem skc_len (x : Sk) : (skc x).length = 3 := rfl
theorem skc_one (x : Sk) : ∀ u ∈ skc x, u.oneCell' = true := by
  obtain ⟨h1, h2⟩ := x.ok
  intro u hu
  simp only [skc, List.mem_cons, List.not_mem_nil, or_false] at hu
  rcases hu with rfl | rfl | rfl <;> first | assumption | rfl
structure SkI (a b : Nat) (w : World) (x : Sk) : Prop where
  o : RdI a b w x.vo x.c.of
  k : RdI a b w x.vk x.c.key
  n : U32 x.c.n
def adr (S : Option Nat) : Option Addr := S.map fun k => ⟨k, 0, none⟩
def StoI (a b : Nat) (w : World) (S : Option Nat) (l : List Sk) : Prop := match S with
  | none => l = []
  | some S => a ≤ S ∧ S < b ∧ ∃ v, w.heap[S]? = some (.cells #[v] 154 (0, 0)) ∧ SrcI a b w v 3 l.length (fl skc l) ∧ ∀ x ∈ l, SkI a b w x
structure Sta where
  c : TD
  vo : Value
  vt : Value
  vr : Value
  vs : Value
  vk : Value
  S : Option Nat
  l : List Sk
  ok : vo.oneCell' = true ∧ vt.oneCell' = true ∧ vr.oneCell' = true ∧ vs.oneCell' = true ∧ vk.oneCell' = true
def stc (x : Sta) : List Value := [x.vo, x.vt, x.vr, x.vs, .int .u32 x.c.sn, x.vk, .int .u32 x.c.tn, .int .u32 x.c.prev, .pointer (adr x.S)]
theorem stc_len (x : Sta) : (stc x).length = 9 := rfl
theorem stc_one (x : Sta) : ∀ u ∈ stc x, u.oneCell' = true := by
  obtain ⟨h1, h2, h3, h4, h5⟩ := x.ok
  intro u hu
  simp only [stc, List.mem_cons, List.not_mem_nil, or_false] at hu
  rcases hu with rfl | rfl | rfl | rfl | rfl | rfl | rfl | rfl | rfl <;> first | assumption | rfl
structure StaI (a b : Nat) (w : World) (x : Sta) : Prop where
  o : RdI a b w x.vo x.c.own
  t : RdI a b w x.vt x.c.their
  r : RdI a b w x.vr x.c.root
  s : RdI a b w x.vs x.c.sk
  k : RdI a b w x.vk x.c.tk
  us : U32 x.c.sn
  ut : U32 x.c.tn
  up : U32 x.c.prev
  l : StoI a b w x.S x.l
  e : x.c.l = x.l.map Sk.c
structure Se where
  c : ED
  vi : Value
  vw : Value
  va : Value
  vs : Value
  vk : Value
  st : Sta
  ok : vi.oneCell' = true ∧ vw.oneCell' = true ∧ va.oneCell' = true ∧ vs.oneCell' = true ∧ vk.oneCell' = true
def sec (x : Se) : List Value := [x.vi, x.vw, x.va, x.vs, x.vk, .int .u32 x.c.h.signed, .bool x.c.h.has, .int .u32 x.c.h.once, .bool x.c.tell] ++ stc x.st
theorem sec_len (x : Se) : (sec x).length = 18 := rfl
theorem sec_one (x : Se) : ∀ u ∈ sec x, u.oneCell' = true := by
  obtain ⟨h1, h2, h3, h4, h5⟩ := x.ok
  intro u hu
  rcases List.mem_append.1 hu with hu | hu
  · simp only [List.mem_cons, List.not_mem_nil, or_false] at hu
    rcases hu with rfl | rfl | rfl | rfl | rfl | rfl | rfl | rfl | rfl <;> first | assumption | rfl
  · exact stc_one _ u hu
structure SeI (a b : Nat) (w : World) (x : Se) : Prop where
  i : RdI a b w x.vi x.c.id
  y : RdI a b w x.vw x.c.wth
  g : RdI a b w x.va x.c.h.ag
  s : RdI a b w x.vs x.c.h.sg
  k : RdI a b w x.vk x.c.h.key
  l : x.c.h.ag.length + x.c.h.sg.length + x.c.h.key.length ≤ 50000
  us : U32 x.c.h.signed
  uo : U32 x.c.h.once
  t : StaI a b w x.st
  e : x.c.t = x.st.c
/-- A queue's sessions. -/
def QuI (a b : Nat) (w : World) (Q : Nat) (l : List Se) : Prop := a ≤ Q ∧ Q < b ∧ ∃ v, w.heap[Q]? = some (.cells #[v] 74 (0, 0)) ∧ SrcI a b w v 18 l.length (fl sec l) ∧ ∀ x ∈ l, SeI a b w x

theorem SkI.keep {a b : Nat} {w w' : World} {x : Sk} {L : List Nat} (h : SkI a b w x) (ho : Only w w' L) (hL : ∀ k ∈ L, k < a ∨ b ≤ k) : SkI a b w' x := ⟨h.o.keep ho hL, h.k.keep ho hL, h.n⟩
theorem SkI.wide {a b a' b' : Nat} {w : World} {x : Sk} (h : SkI a b w x) (ha : a' ≤ a) (hb : b ≤ b') : SkI a' b' w x := ⟨h.o.wide ha hb, h.k.wide ha hb, h.n⟩
theorem blk_keep {a b S : Nat} {w w' : World} {L : List Nat} {o : Obj} (h : w.heap[S]? = some o) (ha : a ≤ S) (hb : S < b) (ho : Only w w' L) (hL : ∀ k ∈ L, k < a ∨ b ≤ k) : w'.heap[S]? = some o := ho.at h fun hm => by have := hL S hm; omega
theorem StoI.keep {a b : Nat} {w w' : World} {S : Option Nat} {l : List Sk} {L : List Nat} (h : StoI a b w S l) (ho : Only w w' L) (hL : ∀ k ∈ L, k < a ∨ b ≤ k) : StoI a b w' S l := by
  cases S with
  | none => exact h
  | some S =>
    obtain ⟨h1, h2, v, h3, h4, h5⟩ := h
    exact ⟨h1, h2, v, blk_keep h3 h1 h2 ho hL, h4.keep ho hL, fun x hx => (h5 x hx).keep ho hL⟩
theorem StoI.wide {a b a' b' : Nat} {w : World} {S : Option Nat} {l : List Sk} (h : StoI a b w S l) (ha : a' ≤ a) (hb : b ≤ b') : StoI a' b' w S l := by
  cases S with
  | none => exact h
  | some S =>
    obtain ⟨h1, h2, v, h3, h4, h5⟩ := h
    exact ⟨by omega, by omega, v, h3, h4.wide ha hb, fun x hx => (h5 x hx).wide ha hb⟩
theorem StaI.keep {a b : Nat} {w w' : World} {x : Sta} {L : List Nat} (h : StaI a b w x) (ho : Only w w' L) (hL : ∀ k ∈ L, k < a ∨ b ≤ k) : StaI a b w' x :=
  ⟨h.o.keep ho hL, h.t.keep ho hL, h.r.keep ho hL, h.s.keep ho hL, h.k.keep ho hL, h.us, h.ut, h.up, h.l.keep ho hL, h.e⟩
theorem StaI.wide {a b a' b' : Nat} {w : World} {x : Sta} (h : StaI a b w x) (ha : a' ≤ a) (hb : b ≤ b') : StaI a' b' w x :=
  ⟨h.o.wide ha hb, h.t.wide ha hb, h.r.wide ha hb, h.s.wide ha hb, h.k.wide ha hb, h.us, h.ut, h.up, h.l.wide ha hb, h.e⟩
theorem SeI.keep {a b : Nat} {w w' : World} {x : Se} {L : List Nat} (h : SeI a b w x) (ho : Only w w' L) (hL : ∀ k ∈ L, k < a ∨ b ≤ k) : SeI a b w' x :=
  ⟨h.i.keep ho hL, h.y.keep ho hL, h.g.keep ho hL, h.s.keep ho hL, h.k.keep ho hL, h.l, h.us, h.uo, h.t.keep ho hL, h.e⟩
theorem SeI.wide {a b a' b' : Nat} {w : World} {x : Se} (h : SeI a b w x) (ha : a' ≤ a) (hb : b ≤ b') : SeI a' b' w x :=
  ⟨h.i.wide ha hb, h.y.wide ha hb, h.g.wide ha hb, h.s.wide ha hb, h.k.wide ha hb, h.l, h.us, h.uo, h.t.wide ha hb, h.e⟩
theorem QuI.keep {a b Q : Nat} {w w' : World} {l : List Se} {L : List Nat} (h : QuI a b w Q l) (ho : Only w w' L) (hL : ∀ k ∈ L, k < a ∨ b ≤ k) : QuI a b w' Q l := by
  obtain ⟨h1, h2, v, h3, h4, h5⟩ := h
  exact ⟨h1, h2, v, blk_keep h3 h1 h2 ho hL, h4.keep ho hL, fun x hx => (h5 x hx).keep ho hL⟩
theorem QuI.wide {a b a' b' Q : Nat} {w : World} {l : List Se} (h : QuI a b w Q l) (ha : a' ≤ a) (hb : b ≤ b') : QuI a' b' w Q l := by
  obtain ⟨h1, h2, v, h3, h4, h5⟩ := h
  exact ⟨by omega, by omega, v, h3, h4.wide ha hb, fun x hx => (h5 x hx).wide ha hb⟩

/-- A Writer whose blocks lie behind b. -/
def Wr (b B : Nat) (v0 : Value) : Prop := ∀ k ∈ B :: v0.ownBlock.toList, b ≤ k
theorem Wr.next {b B : Nat} {v0 v1 : Value} {W : World} (h : Wr b B v0) (hs : SoN W v0 v1) (hb : b ≤ W.heap.size) : Wr b B v1 := fun k hk => by
  rcases own_list hs k hk with h1 | h1
  · exact h k h1
  · omega
theorem Wr.off {a b B : Nat} {v0 v : Value} {w : World} {xs : List Int} (h : Wr b B v0) (hr : RdI a b w v xs) : Off v (B :: v0.ownBlock.toList) := off_of hr.2.1 fun k hk => .inr (h k hk)
theorem wnum_st {B : Nat} {v0 : Value} {W w1 : World} {ys : List Int} (h : St B v0 W w1 ys) (n : Int) (k : Nat) (hk : k ≤ 8) (hl : ys.length ≤ 1000000) (hn0 : 0 ≤ n) (hn1 : n < 18446744073709551616) :
    Calls Try.prog 42 #[.pointer (some ⟨B, 0, none⟩), .int .u64 n, .int .i64 k] w1 fun e w2 => e = .returned (.pointer (some ⟨B, 0, none⟩)) ∧ St B v0 W w2 (ys ++ be n k) :=
  h.step fun v1 h1 _ => wnum_any B v1 ys n k w1 hk hn0 hn1 h1 hl
theorem wnum2_st {B : Nat} {v0 : Value} {W w1 : World} {ys : List Int} (h : St B v0 W w1 ys) (n : Int) (hl : ys.length ≤ 1000000) (hn0 : 0 ≤ n) (hn1 : n < 18446744073709551616) :
    Calls Try.prog 42 #[.pointer (some ⟨B, 0, none⟩), .int .u64 n, .int .i64 2] w1 fun e w2 => e = .returned (.pointer (some ⟨B, 0, none⟩)) ∧ St B v0 W w2 (ys ++ be n 2) := wnum_st h n 2 (by decide) hl hn0 hn1
theorem wnum8_st {B : Nat} {v0 : Value} {W w1 : World} {ys : List Int} (h : St B v0 W w1 ys) (n : Int) (hl : ys.length ≤ 1000000) (hn0 : 0 ≤ n) (hn1 : n < 18446744073709551616) :
    Calls Try.prog 42 #[.pointer (some ⟨B, 0, none⟩), .int .u64 n, .int .i64 8] w1 fun e w2 => e = .returned (.pointer (some ⟨B, 0, none⟩)) ∧ St B v0 W w2 (ys ++ be n 8) := wnum_st h n 8 (by decide) hl hn0 hn1
/-- Bytes of a part that is read. -/
theorem wpart_st {a b B : Nat} {v0 p : Value} {W w1 : World} {ys ps : List Int} (h : St B v0 W w1 ys) (hw : Wr b B v0) (hp : RdI a b W p ps) (hl : ys.length ≤ 900000) :
    Calls Try.prog 43 #[.pointer (some ⟨B, 0, none⟩), p] w1 fun e w2 => e = .returned (.pointer (some ⟨B, 0, none⟩)) ∧ St B v0 W w2 (ys ++ lb ps) := by
  have := wbytes_st h hp.1 (hw.off hp) hl (by have := hp.2.2.1; omega)
  rwa [List.append_assoc] at this
theorem stoB_len (l : List KD) : 2 ≤ (stoB l).length := by simp [stoB, be_len]
end Go.Proofs.Ytdlbkdnpbcpjfaa
