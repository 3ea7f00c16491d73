/- The contract of envelope.Decode at any bytes; what Encode has laid is read back. -/
import Derived.Test.YtemlpjfngaemdaaEnvB
namespace Go.Proofs.Ytemlpjfngaemdaa
open Go.RowKit Go.Pw
set_option linter.unusedVariables false

structure EnvD where
  fu : Int
  fd : Int
  tu : Int
  td : Int
  ss : List Int
  has : Bool
  h : HelloD
  dks : List Int
  dp : Int
  dn : Int
  sls : List Int

def h0 : HelloD := ⟨[], [], [], 0, false, 0⟩
def pOH (b : Bool) (s : List Int × Bool) : HelloD × List Int × Bool := if b then pH s else (h0, s)
def pEnv (s : List Int × Bool) : EnvD × List Int × Bool :=
  let a := pW s
  let b := pW a.2
  let t := pB b.2
  let h := pF t.2
  let l := pOH h.1 h.2
  let k := pB l.2
  let p := pN k.2
  let n := pN p.2
  let z := pB n.2
  (⟨a.1.1, a.1.2, b.1.1, b.1.2, t.1, h.1, l.1, k.1, p.1, n.1, z.1⟩, z.2)

structure GotE (W w : World) (a : EnvD) (vs va vg vk vd vz : Value) : Prop where
  gs : Got W w vs a.ss
  gh : GotH W w a.h va vg vk
  gd : Got W w vd a.dks
  gz : Got W w vz a.sls
  ls : a.ss.length ≤ 65536
  ld : a.dks.length ≤ 65536
  lz : a.sls.length ≤ 65536
  ufu : U32 a.fu
  ufd : U32 a.fd
  utu : U32 a.tu
  utd : U32 a.td
  udp : U32 a.dp
  udn : U32 a.dn
theorem GotE.next {W w w' : World} {a : EnvD} {vs va vg vk vd vz : Value} {L : List Nat} (h : GotE W w a vs va vg vk vd vz) (ho : Only w w' L) (hL : ∀ k ∈ L, k < W.heap.size) : GotE W w' a vs va vg vk vd vz :=
  ⟨h.gs.next ho hL, h.gh.next ho hL, h.gd.next ho hL, h.gz.next ho hL, h.ls, h.ld, h.lz, h.ufu, h.ufd, h.utu, h.utd, h.udp, h.udn⟩
theorem GotE.mono {W W' w : World} {a : EnvD} {vs va vg vk vd vz : Value} (h : GotE W w a vs va vg vk vd vz) (hs : W'.heap.size ≤ W.heap.size) : GotE W' w a vs va vg vk vd vz :=
  ⟨h.gs.mono hs, h.gh.mono hs, h.gd.mono hs, h.gz.mono hs, h.ls, h.ld, h.lz, h.ufu, h.ufd, h.utu, h.utd, h.udp, h.udn⟩
theorem goth_nil (W w : World) : GotH W w h0 (.slice none 0 0) (.slice none 0 0) (.slice none 0 0) :=
  ⟨got_nil W w, got_nil W w, got_nil W w, by simp [h0], by simp [h0], by simp [h0], ⟨by simp [h0], by simp [h0]⟩, ⟨by simp [h0], by simp [h0]⟩⟩

def enV (a : EnvD) (vs va vg vk vd vz : Value) : Value := .agg #[.int .i64 a.fu, .int .i64 a.fd, .int .i64 a.tu, .int .i64 a.td, vs, .bool a.has, va, vg, vk, .int .u32 a.h.signed, .bool a.h.has, .int .u32 a.h.once, vd, .int .u32 a.dp, .int .u32 a.dn, vz]
def en0 : Value := .agg #[.int .i64 0, .int .i64 0, .int .i64 0, .int .i64 0, .slice none 0 0, .bool false, .slice none 0 0, .slice none 0 0, .slice none 0 0, .int .u32 0, .bool false, .int .u32 0, .slice none 0 0, .int .u32 0, .int .u32 0, .slice none 0 0]
def DecE (ps : List Int) (w : World) (e : Ending) (w' : World) : Prop :=
  ∃ a s, pEnv (ps, false) = (a, s) ∧ Only w w' [] ∧
    ((Ends s = true ∧ ∃ vs va vg vk vd vz, e = .returned (.tuple #[enV a vs va vg vk vd vz, .int .i64 0]) ∧ GotE w w' a vs va vg vk vd vz) ∨
     (Ends s = false ∧ e = .returned (.tuple #[en0, .int .i64 4])))


end Go.Proofs.Ytemlpjfngaemdaa
