/- The structs of layers 13 and 14 that come in: their cells, read. -/
import Derived.Test.YtemlpjfngaemdaaOpenZ
import Derived.Test.YtemlpjfngaemdaaRef09
namespace Go.Proofs.Ytemlpjfngaemdaa
open Go.RowKit Go.Pw
set_option linter.unusedVariables false

theorem cnWho : Try.prog.cellsOf 34 = 2 := by kernel_rfl
theorem cnIdent : Try.prog.cellsOf 36 = 2 := by kernel_rfl
theorem cnHello : Try.prog.cellsOf 39 = 6 := by kernel_rfl
theorem cnHead : Try.prog.cellsOf 41 = 3 := by kernel_rfl
theorem cnEnv : Try.prog.cellsOf 43 = 16 := by kernel_rfl
theorem cnBundle : Try.prog.cellsOf 76 = 10 := by kernel_rfl
theorem cnInt : Try.prog.cellsOf 3 = 1 := by kernel_rfl
theorem cnU32 : Try.prog.cellsOf 37 = 1 := by kernel_rfl
theorem cnBool : Try.prog.cellsOf 4 = 1 := by kernel_rfl
theorem cnBytes : Try.prog.cellsOf 22 = 1 := by kernel_rfl
theorem cnByte : Try.prog.cellsOf 5 = 1 := by kernel_rfl
theorem bnByte : Try.prog.bytesOf 5 = 1 := by kernel_rfl

/-- A slice of bytes that came in. -/
def SlIn (W : World) (a : Value) : Prop := ∃ ao c xs, a = .slice ao xs.length c ∧ Rd W (.slice ao xs.length c) xs ∧ Byt xs ∧ xs.length ≤ 140737488351232
def IntIn (a : Value) : Prop := ∃ u, a = .int .i64 u
def U32In (a : Value) : Prop := ∃ u, a = .int .u32 u ∧ U32 u
def BoolIn (a : Value) : Prop := ∃ b, a = .bool b

variable {W : World}
theorem in_int {cs : List Value} {a : Value} (e : cs = [a]) (h : ReadsZ Try.prog W 3 cs) : IntIn a := by
  subst e
  obtain ⟨u, hu, _⟩ := reads_int Try.underlying3 h.reads
  exact ⟨u, by simpa using hu⟩
theorem in_u32 {cs : List Value} {a : Value} (e : cs = [a]) (h : ReadsZ Try.prog W 37 cs) : U32In a := by
  subst e
  obtain ⟨u, hu, hw⟩ := reads_int Try.underlying37 h.reads
  exact ⟨u, by simpa using hu, u32_wf hw⟩
theorem in_bool {cs : List Value} {a : Value} (e : cs = [a]) (h : ReadsZ Try.prog W 4 cs) : BoolIn a := by
  subst e
  obtain ⟨u, hu⟩ := reads_bool Try.underlying4 h.reads
  exact ⟨u, by simpa using hu⟩
theorem in_bytes {cs : List Value} {a : Value} (e : cs = [a]) (h : ReadsZ Try.prog W 22 cs) : SlIn W a := by
  subst e
  obtain ⟨ao, c, xs, hx, hs, hb, hl⟩ := readsz_bytes Try.underlying22 Try.underlying5 cnByte bnByte h
  exact ⟨ao, c, xs, by simpa using hx, hs, hb, hl⟩

theorem in_who {cs : List Value} {a0 a1 : Value} (e : cs = [a0, a1]) (h : ReadsZ Try.prog W 34 cs) : IntIn a0 ∧ IntIn a1 := by
  subst e
  have h0 := in_int rfl (readsz_field Try.underlying34 h 0 _ rfl 0 1 3 rfl rfl cnInt)
  have h1 := in_int rfl (readsz_field Try.underlying34 h 1 _ rfl 1 1 3 rfl rfl cnInt)
  exact ⟨h0, h1⟩

theorem in_ident {cs : List Value} {a0 a1 : Value} (e : cs = [a0, a1]) (h : ReadsZ Try.prog W 36 cs) : SlIn W a0 ∧ SlIn W a1 := by
  subst e
  have h0 := in_bytes rfl (readsz_field Try.underlying36 h 0 _ rfl 0 1 22 rfl rfl cnBytes)
  have h1 := in_bytes rfl (readsz_field Try.underlying36 h 1 _ rfl 1 1 22 rfl rfl cnBytes)
  exact ⟨h0, h1⟩

theorem in_hello {cs : List Value} {a0 a1 a2 a3 a4 a5 : Value} (e : cs = [a0, a1, a2, a3, a4, a5]) (h : ReadsZ Try.prog W 39 cs) : SlIn W a0 ∧ SlIn W a1 ∧ SlIn W a2 ∧ U32In a3 ∧ BoolIn a4 ∧ U32In a5 := by
  subst e
  have h0 := in_ident rfl (readsz_field Try.underlying39 h 0 _ rfl 0 2 36 rfl rfl cnIdent)
  have h1 := in_bytes rfl (readsz_field Try.underlying39 h 1 _ rfl 2 1 22 rfl rfl cnBytes)
  have h2 := in_u32 rfl (readsz_field Try.underlying39 h 2 _ rfl 3 1 37 rfl rfl cnU32)
  have h3 := in_bool rfl (readsz_field Try.underlying39 h 3 _ rfl 4 1 4 rfl rfl cnBool)
  have h4 := in_u32 rfl (readsz_field Try.underlying39 h 4 _ rfl 5 1 37 rfl rfl cnU32)
  exact ⟨h0.1, h0.2, h1, h2, h3, h4⟩

theorem in_head {cs : List Value} {a0 a1 a2 : Value} (e : cs = [a0, a1, a2]) (h : ReadsZ Try.prog W 41 cs) : SlIn W a0 ∧ U32In a1 ∧ U32In a2 := by
  subst e
  have h0 := in_bytes rfl (readsz_field Try.underlying41 h 0 _ rfl 0 1 22 rfl rfl cnBytes)
  have h1 := in_u32 rfl (readsz_field Try.underlying41 h 1 _ rfl 1 1 37 rfl rfl cnU32)
  have h2 := in_u32 rfl (readsz_field Try.underlying41 h 2 _ rfl 2 1 37 rfl rfl cnU32)
  exact ⟨h0, h1, h2⟩

theorem in_env {cs : List Value} {a0 a1 a2 a3 a4 a5 a6 a7 a8 a9 a10 a11 a12 a13 a14 a15 : Value} (e : cs = [a0, a1, a2, a3, a4, a5, a6, a7, a8, a9, a10, a11, a12, a13, a14, a15]) (h : ReadsZ Try.prog W 43 cs) : IntIn a0 ∧ IntIn a1 ∧ IntIn a2 ∧ IntIn a3 ∧ SlIn W a4 ∧ BoolIn a5 ∧ SlIn W a6 ∧ SlIn W a7 ∧ SlIn W a8 ∧ U32In a9 ∧ BoolIn a10 ∧ U32In a11 ∧ SlIn W a12 ∧ U32In a13 ∧ U32In a14 ∧ SlIn W a15 := by
  subst e
  have h0 := in_who rfl (readsz_field Try.underlying43 h 0 _ rfl 0 2 34 rfl rfl cnWho)
  have h1 := in_who rfl (readsz_field Try.underlying43 h 1 _ rfl 2 2 34 rfl rfl cnWho)
  have h2 := in_bytes rfl (readsz_field Try.underlying43 h 2 _ rfl 4 1 22 rfl rfl cnBytes)
  have h3 := in_bool rfl (readsz_field Try.underlying43 h 3 _ rfl 5 1 4 rfl rfl cnBool)
  have h4 := in_hello rfl (readsz_field Try.underlying43 h 4 _ rfl 6 6 39 rfl rfl cnHello)
  have h5 := in_head rfl (readsz_field Try.underlying43 h 5 _ rfl 12 3 41 rfl rfl cnHead)
  have h6 := in_bytes rfl (readsz_field Try.underlying43 h 6 _ rfl 15 1 22 rfl rfl cnBytes)
  exact ⟨h0.1, h0.2, h1.1, h1.2, h2, h3, h4.1, h4.2.1, h4.2.2.1, h4.2.2.2.1, h4.2.2.2.2.1, h4.2.2.2.2.2, h5.1, h5.2.1, h5.2.2, h6⟩

theorem in_bundle {cs : List Value} {a0 a1 a2 a3 a4 a5 a6 a7 a8 a9 : Value} (e : cs = [a0, a1, a2, a3, a4, a5, a6, a7, a8, a9]) (h : ReadsZ Try.prog W 76 cs) : IntIn a0 ∧ IntIn a1 ∧ SlIn W a2 ∧ SlIn W a3 ∧ U32In a4 ∧ SlIn W a5 ∧ SlIn W a6 ∧ BoolIn a7 ∧ U32In a8 ∧ SlIn W a9 := by
  subst e
  have h0 := in_who rfl (readsz_field Try.underlying76 h 0 _ rfl 0 2 34 rfl rfl cnWho)
  have h1 := in_ident rfl (readsz_field Try.underlying76 h 1 _ rfl 2 2 36 rfl rfl cnIdent)
  have h2 := in_u32 rfl (readsz_field Try.underlying76 h 2 _ rfl 4 1 37 rfl rfl cnU32)
  have h3 := in_bytes rfl (readsz_field Try.underlying76 h 3 _ rfl 5 1 22 rfl rfl cnBytes)
  have h4 := in_bytes rfl (readsz_field Try.underlying76 h 4 _ rfl 6 1 22 rfl rfl cnBytes)
  have h5 := in_bool rfl (readsz_field Try.underlying76 h 5 _ rfl 7 1 4 rfl rfl cnBool)
  have h6 := in_u32 rfl (readsz_field Try.underlying76 h 6 _ rfl 8 1 37 rfl rfl cnU32)
  have h7 := in_bytes rfl (readsz_field Try.underlying76 h 7 _ rfl 9 1 22 rfl rfl cnBytes)
  exact ⟨h0.1, h0.2, h1.1, h1.2, h2, h3, h4, h5, h6, h7⟩

theorem open_env {H : Type} {enc : TypeId × Value → H} {base : Nat} {v : Value} {d : DataW H} {p : List MemPlace} (h0 : Value.okWide Try.prog W .any base 43 v) (h1 : DataW.Trod enc Try.prog W 0 (fun _ => true) true 43 v d p) (hz : ∀ n ∈ d.weights Try.prog 43, n ≤ reachBytes) :
    ∃ a0 a1 a2 a3 a4 a5 a6 a7 a8 a9 a10 a11 a12 a13 a14 a15, v = .agg #[a0, a1, a2, a3, a4, a5, a6, a7, a8, a9, a10, a11, a12, a13, a14, a15] ∧ IntIn a0 ∧ IntIn a1 ∧ IntIn a2 ∧ IntIn a3 ∧ SlIn W a4 ∧ BoolIn a5 ∧ SlIn W a6 ∧ SlIn W a7 ∧ SlIn W a8 ∧ U32In a9 ∧ BoolIn a10 ∧ U32In a11 ∧ SlIn W a12 ∧ U32In a13 ∧ U32In a14 ∧ SlIn W a15 := by
  obtain ⟨cs, rfl, hsz⟩ := Go.WideShapes.okWide_struct Try.underlying43 h0
  obtain ⟨a0, a1, a2, a3, a4, a5, a6, a7, a8, a9, a10, a11, a12, a13, a14, a15, hl⟩ := list16 cs.toList (by simpa using hsz.trans cnEnv)
  have hr := readsz_of h1 hz
  rw [show (Value.agg cs).cells.toList = cs.toList from rfl] at hr
  refine ⟨a0, a1, a2, a3, a4, a5, a6, a7, a8, a9, a10, a11, a12, a13, a14, a15, ?_, in_env hl hr⟩
  rw [← Array.toArray_toList (xs := cs), hl]

theorem open_hello {H : Type} {enc : TypeId × Value → H} {base : Nat} {v : Value} {d : DataW H} {p : List MemPlace} (h0 : Value.okWide Try.prog W .any base 39 v) (h1 : DataW.Trod enc Try.prog W 0 (fun _ => true) true 39 v d p) (hz : ∀ n ∈ d.weights Try.prog 39, n ≤ reachBytes) :
    ∃ a0 a1 a2 a3 a4 a5, v = .agg #[a0, a1, a2, a3, a4, a5] ∧ SlIn W a0 ∧ SlIn W a1 ∧ SlIn W a2 ∧ U32In a3 ∧ BoolIn a4 ∧ U32In a5 := by
  obtain ⟨cs, rfl, hsz⟩ := Go.WideShapes.okWide_struct Try.underlying39 h0
  obtain ⟨a0, a1, a2, a3, a4, a5, hl⟩ := list6 cs.toList (by simpa using hsz.trans cnHello)
  have hr := readsz_of h1 hz
  rw [show (Value.agg cs).cells.toList = cs.toList from rfl] at hr
  refine ⟨a0, a1, a2, a3, a4, a5, ?_, in_hello hl hr⟩
  rw [← Array.toArray_toList (xs := cs), hl]

theorem open_bundle {H : Type} {enc : TypeId × Value → H} {base : Nat} {v : Value} {d : DataW H} {p : List MemPlace} (h0 : Value.okWide Try.prog W .any base 76 v) (h1 : DataW.Trod enc Try.prog W 0 (fun _ => true) true 76 v d p) (hz : ∀ n ∈ d.weights Try.prog 76, n ≤ reachBytes) :
    ∃ a0 a1 a2 a3 a4 a5 a6 a7 a8 a9, v = .agg #[a0, a1, a2, a3, a4, a5, a6, a7, a8, a9] ∧ IntIn a0 ∧ IntIn a1 ∧ SlIn W a2 ∧ SlIn W a3 ∧ U32In a4 ∧ SlIn W a5 ∧ SlIn W a6 ∧ BoolIn a7 ∧ U32In a8 ∧ SlIn W a9 := by
  obtain ⟨cs, rfl, hsz⟩ := Go.WideShapes.okWide_struct Try.underlying76 h0
  obtain ⟨a0, a1, a2, a3, a4, a5, a6, a7, a8, a9, hl⟩ := list10 cs.toList (by simpa using hsz.trans cnBundle)
  have hr := readsz_of h1 hz
  rw [show (Value.agg cs).cells.toList = cs.toList from rfl] at hr
  refine ⟨a0, a1, a2, a3, a4, a5, a6, a7, a8, a9, ?_, in_bundle hl hr⟩
  rw [← Array.toArray_toList (xs := cs), hl]

end Go.Proofs.Ytemlpjfngaemdaa
