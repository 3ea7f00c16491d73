/- Hooks, tables, the law in the machine. -/
import Derived.Test.YtjfmelmiegnmjaaGreatDoorXTkXm0
import Derived.Test.YtjfmelmiegnmjaaGreatDoorXTkXm1
import Derived.Test.YtjfmelmiegnmjaaGreatDoorXMe
import Derived.Test.YtjfmelmiegnmjaaGreatDoorXTkXd0
set_option linter.all false
section
open Go Go.Sx Go.Proofs Go.RowKit
set_option linter.all false
namespace Go.Proofs.YtjfmelmiegnmjaaGreatDoor
set_option maxRecDepth 1000000
noncomputable def tblM : List ME := [m0, m1, m2, m3, m4, m5, m6, m7, m8, m9, m10, m11, m12, m13, m14, m15, m16, m17, m18, m19, m20, m21, m22, m23, m24, m25, m26, m27, m28, m29, m30]
theorem tblM_ok : ∀ e ∈ tblM, e.ok := by
  intro e he
  simp only [tblM, List.mem_cons, List.not_mem_nil, or_false] at he
  rcases he with rfl | rfl | rfl | rfl | rfl | rfl | rfl | rfl | rfl | rfl | rfl | rfl | rfl | rfl | rfl | rfl | rfl | rfl | rfl | rfl | rfl | rfl | rfl | rfl | rfl | rfl | rfl | rfl | rfl | rfl | rfl
  · exact m0_ok
  · exact m1_ok
  · exact m2_ok
  · exact m3_ok
  · exact m4_ok
  · exact m5_ok
  · exact m6_ok
  · exact m7_ok
  · exact m8_ok
  · exact m9_ok
  · exact m10_ok
  · exact m11_ok
  · exact m12_ok
  · exact m13_ok
  · exact m14_ok
  · exact m15_ok
  · exact m16_ok
  · exact m17_ok
  · exact m18_ok
  · exact m19_ok
  · exact m20_ok
  · exact m21_ok
  · exact m22_ok
  · exact m23_ok
  · exact m24_ok
  · exact m25_ok
  · exact m26_ok
  · exact m27_ok
  · exact m28_ok
  · exact m29_ok
  · exact m30_ok
noncomputable def hCM : Hk := hor (nsHook 239 5 (gLook tblM)) hCN
theorem hCM_good : HkGood Tryz.prog hCM := HkGood.or (look_good tblM_ok) hCN_good
end Go.Proofs.YtjfmelmiegnmjaaGreatDoor
end
section
open Go Go.Sx Go.Proofs Go.RowKit Go.Pw
set_option linter.all false
namespace Go.Proofs.YtjfmelmiegnmjaaGreatDoor
set_option maxRecDepth 100000
def vBad : AV := .tup [.agg [.int .i64 (.ofNat 0), .int .i64 (.ofNat 0), .int .i64 (.ofNat 0), .int .i64 (.ofNat 0), .nils, .bool false, .nils, .nils, .nils, .int .u32 (.ofNat 0), .bool false, .int .u32 (.ofNat 0), .nils, .int .u32 (.ofNat 0), .int .u32 (.ofNat 0), .nils], .int .i64 (.ofNat 4)]
theorem vBad_den (σ : Env) : den σ vBad = some (.tuple #[en0, .int .i64 4]) := rfl
theorem zN_eq (k : Int) (s : List Int × Bool) : zN k s = RN k s.1 s.2 := rfl
theorem zB_eq (s : List Int × Bool) : zB s = (pB s).2 := rfl
theorem zF_eq (s : List Int × Bool) : zF s = pF s := rfl
theorem zW_eq (s : List Int × Bool) : zW s = (pW s).2 := rfl
theorem zH_eq (s : List Int × Bool) : zH s = (pH s).2 := by
  have e : zF (zN 4 (zB (zB (zB s)))).2 = pF (pN (pB (pI s).2).2).2 := rfl
  unfold zH pH
  simp only [e]
  cases (pF (pN (pB (pI s).2).2).2).1
  · rfl
  · rfl
theorem zEnv_eq (s : List Int × Bool) : zEnv s = (pEnv s).2 := by
  have e : zF (zB (zW (zW s))) = pF (pB (pW (pW s).2).2).2 := rfl
  unfold zEnv pEnv pOH
  simp only [e, zH_eq]
  cases (pF (pB (pW (pW s).2).2).2).1
  · rfl
  · rfl
theorem zBad_eq (l : List Int) : zBad l = !Ends (pEnv (l, false)).2 := by
  unfold zBad Ends
  rw [zEnv_eq]
  cases (pEnv (l, false)).2.2 <;> simp
def bytesOf (b n : Nat) (cs : Array Value) : List Int := (List.range n).map fun i => zByte cs[b + i]?
theorem bytesOf_len (b n : Nat) (cs : Array Value) : (bytesOf b n cs).length = n := by simp [bytesOf]
theorem bytesOf_at {b n : Nat} {cs : Array Value} (h : ∀ i, i < n → ∃ z : Nat, z < 256 ∧ cs[b + i]? = some (.int .u8 z)) (j : Nat) (hj : j < n) : ∃ z : Nat, z < 256 ∧ (bytesOf b n cs)[j]? = some (z : Int) ∧ cs[b + j]? = some (.int .u8 z) := by
  obtain ⟨z, h1, h2⟩ := h j hj
  refine ⟨z, h1, ?_, h2⟩
  simp [bytesOf, hj, h2, zByte]
theorem rd_of {w : World} {b o n c : Nat} {cs : Array Value} {el : Nat} {fr : Nat × Nat} (hb : w.heap[b]? = some (.cells cs el fr)) (h : ∀ i, i < n → ∃ z : Nat, z < 256 ∧ cs[o + i]? = some (.int .u8 z)) (hn : n ≤ c) (hc : c ≤ 9223372036854775807) :
    Rd w (.slice (some ⟨b, o, none⟩) n c) (bytesOf o n cs) := by
  refine ⟨some ⟨b, o, none⟩, c, by rw [bytesOf_len], by rw [bytesOf_len]; exact hn, hc, by simp, fun e => (by cases e), fun a e j u hu => ?_⟩
  obtain rfl := Option.some.inj e
  rw [List.getElem?_map] at hu
  by_cases hj : j < n
  · obtain ⟨z, _, h1, h2⟩ := bytesOf_at h j hj
    rw [h1] at hu
    obtain rfl := Option.some.inj hu
    by_cases h0 : j = 0
    · subst h0
      simpa [World.cell?, hb, Addr.add] using h2
    · simpa [World.cell?, hb, Addr.add, h0] using h2
  · rw [List.getElem?_eq_none (by rw [bytesOf_len]; omega)] at hu
    cases hu
theorem byt_of {o n : Nat} {cs : Array Value} (h : ∀ i, i < n → ∃ z : Nat, z < 256 ∧ cs[o + i]? = some (.int .u8 z)) : Byt (bytesOf o n cs) := by
  intro x hx
  obtain ⟨j, hj⟩ := List.getElem?_of_mem hx
  have hlt : j < n := by
    have := (List.getElem?_eq_some_iff.1 hj).1
    rwa [bytesOf_len] at this
  obtain ⟨z, h1, h2, _⟩ := bytesOf_at h j hlt
  rw [h2] at hj
  obtain rfl := Option.some.inj hj
  omega
noncomputable def hT : Hk := bHook 32 vBad
theorem hT_good : HkGood Tryz.prog hT := by
  obtain ⟨fn, h1, h2, h3, h4, h5⟩ := fnOf_ok (show fnOf Tryz.prog 32 = some (ntOf Tryz.prog 32, bodyOf Tryz.prog 32, resultsOf Tryz.prog 32) by kernel_rfl)
  refine bHook_good ⟨fn, _, h1, h3⟩ (fun σ => vBad_den σ) (fun ao c w h0 hc => ?_) (fun b o n c w cs el fr hb hsz hby hn hnc hc hbad => ?_)
  · refine (decode_any (.slice ao 0 c) [] w ⟨ao, c, rfl, Nat.zero_le _, hc, rfl, fun h => ⟨rfl, h0 h⟩, fun a e j u hu => by simp at hu⟩ Byt.nil (by decide)).mono ?_
    rintro e w' ⟨a, s, hp, ho, h⟩
    have hs : (pEnv ([], false)).2 = s := by rw [hp]
    have hE : Ends (pEnv ([], false)).2 = false := by decide
    rcases h with ⟨h1, _⟩ | ⟨_, h2⟩
    · rw [← hs, hE] at h1
      cases h1
    · exact ⟨h2, onlyB_of ho⟩
  · have hE : Ends (pEnv (bytesOf o n cs, false)).2 = false := by
      have : zBad (bytesOf o n cs) = true := hbad
      rw [zBad_eq] at this
      cases h : Ends (pEnv (bytesOf o n cs, false)).2
      · rfl
      · rw [h] at this; cases this
    refine (decode_any (.slice (some ⟨b, o, none⟩) n c) (bytesOf o n cs) w (rd_of hb hby hnc hc) (byt_of hby) (by rw [bytesOf_len]; omega)).mono ?_
    rintro e w' ⟨a, s, hp, ho, h⟩
    have hs : (pEnv (bytesOf o n cs, false)).2 = s := by rw [hp]
    rcases h with ⟨h1, _⟩ | ⟨_, h2⟩
    · rw [← hs, hE] at h1
      cases h1
    · exact ⟨h2, onlyB_of ho⟩
theorem decode_good {b o n c : Nat} {w : World} {cs : Array Value} {el : Nat} {fr : Nat × Nat} (hb : w.heap[b]? = some (.cells cs el fr)) (hby : ∀ i, i < n → ∃ z : Nat, z < 256 ∧ cs[o + i]? = some (.int .u8 z)) (hn : n ≤ 1000) (hnc : n ≤ c) (hc : c ≤ 9223372036854775807) (hg : zBad (bytesOf o n cs) = false) :
    Calls Tryz.prog 32 #[.slice (some ⟨b, o, none⟩) n c] w fun e w' => (∃ a vs va vg vk vd vz, e = .returned (.tuple #[enV a vs va vg vk vd vz, .int .i64 0]) ∧ GotE w w' a vs va vg vk vd vz) ∧ Pw.Only w w' [] := by
  have hE : Ends (pEnv (bytesOf o n cs, false)).2 = true := by
    rw [zBad_eq] at hg
    cases h : Ends (pEnv (bytesOf o n cs, false)).2
    · rw [h] at hg; cases hg
    · rfl
  refine (decode_any (.slice (some ⟨b, o, none⟩) n c) (bytesOf o n cs) w (rd_of hb hby hnc hc) (byt_of hby) (by rw [bytesOf_len]; omega)).mono ?_
  rintro e w' ⟨a, s, hp, ho, h⟩
  have hs : (pEnv (bytesOf o n cs, false)).2 = s := by rw [hp]
  rcases h with ⟨_, vs, va, vg, vk, vd, vz, h2, hg⟩ | ⟨h1, _⟩
  · exact ⟨⟨_, _, _, _, _, _, _, h2, hg⟩, ho⟩
  · rw [← hs, hE] at h1
    cases h1
#print axioms hT_good
#print axioms decode_good
end Go.Proofs.YtjfmelmiegnmjaaGreatDoor
end
section
open Go Go.Sx Go.Proofs
set_option linter.all false
namespace Go.Proofs.YtjfmelmiegnmjaaGreatDoor
set_option maxRecDepth 1000000
noncomputable def hk0 : Hk := hor (hooksL []) hCM
noncomputable def hk1 : Hk := hor (hooksL []) hCM
noncomputable def hk2 : Hk := hor (hooksL [q0,q1]) hCM
noncomputable def hk3 : Hk := hor (hooksL []) hCM
noncomputable def hk4 : Hk := hor (hooksL []) hCM
noncomputable def hk5 : Hk := hor (hooksL [q4]) hCM
noncomputable def hk6 : Hk := hor (hooksL [q3,q5]) hCM
noncomputable def hk7 : Hk := hor (hooksL []) hCM
noncomputable def hk8 : Hk := hor (hooksL []) hCM
noncomputable def hk9 : Hk := hor (hooksL [q8]) hCM
noncomputable def hk10 : Hk := hor (hooksL [q7,q9]) hCM
noncomputable def hk11 : Hk := hor (hooksL []) hCM
noncomputable def hk12 : Hk := hor (hooksL []) hCM
noncomputable def hk13 : Hk := hor (hooksL [q12]) hCM
noncomputable def hk14 : Hk := hor (hooksL [q11,q13]) hCM
noncomputable def hk15 : Hk := hor (hooksL [q6,q10,q14]) hCM
noncomputable def hk16 : Hk := hor (hooksL []) hCM
noncomputable def hk17 : Hk := hor (hooksL [q16]) hCM
noncomputable def hk18 : Hk := hor (hooksL []) hCM
noncomputable def hk19 : Hk := hor (hooksL [q18]) hCM
noncomputable def hk20 : Hk := hor (hooksL [q17,q19]) hCM
noncomputable def hk21 : Hk := hor (hooksL []) hCM
noncomputable def hk22 : Hk := hor (hooksL []) hCM
noncomputable def hk23 : Hk := hor (hooksL []) hCM
noncomputable def hk24 : Hk := hor (hooksL [q23]) hCM
noncomputable def hk25 : Hk := hor (hooksL [q24]) hCM
noncomputable def hk26 : Hk := hor (hooksL [q25]) hCM
noncomputable def hk27 : Hk := hor (hooksL []) hCM
noncomputable def hk28 : Hk := hor (hooksL []) hCM
noncomputable def hk29 : Hk := hor (hooksL []) hCM
noncomputable def hk30 : Hk := hor (hooksL []) hCM
noncomputable def hk31 : Hk := hor (hooksL [q30]) hCM
noncomputable def hk32 : Hk := hor (hooksL [q31]) hCM
noncomputable def hk33 : Hk := hor (hooksL [q32]) hCM
noncomputable def hk34 : Hk := hor (hooksL []) hCM
noncomputable def hk35 : Hk := hor (hooksL []) hCM
noncomputable def hk36 : Hk := hor (hooksL []) hCM
noncomputable def hk37 : Hk := hor (hooksL []) hCM
noncomputable def hk38 : Hk := hor (hooksL []) hCM
noncomputable def hk39 : Hk := hor (hooksL [q38]) hCM
noncomputable def hk40 : Hk := hor (hooksL [q39]) hCM
noncomputable def hk41 : Hk := hor (hooksL [q40]) hCM
noncomputable def hk42 : Hk := hor (hooksL []) hCM
noncomputable def hk43 : Hk := hor (hooksL []) hCM
noncomputable def hk44 : Hk := hor (hooksL []) hCM
noncomputable def hk45 : Hk := hor (hooksL []) hCM
noncomputable def hk46 : Hk := hor (hooksL [q45]) hCM
noncomputable def hk47 : Hk := hor (hooksL [q46]) hCM
noncomputable def hk48 : Hk := hor (hooksL [q47]) hCM
noncomputable def hk49 : Hk := hor (hooksL []) hCM
noncomputable def hk50 : Hk := hor (hooksL []) hCM
noncomputable def hk51 : Hk := hor (hooksL []) hCM
noncomputable def hk52 : Hk := hor (hooksL [q51]) hCM
noncomputable def hk53 : Hk := hor (hooksL [q52]) hCM
noncomputable def hk54 : Hk := hor (hooksL [q53]) hCM
noncomputable def hk55 : Hk := hor (hooksL []) hCM
noncomputable def hk56 : Hk := hor (hooksL []) hCM
noncomputable def hk57 : Hk := hor (hooksL []) hCM
noncomputable def hk58 : Hk := hor (hooksL []) hCM
noncomputable def hk59 : Hk := hor (hooksL []) hCM
noncomputable def hk60 : Hk := hor (hooksL []) hCM
noncomputable def hk61 : Hk := hor (hooksL []) hCM
noncomputable def hk62 : Hk := hor (hooksL []) hCM
noncomputable def hk63 : Hk := hor (hooksL []) hCM
noncomputable def hk64 : Hk := hor (hooksL []) hCM
noncomputable def hk65 : Hk := hor (hooksL []) hCM
noncomputable def hk66 : Hk := hor (hooksL []) hCM
noncomputable def hk67 : Hk := hor (hooksL []) hCM
noncomputable def hk68 : Hk := hor (hooksL []) hCM
noncomputable def hk69 : Hk := hor (hooksL []) hCM
noncomputable def hk70 : Hk := hor (hooksL []) hCM
noncomputable def hk71 : Hk := hor (hooksL []) hCM
noncomputable def hk72 : Hk := hor (hooksL []) hCM
noncomputable def hk73 : Hk := hor (hooksL []) hCM
noncomputable def hk74 : Hk := hor (hooksL []) hCM
noncomputable def hk75 : Hk := hor (hooksL []) hCM
noncomputable def hk76 : Hk := hor (hooksL []) hCM
noncomputable def hk77 : Hk := hor (hooksL []) hCM
noncomputable def aK : Inst := q2
noncomputable def hP : Hk := hor (q56.parHook 2 1) (hor (q15.parHook 2 0) (hor (hooksL [q2,q20,q21,q22,q26,q27,q28,q29,q33,q34,q35,q36,q37,q41,q42,q43,q44,q48,q49,q50,q54,q55,q57,q58,q59,q60,q61,q62,q63,q64,q65,q66,q67,q68,q69,q70,q71,q72,q73,q74,q75,q76,q77]) hCM))
noncomputable def hW : Hk := hor hP (hor aK.closed hT)
end Go.Proofs.YtjfmelmiegnmjaaGreatDoor
end
section
open Go Go.Sx Go.Proofs
set_option linter.all false
namespace Go.Proofs.YtjfmelmiegnmjaaGreatDoor
set_option maxRecDepth 1000000
def okT2 (t : Nat) : Bool := memN t (404 :: [7, 8, 22, 23, 29, 30, 39, 40, 43, 44, 52, 53, 54, 55, 81, 82, 83, 84, 87, 88, 89, 90, 91, 92, 117, 118, 120, 121, 132, 133, 137, 138, 139, 140, 146, 147, 150, 151, 153, 154, 156, 157, 165, 166, 168, 169, 170, 171, 173, 174, 176, 177, 178, 179, 184, 185, 217, 218, 226, 227, 230, 231, 241, 242, 268, 269, 273, 274, 297, 298, 310, 311, 357, 361, 362, 376, 377, 400, 401, 446, 447, 511, 512])
theorem okt2 : OkT Tryz.prog okT2 := okT_of (by kernel_rfl)
end Go.Proofs.YtjfmelmiegnmjaaGreatDoor
end
section
open Go Go.Sx Go.Proofs
set_option linter.all false
namespace Go.Proofs.YtjfmelmiegnmjaaGreatDoor
set_option maxRecDepth 1000000
def Rn (q : Inst) (hk : Hk) : Prop := ∀ E, q.chk (xcall Tryz.prog okT2 hk dhC 100000 100 q.f q.args (q.st0 E)) = true
def qok (q : Inst) : Bool := Nat.ble roN q.n && q.ro.all fun p => Nat.blt p.1 roN
theorem hgI {q : Inst} {hk : Hk} (r : Rn q hk) (b : qok q = true) (H : HkGood Tryz.prog hk) : HkGood Tryz.prog q.hook := inst_good okt2 callsOK mixed H dhC_good q (Bool.and_eq_true _ _ ▸ b).1 (Bool.and_eq_true _ _ ▸ b).2 r
theorem nq : ∀ i ∈ ([] : List Inst), HkGood Tryz.prog i.hook := fun i hi => by cases hi
theorem cq {q : Inst} {l : List Inst} (a : HkGood Tryz.prog q.hook) (b : ∀ i ∈ l, HkGood Tryz.prog i.hook) : ∀ i ∈ q :: l, HkGood Tryz.prog i.hook := fun i hi => by
  rcases List.mem_cons.1 hi with rfl | h
  · exact a
  · exact b i h
end Go.Proofs.YtjfmelmiegnmjaaGreatDoor
end
section
open Go Go.Sx Go.Proofs Go.RowKit
set_option linter.all false
namespace Go.Proofs.YtjfmelmiegnmjaaGreatDoor
set_option maxRecDepth 1000000
def pows : List Int := [1, 10, 100, 1000, 10000, 100000, 1000000, 10000000, 100000000, 1000000000, 10000000000, 100000000000, 1000000000000, 10000000000000, 100000000000000, 1000000000000000, 10000000000000000, 100000000000000000, 1000000000000000000, 10000000000000000000]
def rnds : List Int := [1116352408, 1899447441, 3049323471, 3921009573, 961987163, 1508970993, 2453635748, 2870763221, 3624381080, 310598401, 607225278, 1426881987, 1925078388, 2162078206, 2614888103, 3248222580, 3835390401, 4022224774, 264347078, 604807628, 770255983, 1249150122, 1555081692, 1996064986, 2554220882, 2821834349, 2952996808, 3210313671, 3336571891, 3584528711, 113926993, 338241895, 666307205, 773529912, 1294757372, 1396182291, 1695183700, 1986661051, 2177026350, 2456956037, 2730485921, 2820302411, 3259730800, 3345764771, 3516065817, 3600352804, 4094571909, 275423344, 430227734, 506948616, 659060556, 883997877, 958139571, 1322822218, 1537002063, 1747873779, 1955562222, 2024104815, 2227730452, 2361852424, 2428436474, 2756734187, 3204031479, 3329325298]
def fsts : List Int := [1779033703, 3144134277, 1013904242, 2773480762, 1359893119, 2600822924, 528734635, 1541459225]
def roW : List (Nat × Cont) := [(1, Cont.cells (fsts.map fun z => AV.int .u32 z)), (2, Cont.cells (rnds.map fun z => AV.int .u32 z)), (5, Cont.cells (pows.map fun z => AV.int .u64 z))]
theorem tPow : (Tryz.prog.globals[5]?).map (·.type) = some 505 := by kernel_rfl
theorem tRnd : (Tryz.prog.globals[2]?).map (·.type) = some 465 := by kernel_rfl
theorem tFst : (Tryz.prog.globals[1]?).map (·.type) = some 394 := by kernel_rfl
theorem laid_ro {laid : List (String × DataW Unit)} {W : World} (h : laidMet Tryz.prog laid W) {n1 n2 n3 : String} {d1 d2 d3 : DataW Unit} (i1 : (n1, d1) ∈ laid) (i2 : (n2, d2) ∈ laid) (i3 : (n3, d3) ∈ laid)
    (e1 : d1 = Lib.tabData .u32 fsts) (e2 : d2 = Lib.tabData .u32 rnds) (e3 : d3 = Lib.tabData .u64 pows) (g1 : Tryz.prog.globalNamed n1 = some 1) (g2 : Tryz.prog.globalNamed n2 = some 2) (g3 : Tryz.prog.globalNamed n3 = some 5) :
    ∃ E : Nat → Nat, ∀ id c, (id, c) ∈ roW → BlkOK (env0 Tryz.prog) W id (.mk (E id) 0 c) := by
  subst e1 e2 e3
  obtain ⟨a1, b1⟩ := laid_tab_blk h i1 g1 tFst Tryz.underlying394 Tryz.underlying24 (by kernel_rfl) (by kernel_rfl) (by decide)
  obtain ⟨a2, b2⟩ := laid_tab_blk h i2 g2 tRnd Tryz.underlying465 Tryz.underlying24 (by kernel_rfl) (by kernel_rfl) (by decide)
  obtain ⟨a3, b3⟩ := laid_tab_blk h i3 g3 tPow Tryz.underlying505 Tryz.underlying42 (by kernel_rfl) (by kernel_rfl) (by decide)
  refine ⟨fun id => if id = 1 then a1 else if id = 2 then a2 else a3, fun id c hm => ?_⟩
  simp only [roW, List.mem_cons, List.not_mem_nil, or_false, Prod.mk.injEq] at hm
  rcases hm with ⟨rfl, rfl⟩ | ⟨rfl, rfl⟩ | ⟨rfl, rfl⟩
  · exact b1
  · exact b2
  · exact b3
end Go.Proofs.YtjfmelmiegnmjaaGreatDoor
end
section
open Go Go.Sx Go.Proofs Go.RowKit
set_option linter.all false
namespace Go.Proofs.YtjfmelmiegnmjaaGreatDoor
set_option maxRecDepth 1000000
noncomputable def cF : Code := bodyOf Tryz.prog 7
noncomputable def nF : Nat := ntOf Tryz.prog 7
noncomputable def rsF : List ResultVar := resultsOf Tryz.prog 7
theorem cF_fn : fnOf Tryz.prog 7 = some (nF, cF, rsF) := by kernel_rfl
noncomputable def clF : Nat → List AV → St → Ro := xcall Tryz.prog okT hW dhC 1000 60
noncomputable def rF (st : St) (x y z : AV) : Ro := xleave Tryz.prog dhC rsF (xcode Tryz.prog okT clF nF 1000 cF (argsTr 0 [x, y, z] .lf) [] st)
end Go.Proofs.YtjfmelmiegnmjaaGreatDoor
end
