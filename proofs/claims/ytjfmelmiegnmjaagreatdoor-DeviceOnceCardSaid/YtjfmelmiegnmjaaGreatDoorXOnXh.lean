/- Hooks, tables, the law in the machine. -/
import Derived.Test.YtjfmelmiegnmjaaGreatDoorXNe
import Derived.Test.YtjfmelmiegnmjaaGreatDoorXOnIn
import Derived.Test.YtjfmelmiegnmjaaGreatDoorXOnXm0
import Derived.Test.YtjfmelmiegnmjaaGreatDoorXOnXm1
import Derived.Test.YtjfmelmiegnmjaaGreatDoorXOnXm2
import Derived.Test.YtjfmelmiegnmjaaGreatDoorXOnXd1
set_option linter.all false
section
open Go Go.Sx Go.Proofs Go.RowKit Go.Pw.Fl
set_option linter.all false
namespace Go.Proofs.YtjfmelmiegnmjaaGreatDoor
set_option maxRecDepth 1000000
noncomputable def gKey : List AV → Option AV
  | [.flt .f64 b] => match Nat.ble b 9218868437227405312 with
    | true => some (.int .u64 (.ofNat (Nat.add b 9223372036854775808)))
    | false => none
  | _ => none
noncomputable def gTime : List AV → Option AV
  | [.int .u64 (.ofNat n)] => match Nat.ble 9223372036854775808 n && Nat.blt n 18446744073709551616 with
    | true => some (.flt .f64 (Nat.sub n 9223372036854775808))
    | false => none
  | _ => none
theorem key_fn : fnOf Tryz.prog 68 = some (ntOf Tryz.prog 68, bodyOf Tryz.prog 68, resultsOf Tryz.prog 68) := by kernel_rfl
theorem time_fn : fnOf Tryz.prog 96 = some (ntOf Tryz.prog 96, bodyOf Tryz.prog 96, resultsOf Tryz.prog 96) := by kernel_rfl
theorem key_good : HkGood Tryz.prog (pureHook 68 gKey) := by
  obtain ⟨fn, h1, _, h3, _⟩ := fnOf_ok key_fn
  refine pureHook_good ⟨fn, _, h1, h3⟩ fun args v σ us hg hd => ?_
  unfold gKey at hg
  split at hg
  · rename_i b
    split at hg
    · rename_i hb
      have hb := Nat.le_of_ble_eq_true hb
      obtain rfl := Option.some.inj hg
      obtain ⟨u, l1, rfl, hx, hd⟩ := denL_cons hd
      obtain rfl := denL_nil hd
      obtain rfl := Option.some.inj hx
      have e : kKey b = ((b + 9223372036854775808 : Nat) : Int) := by
        rw [kKey_pos (nan_of (by unfold rg; omega)) (by omega)]
        omega
      refine ⟨.int .u64 ((b + 9223372036854775808 : Nat) : Int), rfl, fun w => ?_⟩
      have := key_any b (by omega) w
      rw [e] at this
      refine this.mono ?_
      rintro e w' ⟨rfl, rfl⟩
      exact ⟨rfl, rfl⟩
    · cases hg
  · cases hg
theorem time_good : HkGood Tryz.prog (pureHook 96 gTime) := by
  obtain ⟨fn, h1, _, h3, _⟩ := fnOf_ok time_fn
  refine pureHook_good ⟨fn, _, h1, h3⟩ fun args v σ us hg hd => ?_
  unfold gTime at hg
  split at hg
  · rename_i n
    split at hg
    · rename_i hb
      have hb := and3 hb
      have h1 := Nat.le_of_ble_eq_true hb.1
      have h2 : n < 18446744073709551616 := Nat.le_of_ble_eq_true hb.2
      obtain rfl := Option.some.inj hg
      obtain ⟨u, l1, rfl, hx, hd⟩ := denL_cons hd
      obtain rfl := denL_nil hd
      obtain rfl := Option.some.inj hx
      have e : tTime (n : Int) = n - 9223372036854775808 := by
        unfold tTime
        rw [if_pos (by omega)]
        omega
      refine ⟨.float .f64 (n - 9223372036854775808), rfl, fun w => ?_⟩
      have := time_any (n : Int) (by omega) (by omega) w
      rw [e] at this
      refine this.mono ?_
      rintro e w' ⟨rfl, rfl⟩
      exact ⟨rfl, rfl⟩
    · cases hg
  · cases hg
noncomputable def hI : Hk := hor (pureHook 68 gKey) (pureHook 96 gTime)
theorem hI_good : HkGood Tryz.prog hI := HkGood.or key_good time_good
#print axioms hI_good
end Go.Proofs.YtjfmelmiegnmjaaGreatDoor
end
section
open Go Go.Sx Go.Proofs Go.RowKit
set_option linter.all false
namespace Go.Proofs.YtjfmelmiegnmjaaGreatDoor
set_option maxRecDepth 1000000
noncomputable def tblM : List ME := [m0, m1, m2, m3, m4, m5, m6, m7, m8, m9, m10, m11, m12, m13, m14, m15, m16, m17, m18, m19, m20, m21, m22, m23, m24, m25, m26, m27, m28, m29, m30, m31, m32, m33, m34, m35, m36, m37, m38]
theorem tblM_ok : ∀ e ∈ tblM, e.ok := by
  intro e he
  simp only [tblM, List.mem_cons, List.not_mem_nil, or_false] at he
  rcases he with rfl | rfl | rfl | rfl | rfl | rfl | rfl | rfl | rfl | rfl | rfl | rfl | rfl | rfl | rfl | rfl | rfl | rfl | rfl | rfl | rfl | rfl | rfl | rfl | rfl | rfl | rfl | rfl | rfl | rfl | rfl | rfl | rfl | rfl | rfl | rfl | rfl | rfl | rfl
  · exact m0_ok
  · exact m1_ok
  · exact m2_ok
  · exact m3_ok
  · exact m4_ok
  · exact m5_ok
  · exact m6_ok
  · exact m7_ok
  · exact m8_ok
  · exact m9_ok
  · exact m10_ok
  · exact m11_ok
  · exact m12_ok
  · exact m13_ok
  · exact m14_ok
  · exact m15_ok
  · exact m16_ok
  · exact m17_ok
  · exact m18_ok
  · exact m19_ok
  · exact m20_ok
  · exact m21_ok
  · exact m22_ok
  · exact m23_ok
  · exact m24_ok
  · exact m25_ok
  · exact m26_ok
  · exact m27_ok
  · exact m28_ok
  · exact m29_ok
  · exact m30_ok
  · exact m31_ok
  · exact m32_ok
  · exact m33_ok
  · exact m34_ok
  · exact m35_ok
  · exact m36_ok
  · exact m37_ok
  · exact m38_ok
noncomputable def hCM : Hk := hor (nsHook 239 5 (gLook tblM)) (hor hI hCN)
theorem hCM_good : HkGood Tryz.prog hCM := HkGood.or (look_good tblM_ok) (HkGood.or hI_good hCN_good)
end Go.Proofs.YtjfmelmiegnmjaaGreatDoor
end
section
open Go Go.Sx Go.Proofs
set_option linter.all false
namespace Go.Proofs.YtjfmelmiegnmjaaGreatDoor
set_option maxRecDepth 1000000
noncomputable def hk0 : Hk := hor (hooksL []) hCM
noncomputable def hk1 : Hk := hor (hooksL []) hCM
noncomputable def hk2 : Hk := hor (hooksL [q0,q1]) hCM
noncomputable def hk3 : Hk := hor (hooksL []) hCM
noncomputable def hk4 : Hk := hor (hooksL []) hCM
noncomputable def hk5 : Hk := hor (hooksL [q4]) hCM
noncomputable def hk6 : Hk := hor (hooksL [q3,q5]) hCM
noncomputable def hk7 : Hk := hor (hooksL []) hCM
noncomputable def hk8 : Hk := hor (hooksL []) hCM
noncomputable def hk9 : Hk := hor (hooksL [q8]) hCM
noncomputable def hk10 : Hk := hor (hooksL [q6,q7,q9]) hCM
noncomputable def hk11 : Hk := hor (hooksL []) hCM
noncomputable def hk12 : Hk := hor (hooksL [q11]) hCM
noncomputable def hk13 : Hk := hor (hooksL []) hCM
noncomputable def hk14 : Hk := hor (hooksL [q13]) hCM
noncomputable def hk15 : Hk := hor (hooksL [q12,q14]) hCM
noncomputable def hk16 : Hk := hor (hooksL []) hCM
noncomputable def hk17 : Hk := hor (hooksL [q16]) hCM
noncomputable def hk18 : Hk := hor (hooksL [q17]) hCM
noncomputable def hk19 : Hk := hor (hooksL [q18]) hCM
noncomputable def hk20 : Hk := hor (hooksL []) hCM
noncomputable def hk21 : Hk := hor (hooksL []) hCM
noncomputable def hk22 : Hk := hor (hooksL []) hCM
noncomputable def hk23 : Hk := hor (hooksL []) hCM
noncomputable def hk24 : Hk := hor (hooksL []) hCM
noncomputable def hk25 : Hk := hor (hooksL []) hCM
noncomputable def hk26 : Hk := hor (hooksL []) hCM
noncomputable def hk27 : Hk := hor (hooksL []) hCM
noncomputable def hk28 : Hk := hor (hooksL []) hCM
noncomputable def hk29 : Hk := hor (hooksL []) hCM
noncomputable def hk30 : Hk := hor (hooksL [q29]) hCM
noncomputable def hk31 : Hk := hor (hooksL []) hCM
noncomputable def hk32 : Hk := hor (hooksL [q31]) hCM
noncomputable def hk33 : Hk := hor (hooksL [q30,q32]) hCM
noncomputable def hk34 : Hk := hor (hooksL []) hCM
noncomputable def hk35 : Hk := hor (hooksL [q34]) hCM
noncomputable def hk36 : Hk := hor (hooksL [q35]) hCM
noncomputable def hk37 : Hk := hor (hooksL [q36]) hCM
noncomputable def hk38 : Hk := hor (hooksL []) hCM
noncomputable def hk39 : Hk := hor (hooksL []) hCM
noncomputable def hk40 : Hk := hor (hooksL []) hCM
noncomputable def hk41 : Hk := hor (hooksL []) hCM
noncomputable def hk42 : Hk := hor (hooksL []) hCM
noncomputable def hk43 : Hk := hor (hooksL []) hCM
noncomputable def hk44 : Hk := hor (hooksL []) hCM
noncomputable def hk45 : Hk := hor (hooksL []) hCM
noncomputable def hk46 : Hk := hor (hooksL []) hCM
noncomputable def hk47 : Hk := hor (hooksL []) hCM
noncomputable def hk48 : Hk := hor (hooksL [q47]) hCM
noncomputable def hk49 : Hk := hor (hooksL []) hCM
noncomputable def hk50 : Hk := hor (hooksL [q49]) hCM
noncomputable def hk51 : Hk := hor (hooksL [q48,q50]) hCM
noncomputable def hk52 : Hk := hor (hooksL []) hCM
noncomputable def hk53 : Hk := hor (hooksL [q52]) hCM
noncomputable def hk54 : Hk := hor (hooksL [q53]) hCM
noncomputable def hk55 : Hk := hor (hooksL [q54]) hCM
noncomputable def hk56 : Hk := hor (hooksL []) hCM
noncomputable def hk57 : Hk := hor (hooksL []) hCM
noncomputable def hk58 : Hk := hor (hooksL []) hCM
noncomputable def hk59 : Hk := hor (hooksL []) hCM
noncomputable def hk60 : Hk := hor (hooksL []) hCM
noncomputable def hk61 : Hk := hor (hooksL []) hCM
noncomputable def hk62 : Hk := hor (hooksL []) hCM
noncomputable def hk63 : Hk := hor (hooksL []) hCM
noncomputable def hk64 : Hk := hor (hooksL []) hCM
noncomputable def hk65 : Hk := hor (hooksL []) hCM
noncomputable def hk66 : Hk := hor (hooksL []) hCM
noncomputable def hk67 : Hk := hor (hooksL [q66]) hCM
noncomputable def hk68 : Hk := hor (hooksL []) hCM
noncomputable def hk69 : Hk := hor (hooksL [q68]) hCM
noncomputable def hk70 : Hk := hor (hooksL [q67,q69]) hCM
noncomputable def hk71 : Hk := hor (hooksL []) hCM
noncomputable def hk72 : Hk := hor (hooksL [q71]) hCM
noncomputable def hk73 : Hk := hor (hooksL [q72]) hCM
noncomputable def hk74 : Hk := hor (hooksL [q73]) hCM
noncomputable def hk75 : Hk := hor (hooksL []) hCM
noncomputable def hk76 : Hk := hor (hooksL []) hCM
noncomputable def hk77 : Hk := hor (hooksL []) hCM
noncomputable def hk78 : Hk := hor (hooksL []) hCM
noncomputable def hk79 : Hk := hor (hooksL []) hCM
noncomputable def hk80 : Hk := hor (hooksL []) hCM
noncomputable def hk81 : Hk := hor (hooksL []) hCM
noncomputable def hk82 : Hk := hor (hooksL []) hCM
noncomputable def hk83 : Hk := hor (hooksL []) hCM
noncomputable def hk84 : Hk := hor (hooksL []) hCM
noncomputable def hk85 : Hk := hor (hooksL []) hCM
noncomputable def hk86 : Hk := hor (hooksL [q85]) hCM
noncomputable def hk87 : Hk := hor (hooksL []) hCM
noncomputable def hk88 : Hk := hor (hooksL [q87]) hCM
noncomputable def hk89 : Hk := hor (hooksL [q86,q88]) hCM
noncomputable def hk90 : Hk := hor (hooksL []) hCM
noncomputable def hk91 : Hk := hor (hooksL [q90]) hCM
noncomputable def hk92 : Hk := hor (hooksL [q91]) hCM
noncomputable def hk93 : Hk := hor (hooksL [q92]) hCM
noncomputable def hk94 : Hk := hor (hooksL []) hCM
noncomputable def hk95 : Hk := hor (hooksL []) hCM
noncomputable def hk96 : Hk := hor (hooksL []) hCM
noncomputable def hk97 : Hk := hor (hooksL []) hCM
noncomputable def hk98 : Hk := hor (hooksL []) hCM
noncomputable def hk99 : Hk := hor (hooksL []) hCM
noncomputable def hk100 : Hk := hor (hooksL []) hCM
noncomputable def hk101 : Hk := hor (hooksL []) hCM
noncomputable def hk102 : Hk := hor (hooksL []) hCM
noncomputable def hk103 : Hk := hor (hooksL []) hCM
noncomputable def hk104 : Hk := hor (hooksL []) hCM
noncomputable def hk105 : Hk := hor (hooksL [q104]) hCM
noncomputable def hk106 : Hk := hor (hooksL []) hCM
noncomputable def hk107 : Hk := hor (hooksL [q106]) hCM
noncomputable def hk108 : Hk := hor (hooksL [q105,q107]) hCM
noncomputable def hk109 : Hk := hor (hooksL []) hCM
noncomputable def hk110 : Hk := hor (hooksL [q109]) hCM
noncomputable def hk111 : Hk := hor (hooksL [q110]) hCM
noncomputable def hk112 : Hk := hor (hooksL [q111]) hCM
noncomputable def hk113 : Hk := hor (hooksL []) hCM
noncomputable def hk114 : Hk := hor (hooksL []) hCM
noncomputable def hk115 : Hk := hor (hooksL []) hCM
noncomputable def hk116 : Hk := hor (hooksL []) hCM
noncomputable def hk117 : Hk := hor (hooksL []) hCM
noncomputable def hk118 : Hk := hor (hooksL []) hCM
noncomputable def hk119 : Hk := hor (hooksL []) hCM
noncomputable def hk120 : Hk := hor (hooksL []) hCM
noncomputable def hk121 : Hk := hor (hooksL []) hCM
noncomputable def hk122 : Hk := hor (hooksL []) hCM
noncomputable def hk123 : Hk := hor (hooksL []) hCM
noncomputable def hk124 : Hk := hor (hooksL []) hCM
noncomputable def hk125 : Hk := hor (hooksL []) hCM
noncomputable def hk126 : Hk := hor (hooksL []) hCM
noncomputable def hk127 : Hk := hor (hooksL []) hCM
noncomputable def hk128 : Hk := hor (hooksL []) hCM
noncomputable def hk129 : Hk := hor (hooksL []) hCM
noncomputable def hk130 : Hk := hor (hooksL []) hCM
noncomputable def hk131 : Hk := hor (hooksL []) hCM
noncomputable def hk132 : Hk := hor (hooksL []) hCM
noncomputable def hk133 : Hk := hor (hooksL []) hCM
noncomputable def hk134 : Hk := hor (hooksL []) hCM
noncomputable def hk135 : Hk := hor (hooksL []) hCM
noncomputable def hk136 : Hk := hor (hooksL []) hCM
noncomputable def hk137 : Hk := hor (hooksL []) hCM
noncomputable def hk138 : Hk := hor (hooksL []) hCM
noncomputable def hk139 : Hk := hor (hooksL []) hCM
noncomputable def hk140 : Hk := hor (hooksL []) hCM
noncomputable def hk141 : Hk := hor (hooksL []) hCM
noncomputable def hk142 : Hk := hor (hooksL []) hCM
noncomputable def hk143 : Hk := hor (hooksL []) hCM
noncomputable def hk144 : Hk := hor (hooksL []) hCM
noncomputable def hk145 : Hk := hor (hooksL []) hCM
noncomputable def hk146 : Hk := hor (hooksL []) hCM
noncomputable def hk147 : Hk := hor (hooksL []) hCM
noncomputable def hk148 : Hk := hor (hooksL []) hCM
noncomputable def hk149 : Hk := hor (hooksL []) hCM
noncomputable def hk150 : Hk := hor (hooksL []) hCM
noncomputable def hk151 : Hk := hor (hooksL []) hCM
noncomputable def hk152 : Hk := hor (hooksL []) hCM
noncomputable def hk153 : Hk := hor (hooksL []) hCM
noncomputable def hk154 : Hk := hor (hooksL []) hCM
noncomputable def hk155 : Hk := hor (hooksL []) hCM
noncomputable def hk156 : Hk := hor (hooksL []) hCM
noncomputable def hk157 : Hk := hor (hooksL []) hCM
noncomputable def hk158 : Hk := hor (hooksL []) hCM
noncomputable def hk159 : Hk := hor (hooksL []) hCM
noncomputable def hk160 : Hk := hor (hooksL []) hCM
noncomputable def hk161 : Hk := hor (hooksL []) hCM
noncomputable def hk162 : Hk := hor (hooksL []) hCM
noncomputable def hk163 : Hk := hor (hooksL []) hCM
noncomputable def hk164 : Hk := hor (hooksL []) hCM
noncomputable def hk165 : Hk := hor (hooksL []) hCM
noncomputable def hk166 : Hk := hor (hooksL []) hCM
noncomputable def hk167 : Hk := hor (hooksL []) hCM
noncomputable def hk168 : Hk := hor (hooksL []) hCM
noncomputable def hk169 : Hk := hor (hooksL []) hCM
noncomputable def hk170 : Hk := hor (hooksL []) hCM
noncomputable def hk171 : Hk := hor (hooksL []) hCM
noncomputable def hk172 : Hk := hor (hooksL []) hCM
noncomputable def hk173 : Hk := hor (hooksL []) hCM
noncomputable def hk174 : Hk := hor (hooksL []) hCM
noncomputable def hk175 : Hk := hor (hooksL []) hCM
noncomputable def hk176 : Hk := hor (hooksL []) hCM
noncomputable def hk177 : Hk := hor (hooksL []) hCM
noncomputable def hk178 : Hk := hor (hooksL []) hCM
noncomputable def hk179 : Hk := hor (hooksL []) hCM
noncomputable def hk180 : Hk := hor (hooksL []) hCM
noncomputable def hk181 : Hk := hor (hooksL []) hCM
noncomputable def hk182 : Hk := hor (hooksL []) hCM
noncomputable def hk183 : Hk := hor (hooksL []) hCM
noncomputable def hk184 : Hk := hor (hooksL []) hCM
noncomputable def hk185 : Hk := hor (hooksL []) hCM
noncomputable def hk186 : Hk := hor (hooksL []) hCM
noncomputable def hk187 : Hk := hor (hooksL []) hCM
noncomputable def hk188 : Hk := hor (hooksL []) hCM
noncomputable def hk189 : Hk := hor (hooksL []) hCM
noncomputable def hk190 : Hk := hor (hooksL []) hCM
noncomputable def hk191 : Hk := hor (hooksL []) hCM
noncomputable def hk192 : Hk := hor (hooksL []) hCM
noncomputable def hk193 : Hk := hor (hooksL []) hCM
noncomputable def hk194 : Hk := hor (hooksL []) hCM
noncomputable def hk195 : Hk := hor (hooksL []) hCM
noncomputable def hk196 : Hk := hor (hooksL []) hCM
noncomputable def hk197 : Hk := hor (hooksL []) hCM
noncomputable def hk198 : Hk := hor (hooksL []) hCM
noncomputable def hk199 : Hk := hor (hooksL []) hCM
noncomputable def hk200 : Hk := hor (hooksL []) hCM
noncomputable def hk201 : Hk := hor (hooksL []) hCM
noncomputable def hk202 : Hk := hor (hooksL []) hCM
noncomputable def hk203 : Hk := hor (hooksL []) hCM
noncomputable def hk204 : Hk := hor (hooksL []) hCM
noncomputable def hk205 : Hk := hor (hooksL []) hCM
noncomputable def hk206 : Hk := hor (hooksL []) hCM
noncomputable def hk207 : Hk := hor (hooksL []) hCM
noncomputable def hk208 : Hk := hor (hooksL []) hCM
noncomputable def hk209 : Hk := hor (hooksL []) hCM
noncomputable def hk210 : Hk := hor (hooksL []) hCM
noncomputable def hk211 : Hk := hor (hooksL []) hCM
noncomputable def hk212 : Hk := hor (hooksL []) hCM
noncomputable def hk213 : Hk := hor (hooksL []) hCM
noncomputable def hk214 : Hk := hor (hooksL []) hCM
noncomputable def hk215 : Hk := hor (hooksL []) hCM
noncomputable def hk216 : Hk := hor (hooksL []) hCM
noncomputable def hk217 : Hk := hor (hooksL []) hCM
noncomputable def hk218 : Hk := hor (hooksL []) hCM
noncomputable def hk219 : Hk := hor (hooksL []) hCM
noncomputable def hk220 : Hk := hor (hooksL []) hCM
noncomputable def hk221 : Hk := hor (hooksL []) hCM
noncomputable def hk222 : Hk := hor (hooksL []) hCM
noncomputable def hk223 : Hk := hor (hooksL []) hCM
noncomputable def hk224 : Hk := hor (hooksL []) hCM
noncomputable def hk225 : Hk := hor (hooksL []) hCM
noncomputable def hk226 : Hk := hor (hooksL []) hCM
noncomputable def hk227 : Hk := hor (hooksL []) hCM
noncomputable def hk228 : Hk := hor (hooksL []) hCM
noncomputable def hk229 : Hk := hor (hooksL []) hCM
noncomputable def hk230 : Hk := hor (hooksL []) hCM
noncomputable def hk231 : Hk := hor (hooksL []) hCM
noncomputable def hk232 : Hk := hor (hooksL []) hCM
noncomputable def hk233 : Hk := hor (hooksL []) hCM
noncomputable def hk234 : Hk := hor (hooksL []) hCM
noncomputable def hk235 : Hk := hor (hooksL []) hCM
noncomputable def hk236 : Hk := hor (hooksL []) hCM
noncomputable def hk237 : Hk := hor (hooksL []) hCM
noncomputable def hk238 : Hk := hor (hooksL []) hCM
noncomputable def hk239 : Hk := hor (hooksL []) hCM
noncomputable def hk240 : Hk := hor (hooksL []) hCM
noncomputable def hk241 : Hk := hor (hooksL []) hCM
noncomputable def hk242 : Hk := hor (hooksL []) hCM
noncomputable def hk243 : Hk := hor (hooksL []) hCM
noncomputable def hk244 : Hk := hor (hooksL []) hCM
noncomputable def hk245 : Hk := hor (hooksL []) hCM
noncomputable def hk246 : Hk := hor (hooksL []) hCM
noncomputable def hk247 : Hk := hor (hooksL []) hCM
noncomputable def hk248 : Hk := hor (hooksL []) hCM
noncomputable def hk249 : Hk := hor (hooksL []) hCM
noncomputable def hk250 : Hk := hor (hooksL []) hCM
noncomputable def hk251 : Hk := hor (hooksL []) hCM
noncomputable def hk252 : Hk := hor (hooksL []) hCM
noncomputable def hk253 : Hk := hor (hooksL []) hCM
noncomputable def hk254 : Hk := hor (hooksL []) hCM
noncomputable def hk255 : Hk := hor (hooksL []) hCM
noncomputable def hk256 : Hk := hor (hooksL []) hCM
noncomputable def hk257 : Hk := hor (hooksL []) hCM
noncomputable def hk258 : Hk := hor (hooksL []) hCM
noncomputable def hk259 : Hk := hor (hooksL []) hCM
noncomputable def aK : Inst := q2
noncomputable def hP : Hk := hor (q123.parHook 2 1) (hor (q10.parHook 2 0) (hor (hooksL [q2,q15,q19,q20,q21,q22,q23,q24,q25,q26,q27,q28,q33,q37,q38,q39,q40,q41,q42,q43,q44,q45,q46,q51,q55,q56,q57,q58,q59,q60,q61,q62,q63,q64,q65,q70,q74,q75,q76,q77,q78,q79,q80,q81,q82,q83,q84,q89,q93,q94,q95,q96,q97,q98,q99,q100,q101,q102,q103,q108,q112,q113,q114,q115,q116,q117,q118,q119,q120,q121,q122,q124,q125,q126,q127,q128,q129,q130,q131,q132,q133,q134,q135,q136,q137,q138,q139,q140,q141,q142,q143,q144,q145,q146,q147,q148,q149,q150,q151,q152,q153,q154,q155,q156,q157,q158,q159,q160,q161,q162,q163,q164,q165,q166,q167,q168,q169,q170,q171,q172,q173,q174,q175,q176,q177,q178,q179,q180,q181,q182,q183,q184,q185,q186,q187,q188,q189,q190,q191,q192,q193,q194,q195,q196,q197,q198,q199,q200,q201,q202,q203,q204,q205,q206,q207,q208,q209,q210,q211,q212,q213,q214,q215,q216,q217,q218,q219,q220,q221,q222,q223,q224,q225,q226,q227,q228,q229,q230,q231,q232,q233,q234,q235,q236,q237,q238,q239,q240,q241,q242,q243,q244,q245,q246,q247,q248,q249,q250,q251,q252,q253,q254,q255,q256,q257,q258,q259]) hCM))
noncomputable def hW : Hk := hor hP aK.closed
end Go.Proofs.YtjfmelmiegnmjaaGreatDoor
end
section
open Go Go.Sx Go.Proofs
set_option linter.all false
namespace Go.Proofs.YtjfmelmiegnmjaaGreatDoor
set_option maxRecDepth 1000000
def okT2 (t : Nat) : Bool := memN t (404 :: [7, 8, 22, 23, 29, 30, 39, 40, 43, 44, 52, 53, 54, 55, 81, 82, 83, 84, 87, 88, 89, 90, 91, 92, 117, 118, 120, 121, 132, 133, 137, 138, 139, 140, 146, 147, 150, 151, 153, 154, 156, 157, 165, 166, 168, 169, 170, 171, 173, 174, 176, 177, 178, 179, 184, 185, 217, 218, 226, 227, 230, 231, 241, 242, 268, 269, 273, 274, 297, 298, 310, 311, 357, 361, 362, 376, 377, 400, 401, 446, 447, 511, 512])
theorem okt2 : OkT Tryz.prog okT2 := okT_of (by kernel_rfl)
end Go.Proofs.YtjfmelmiegnmjaaGreatDoor
end
section
open Go Go.Sx Go.Proofs
set_option linter.all false
namespace Go.Proofs.YtjfmelmiegnmjaaGreatDoor
set_option maxRecDepth 1000000
def Rn (q : Inst) (hk : Hk) : Prop := ∀ E, q.chk (xcall Tryz.prog okT2 hk dhC 100000 100 q.f q.args (q.st0 E)) = true
def qok (q : Inst) : Bool := Nat.ble roN q.n && q.ro.all fun p => Nat.blt p.1 roN
theorem hgI {q : Inst} {hk : Hk} (r : Rn q hk) (b : qok q = true) (H : HkGood Tryz.prog hk) : HkGood Tryz.prog q.hook := inst_good okt2 callsOK mixed H dhC_good q (Bool.and_eq_true _ _ ▸ b).1 (Bool.and_eq_true _ _ ▸ b).2 r
theorem nq : ∀ i ∈ ([] : List Inst), HkGood Tryz.prog i.hook := fun i hi => by cases hi
theorem cq {q : Inst} {l : List Inst} (a : HkGood Tryz.prog q.hook) (b : ∀ i ∈ l, HkGood Tryz.prog i.hook) : ∀ i ∈ q :: l, HkGood Tryz.prog i.hook := fun i hi => by
  rcases List.mem_cons.1 hi with rfl | h
  · exact a
  · exact b i h
end Go.Proofs.YtjfmelmiegnmjaaGreatDoor
end
section
open Go Go.Sx Go.Proofs Go.RowKit
set_option linter.all false
namespace Go.Proofs.YtjfmelmiegnmjaaGreatDoor
set_option maxRecDepth 1000000
def pows : List Int := [1, 10, 100, 1000, 10000, 100000, 1000000, 10000000, 100000000, 1000000000, 10000000000, 100000000000, 1000000000000, 10000000000000, 100000000000000, 1000000000000000, 10000000000000000, 100000000000000000, 1000000000000000000, 10000000000000000000]
def rnds : List Int := [1116352408, 1899447441, 3049323471, 3921009573, 961987163, 1508970993, 2453635748, 2870763221, 3624381080, 310598401, 607225278, 1426881987, 1925078388, 2162078206, 2614888103, 3248222580, 3835390401, 4022224774, 264347078, 604807628, 770255983, 1249150122, 1555081692, 1996064986, 2554220882, 2821834349, 2952996808, 3210313671, 3336571891, 3584528711, 113926993, 338241895, 666307205, 773529912, 1294757372, 1396182291, 1695183700, 1986661051, 2177026350, 2456956037, 2730485921, 2820302411, 3259730800, 3345764771, 3516065817, 3600352804, 4094571909, 275423344, 430227734, 506948616, 659060556, 883997877, 958139571, 1322822218, 1537002063, 1747873779, 1955562222, 2024104815, 2227730452, 2361852424, 2428436474, 2756734187, 3204031479, 3329325298]
def fsts : List Int := [1779033703, 3144134277, 1013904242, 2773480762, 1359893119, 2600822924, 528734635, 1541459225]
def roW : List (Nat × Cont) := [(1, Cont.cells (fsts.map fun z => AV.int .u32 z)), (2, Cont.cells (rnds.map fun z => AV.int .u32 z)), (5, Cont.cells (pows.map fun z => AV.int .u64 z))]
theorem tPow : (Tryz.prog.globals[5]?).map (·.type) = some 505 := by kernel_rfl
theorem tRnd : (Tryz.prog.globals[2]?).map (·.type) = some 465 := by kernel_rfl
theorem tFst : (Tryz.prog.globals[1]?).map (·.type) = some 394 := by kernel_rfl
theorem laid_ro {laid : List (String × DataW Unit)} {W : World} (h : laidMet Tryz.prog laid W) {n1 n2 n3 : String} {d1 d2 d3 : DataW Unit} (i1 : (n1, d1) ∈ laid) (i2 : (n2, d2) ∈ laid) (i3 : (n3, d3) ∈ laid)
    (e1 : d1 = Lib.tabData .u32 fsts) (e2 : d2 = Lib.tabData .u32 rnds) (e3 : d3 = Lib.tabData .u64 pows) (g1 : Tryz.prog.globalNamed n1 = some 1) (g2 : Tryz.prog.globalNamed n2 = some 2) (g3 : Tryz.prog.globalNamed n3 = some 5) :
    ∃ E : Nat → Nat, ∀ id c, (id, c) ∈ roW → BlkOK (env0 Tryz.prog) W id (.mk (E id) 0 c) := by
  subst e1 e2 e3
  obtain ⟨a1, b1⟩ := laid_tab_blk h i1 g1 tFst Tryz.underlying394 Tryz.underlying24 (by kernel_rfl) (by kernel_rfl) (by decide)
  obtain ⟨a2, b2⟩ := laid_tab_blk h i2 g2 tRnd Tryz.underlying465 Tryz.underlying24 (by kernel_rfl) (by kernel_rfl) (by decide)
  obtain ⟨a3, b3⟩ := laid_tab_blk h i3 g3 tPow Tryz.underlying505 Tryz.underlying42 (by kernel_rfl) (by kernel_rfl) (by decide)
  refine ⟨fun id => if id = 1 then a1 else if id = 2 then a2 else a3, fun id c hm => ?_⟩
  simp only [roW, List.mem_cons, List.not_mem_nil, or_false, Prod.mk.injEq] at hm
  rcases hm with ⟨rfl, rfl⟩ | ⟨rfl, rfl⟩ | ⟨rfl, rfl⟩
  · exact b1
  · exact b2
  · exact b3
end Go.Proofs.YtjfmelmiegnmjaaGreatDoor
end
section
open Go Go.Sx Go.Proofs Go.RowKit
set_option linter.all false
namespace Go.Proofs.YtjfmelmiegnmjaaGreatDoor
set_option maxRecDepth 1000000
noncomputable def cF : Code := bodyOf Tryz.prog 8
noncomputable def nF : Nat := ntOf Tryz.prog 8
noncomputable def rsF : List ResultVar := resultsOf Tryz.prog 8
theorem cF_fn : fnOf Tryz.prog 8 = some (nF, cF, rsF) := by kernel_rfl
noncomputable def rF (E : Nat → Nat) (x y z : AV) : Ro := xleave Tryz.prog dhC rsF (xcode Tryz.prog okT (xcall Tryz.prog okT hW dhC 1000 60) nF 1000 cF (argsTr 0 [x, y, z] .lf) [] (st0 roW E))
end Go.Proofs.YtjfmelmiegnmjaaGreatDoor
end
