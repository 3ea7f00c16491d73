/- The contract of envelope.Decode at any bytes. -/
import Derived.Test.YticojdepepkdlaaEnvDff
import Derived.Test.YticojdepepkdlaaEnvDft
import Derived.Test.YticojdepepkdlaaEnvDtf
import Derived.Test.YticojdepepkdlaaEnvDtt
set_option linter.unusedSimpArgs false
set_option linter.unusedVariables false
namespace Go.Proofs.Yticojdepepkdlaa
open Go.RowKit Go.Pw
set_option linter.unusedVariables false

theorem decode_any (p : Value) (ps : List Int) (w : World) (hp : Rd w p ps) (hb : Byt ps) (hl : ps.length ≤ 1000000000) :
    Calls Try.prog 58 #[p] w (DecE ps w) := by
  cases hf : (pF (pB (pW (pW (ps, false)).2).2).2).1 <;> cases he : Ends (pEnv (ps, false)).2
  · exact decode_ff p ps w hp hb hl hf he
  · exact decode_ft p ps w hp hb hl hf he
  · exact decode_tf p ps w hp hb hl hf he
  · exact decode_tt p ps w hp hb hl hf he


theorem pEnv_be (fu fd tu td : Int) (ss : List Int) (has : Bool) (a s k : List Int) (sg : Int) (hh : Bool) (on : Int) (dks : List Int) (dp dn : Int) (sls : List Int) (l1 : ss.length ≤ 65536) (l2 : a.length ≤ 65536) (l3 : s.length ≤ 65536) (l4 : k.length ≤ 65536) (l5 : dks.length ≤ 65536) (l6 : sls.length ≤ 65536) (u1 : U32 sg) (u2 : U32 on) (u3 : U32 dp) (u4 : U32 dn) :
    pEnv (envB fu fd tu td ss has a s k sg hh on dks dp dn sls, false) = (⟨IntKind.u32.wrap fu, IntKind.u32.wrap fd, IntKind.u32.wrap tu, IntKind.u32.wrap td, ss, has, if has then ⟨a, s, k, sg, hh, if hh then on else 0⟩ else h0, dks, dp, dn, sls⟩, [], false) := by
  have e : envB fu fd tu td ss has a s k sg hh on dks dp dn sls = whoB fu fd ++ (whoB tu td ++ (be ss.length 4 ++ ss ++ ([if has then 1 else 0] ++ ((if has then helloB a s k sg hh on else []) ++ (be dks.length 4 ++ dks ++ (be dp 4 ++ (be dn 4 ++ (be sls.length 4 ++ sls)))))))) := by simp [envB, frontB, headB]
  have e2 : pOH has ((if has then helloB a s k sg hh on else []) ++ (be dks.length 4 ++ dks ++ (be dp 4 ++ (be dn 4 ++ (be sls.length 4 ++ sls)))), false) = (if has then ⟨a, s, k, sg, hh, if hh then on else 0⟩ else h0, be dks.length 4 ++ dks ++ (be dp 4 ++ (be dn 4 ++ (be sls.length 4 ++ sls))), false) := by
    unfold pOH
    cases has
    · rfl
    · simp only [if_true]
      exact pH_be a s k _ sg hh on l2 l3 l4 u1 u2
  unfold pEnv
  rw [e]
  simp only
  rw [pW_be]
  simp only
  rw [pW_be]
  simp only
  rw [pB_be ss _ l1]
  simp only
  rw [pF_be has]
  simp only
  rw [e2]
  simp only
  rw [pB_be dks _ l5]
  simp only
  rw [pN_be dp _ u3]
  simp only
  rw [pN_be dn _ u4]
  simp only
  rw [pB_be0 sls l6]
end Go.Proofs.Yticojdepepkdlaa
