/- Many resources in a list: spliced, picked, put back, one more. No program. -/
import Derived.Test.YtdlbkdnpbcpjfaaWho
import Derived.Test.YtdlbkdnpbcpjfaaCpy
namespace Go.Pw
open Go.RowKit
set_option linter.unusedVariables false

theorem Sep.splice {w0 w : World} {L rs : List Res} (h : Sep w0 w (many L :: rs)) : Sep w0 w (L ++ rs) := by
  have hp := List.pairwise_cons.1 h.apart
  have hm : (many L).ok w := h.head
  refine ⟨h.only, fun r hr => ?_, fun r hr k hk => ?_, List.pairwise_append.2 ⟨hm.2, hp.2, fun a ha b hb k hk => ?_⟩⟩
  · rcases List.mem_append.1 hr with hr | hr
    · exact hm.1 r hr
    · exact h.ok r (by simp [hr])
  · rcases List.mem_append.1 hr with hr | hr
    · exact h.new (many L) (by simp) k (List.mem_flatMap.2 ⟨r, hr, hk⟩)
    · exact h.new r (by simp [hr]) k hk
  · exact hp.1 b hb k (List.mem_flatMap.2 ⟨a, ha, hk⟩)
theorem Sep.gather {w0 w : World} {L rs : List Res} (h : Sep w0 w (L ++ rs)) : Sep w0 w (many L :: rs) := by
  have hp := List.pairwise_append.1 h.apart
  refine ⟨h.only, fun r hr => ?_, fun r hr k hk => ?_, List.pairwise_cons.2 ⟨fun r hr k hk => ?_, hp.2.1⟩⟩
  · rcases List.mem_cons.1 hr with rfl | hr
    · exact ⟨fun r hr => h.ok r (by simp [hr]), hp.1⟩
    · exact h.ok r (by simp [hr])
  · rcases List.mem_cons.1 hr with rfl | hr
    · obtain ⟨a, ha, hk⟩ := List.mem_flatMap.1 hk
      exact h.new a (by simp [ha]) k hk
    · exact h.new r (by simp [hr]) k hk
  · obtain ⟨a, ha, hk⟩ := List.mem_flatMap.1 hk
    exact hp.2.2 a ha r hr k hk
theorem Sep.many_perm {w0 w : World} {L L' rs : List Res} (h : Sep w0 w (many L :: rs)) (hp : L.Perm L') : Sep w0 w (many L' :: rs) :=
  (h.splice.perm (hp.append_right rs)).gather
/-- The k-th is taken out. -/
theorem Sep.pick {w0 w : World} {L rs : List Res} (h : Sep w0 w (many L :: rs)) (k : Nat) {r : Res} (hk : L[k]? = some r) : Sep w0 w (r :: many (L.eraseIdx k) :: rs) := by
  obtain ⟨hk', rfl⟩ := List.getElem?_eq_some_iff.1 hk
  have := h.splice.perm ((up_perm L k hk').append_right rs)
  have h2 : Sep w0 w (L.eraseIdx k ++ (L[k] :: rs)) := this.perm (by
    rw [List.cons_append]
    exact List.perm_middle.symm)
  exact h2.gather.perm (List.Perm.swap _ _ _)
theorem set_perm {α : Type} : ∀ (L : List α) (k : Nat) (r : α), k < L.length → (r :: L.eraseIdx k).Perm (L.set k r)
  | [], _, _, h => by simp at h
  | a :: L, 0, r, _ => List.Perm.refl _
  | a :: L, k + 1, r, h => (List.Perm.swap _ _ _).trans ((set_perm L k r (by simpa using h)).cons a)
/-- .. and put back, another one. -/
theorem Sep.putk {w0 w : World} {L rs : List Res} {r : Res} (k : Nat) (hk : k < L.length) (h : Sep w0 w (r :: many (L.eraseIdx k) :: rs)) : Sep w0 w (many (L.set k r) :: rs) := by
  have h2 := (h.perm (List.Perm.swap _ _ _)).splice
  have h3 : Sep w0 w ((r :: L.eraseIdx k) ++ rs) := h2.perm List.perm_middle
  exact (h3.perm ((set_perm L k r hk).append_right rs)).gather
/-- One more, at a place. -/
theorem Sep.many_ins {w0 w : World} {L rs : List Res} {r : Res} (k : Nat) (h : Sep w0 w (r :: many L :: rs)) : Sep w0 w (many (L.take k ++ r :: L.drop k) :: rs) := by
  have h2 := (h.perm (List.Perm.swap _ _ _)).splice
  have h3 : Sep w0 w ((r :: L) ++ rs) := h2.perm List.perm_middle
  refine (h3.perm (List.Perm.append_right rs ?_)).gather
  refine (List.Perm.trans ?_ List.perm_middle.symm)
  rw [List.take_append_drop]
end Go.Pw
