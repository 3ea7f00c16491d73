/- WireNil returns true for every slice of bytes and every integer: a nil reader has a fault, and so has one that is asked for less than nothing, or more than eight. No condition. -/
import Derived.Test.YtemlpjfngaemdaaWireA
import Derived.Test.YtemlpjfngaemdaaWireN
import Derived.Test.YtemlpjfngaemdaaRef09
import Derived.Test.YtemlpjfngaemdaaSWireNil
import Derived.Test.YtemlpjfngaemdaaOpenS
namespace Go.Proofs.Ytemlpjfngaemdaa
open Go.RowKit Go.Pw

theorem cells_u8' : Try.prog.cellsOf 5 = 1 := by kernel_rfl

set_option maxRecDepth 100000 in
set_option maxHeartbeats 2000000 in
theorem nil_walk (ao : Option Addr) (c : Nat) (ps : List Int) (n : Int) (w : World) (hp : Rd w (.slice ao ps.length c) ps) (hb : Byt ps) (hn : -9223372036854775808 ≤ n ∧ n ≤ 9223372036854775807) :
    Calls Try.prog 7 #[.slice ao ps.length c, .int .i64 n] w fun e w' => e = .returned (.bool true) ∧ Below w.heap.size w w' := by
  have hbel : ∀ w', Only w w' [] → Below w.heap.size w w' := fun w' h => h.below (Nat.le_refl _) (by simp)
  by_cases hl : 1000 < ps.length
  · have d0 : decide ((1000 : Int) < ps.length) = true := by simp; omega
    go_enter Try.func7, Try.ntmps7
    go_wp2_with fail
    refine (awake9 _).mono ?_
    rintro e w1 ⟨rfl, h1⟩
    go_wp2_with fail
    refine (awake9 _).mono ?_
    rintro e w2 ⟨rfl, h2⟩
    go_wp2_with fail
    go_ret
    exact ⟨rfl, hbel _ (h1.trans h2)⟩
  · have d0 : decide ((1000 : Int) < ps.length) = false := by simp; omega
    obtain ⟨hn0, hn1⟩ := hn
    have hc : n < 0 ∨ 8 < n ∨ (0 ≤ n ∧ n ≤ 8) := by omega
    rcases hc with hc | hc | ⟨hc, hc8⟩
    · have d1 : decide (0 ≤ n) = false := by simp; omega
      have d2 : decide (0 < n) = false := by simp; omega
      go_enter Try.func7, Try.ntmps7
      go_wp2_with fail
      refine (awake9 _).mono ?_
      rintro e w1 ⟨rfl, h1⟩
      go_wp2_with fail
      refine (rread_any _ _ _ _).mono ?_
      rintro e w2 ⟨rfl, rfl⟩
      have o1 := Only.alloc w1 (.cells #[.slice ao ps.length c, .bool false] 87) []
      have hp2 := (hp.new h1).new o1
      go_wp2_with fail
      refine (rnum_fault w1.heap.size _ ps false _ _ ⟨heap_alloc_new w1 _, hp2, hb⟩ (by omega) (by omega) (by omega)).mono ?_
      rintro e w3 ⟨rfl, ⟨hR3, _, _⟩, ho3⟩
      have o3 : Only w w3 [] := (h1.trans o1).new ho3 (by have := h1.size; simpa using this)
      clear hp2 o1
      have hz1 := h1.size
      generalize w1.heap.size = R1 at *
      clear h1 ho3
      have hp3 := hp.new o3
      go_wp2_with fail
      refine (rfbytes_any (.slice none 0 0) _ [] ps _ (Rd.nil _) hp3 (by simp) (by omega)).mono fun e w4 hq => ?_
      obtain ⟨zs, az, kz, Hzs, rfl, g1, g2, g3⟩ := hq.name
      have hzl : zs.length ≤ 2000 := by rw [Hzs.out]; simp [be_len]; omega
      have hzb : Byt zs := by rw [Hzs.out]; exact (be_byt _ _).app hb
      have hR4 := g3.at hR3 (by simp)
      have hlt := (Array.getElem?_eq_some_iff.1 hR4).1
      clear hq hR3
      go_wp2_with fail
      refine (rread_any _ _ _ _).mono ?_
      rintro e w5 ⟨rfl, rfl⟩
      have o5 := Only.alloc w4 (.cells #[.slice az zs.length kz, .bool false] 87) []
      go_wp2_with fail
      refine (rbytes_neg w4.heap.size _ zs false _ _ ⟨heap_alloc_new w4 _, (own_rd g1).new o5, hzb⟩ (by omega) (by omega)).mono ?_
      rintro e w6 ⟨⟨aq, cq, rfl⟩, ⟨uq, hT6⟩, ho6⟩
      have hR6 := ho6.at (o5.at hR4 (by simp)) (by simp; omega)
      have o6 : Only w w6 [] := (o3.trans (g3.trans o5)).new ho6 (by have := (o3.trans g3).size; simpa using this)
      generalize w4.heap.size = R2 at *
      clear ho6 o5 g1 g2 g3 hR4 hp3 Hzs
      go_wp2_with (first | (go_at_call 30; refine (rend_nil _).mono ?_; rintro e w' ⟨rfl, rfl⟩) | (go_at_call 25; refine (rnum_nil _ _).mono ?_; rintro e w' ⟨rfl, rfl⟩) | (go_at_call 17; refine (rbytes_nil _ _).mono ?_; rintro e w' ⟨rfl, rfl⟩) | (go_at_call 26; refine (rflag_nil _).mono ?_; rintro e w' ⟨rfl, rfl⟩) | (go_at_call 27; refine (rcount_nil _ (by decide) _ (by decide)).mono ?_; rintro e w' ⟨rfl, rfl⟩) | (go_at_call 29; refine (rleft_nil _).mono ?_; rintro e w' ⟨rfl, rfl⟩) | (go_at_call_of 28 (Value.pointer none); refine (rbad_nil _).mono ?_; rintro e w' ⟨rfl, rfl⟩) | (go_at_call_of 28 (Value.pointer (some ⟨R1, 0, none⟩)); refine (rbad_at R1 _ _ _ hR6).mono ?_; rintro e w' ⟨rfl, rfl⟩) | (go_at_call_of 28 (Value.pointer (some ⟨R2, 0, none⟩)); refine (rbad_at R2 _ _ _ hT6).mono ?_; rintro e w' ⟨rfl, rfl⟩))
      go_ret
      exact ⟨rfl, hbel _ o6⟩
    · have d1 : decide (0 ≤ n) = true := by simp; omega
      have d3 : decide (n ≤ 8) = false := by simp; omega
      have d2 : decide (0 < n) = true := by simp; omega
      go_enter Try.func7, Try.ntmps7
      go_wp2_with fail
      refine (awake9 _).mono ?_
      rintro e w1 ⟨rfl, h1⟩
      go_wp2_with fail
      refine (rread_any _ _ _ _).mono ?_
      rintro e w2 ⟨rfl, rfl⟩
      have o1 := Only.alloc w1 (.cells #[.slice ao ps.length c, .bool false] 87) []
      have hp2 := (hp.new h1).new o1
      go_wp2_with fail
      refine (rnum_fault w1.heap.size _ ps false _ _ ⟨heap_alloc_new w1 _, hp2, hb⟩ (by omega) (by omega) (by omega)).mono ?_
      rintro e w3 ⟨rfl, ⟨hR3, _, _⟩, ho3⟩
      have o3 : Only w w3 [] := (h1.trans o1).new ho3 (by have := h1.size; simpa using this)
      clear hp2 o1
      have hz1 := h1.size
      generalize w1.heap.size = R1 at *
      clear h1 ho3
      have hp3 := hp.new o3
      go_wp2_with fail
      refine (rfbytes_any (.slice none 0 0) _ [] ps _ (Rd.nil _) hp3 (by simp) (by omega)).mono fun e w4 hq => ?_
      obtain ⟨zs, az, kz, Hzs, rfl, g1, g2, g3⟩ := hq.name
      have hzl : zs.length ≤ 2000 := by rw [Hzs.out]; simp [be_len]; omega
      have hzb : Byt zs := by rw [Hzs.out]; exact (be_byt _ _).app hb
      have hR4 := g3.at hR3 (by simp)
      have hlt := (Array.getElem?_eq_some_iff.1 hR4).1
      clear hq hR3
      go_wp2_with fail
      refine (rread_any _ _ _ _).mono ?_
      rintro e w5 ⟨rfl, rfl⟩
      have o5 := Only.alloc w4 (.cells #[.slice az zs.length kz, .bool false] 87) []
      go_wp2_with fail
      refine (rbytes_neg w4.heap.size _ zs false _ _ ⟨heap_alloc_new w4 _, (own_rd g1).new o5, hzb⟩ (by omega) (by omega)).mono ?_
      rintro e w6 ⟨⟨aq, cq, rfl⟩, ⟨uq, hT6⟩, ho6⟩
      have hR6 := ho6.at (o5.at hR4 (by simp)) (by simp; omega)
      have o6 : Only w w6 [] := (o3.trans (g3.trans o5)).new ho6 (by have := (o3.trans g3).size; simpa using this)
      generalize w4.heap.size = R2 at *
      clear ho6 o5 g1 g2 g3 hR4 hp3 Hzs
      go_wp2_with (first | (go_at_call 30; refine (rend_nil _).mono ?_; rintro e w' ⟨rfl, rfl⟩) | (go_at_call 25; refine (rnum_nil _ _).mono ?_; rintro e w' ⟨rfl, rfl⟩) | (go_at_call 17; refine (rbytes_nil _ _).mono ?_; rintro e w' ⟨rfl, rfl⟩) | (go_at_call 26; refine (rflag_nil _).mono ?_; rintro e w' ⟨rfl, rfl⟩) | (go_at_call 27; refine (rcount_nil _ (by decide) _ (by decide)).mono ?_; rintro e w' ⟨rfl, rfl⟩) | (go_at_call 29; refine (rleft_nil _).mono ?_; rintro e w' ⟨rfl, rfl⟩) | (go_at_call_of 28 (Value.pointer none); refine (rbad_nil _).mono ?_; rintro e w' ⟨rfl, rfl⟩) | (go_at_call_of 28 (Value.pointer (some ⟨R1, 0, none⟩)); refine (rbad_at R1 _ _ _ hR6).mono ?_; rintro e w' ⟨rfl, rfl⟩) | (go_at_call_of 28 (Value.pointer (some ⟨R2, 0, none⟩)); refine (rbad_at R2 _ _ _ hT6).mono ?_; rintro e w' ⟨rfl, rfl⟩))
      go_ret
      exact ⟨rfl, hbel _ o6⟩
    · have d1 : decide (0 ≤ n) = true := by simp; omega
      have d3 : decide (n ≤ 8) = true := by simp; omega
      have d2 : decide (0 < n + 9) = true := by simp; omega
      go_enter Try.func7, Try.ntmps7
      go_wp2_with fail
      refine (awake9 _).mono ?_
      rintro e w1 ⟨rfl, h1⟩
      go_wp2_with fail
      refine (rread_any _ _ _ _).mono ?_
      rintro e w2 ⟨rfl, rfl⟩
      have o1 := Only.alloc w1 (.cells #[.slice ao ps.length c, .bool false] 87) []
      have hp2 := (hp.new h1).new o1
      go_wp2_with fail
      refine (rnum_fault w1.heap.size _ ps false _ _ ⟨heap_alloc_new w1 _, hp2, hb⟩ (by omega) (by omega) (by omega)).mono ?_
      rintro e w3 ⟨rfl, ⟨hR3, _, _⟩, ho3⟩
      have o3 : Only w w3 [] := (h1.trans o1).new ho3 (by have := h1.size; simpa using this)
      clear hp2 o1
      have hz1 := h1.size
      generalize w1.heap.size = R1 at *
      clear h1 ho3
      have hp3 := hp.new o3
      go_wp2_with fail
      refine (rfbytes_any (.slice none 0 0) _ [] ps _ (Rd.nil _) hp3 (by simp) (by omega)).mono fun e w4 hq => ?_
      obtain ⟨zs, az, kz, Hzs, rfl, g1, g2, g3⟩ := hq.name
      have hzl : zs.length ≤ 2000 := by rw [Hzs.out]; simp [be_len]; omega
      have hzb : Byt zs := by rw [Hzs.out]; exact (be_byt _ _).app hb
      have hR4 := g3.at hR3 (by simp)
      have hlt := (Array.getElem?_eq_some_iff.1 hR4).1
      clear hq hR3
      go_wp2_with fail
      refine (rread_any _ _ _ _).mono ?_
      rintro e w5 ⟨rfl, rfl⟩
      have o5 := Only.alloc w4 (.cells #[.slice az zs.length kz, .bool false] 87) []
      go_wp2_with fail
      refine (rbytes_neg w4.heap.size _ zs false _ _ ⟨heap_alloc_new w4 _, (own_rd g1).new o5, hzb⟩ (by omega) (by omega)).mono ?_
      rintro e w6 ⟨⟨aq, cq, rfl⟩, ⟨uq, hT6⟩, ho6⟩
      have hR6 := ho6.at (o5.at hR4 (by simp)) (by simp; omega)
      have o6 : Only w w6 [] := (o3.trans (g3.trans o5)).new ho6 (by have := (o3.trans g3).size; simpa using this)
      generalize w4.heap.size = R2 at *
      clear ho6 o5 g1 g2 g3 hR4 hp3 Hzs
      go_wp2_with (first | (go_at_call 30; refine (rend_nil _).mono ?_; rintro e w' ⟨rfl, rfl⟩) | (go_at_call 25; refine (rnum_nil _ _).mono ?_; rintro e w' ⟨rfl, rfl⟩) | (go_at_call 17; refine (rbytes_nil _ _).mono ?_; rintro e w' ⟨rfl, rfl⟩) | (go_at_call 26; refine (rflag_nil _).mono ?_; rintro e w' ⟨rfl, rfl⟩) | (go_at_call 27; refine (rcount_nil _ (by decide) _ (by decide)).mono ?_; rintro e w' ⟨rfl, rfl⟩) | (go_at_call 29; refine (rleft_nil _).mono ?_; rintro e w' ⟨rfl, rfl⟩) | (go_at_call_of 28 (Value.pointer none); refine (rbad_nil _).mono ?_; rintro e w' ⟨rfl, rfl⟩) | (go_at_call_of 28 (Value.pointer (some ⟨R1, 0, none⟩)); refine (rbad_at R1 _ _ _ hR6).mono ?_; rintro e w' ⟨rfl, rfl⟩) | (go_at_call_of 28 (Value.pointer (some ⟨R2, 0, none⟩)); refine (rbad_at R2 _ _ _ hT6).mono ?_; rintro e w' ⟨rfl, rfl⟩))
      go_ret
      exact ⟨rfl, hbel _ o6⟩

theorem wireNil_holds : Rows.WireNilSaid := wireNil.said fun H enc base W v0 v1 d0 p0 d1 p1 h0 h1 h2 h3 => by
  obtain ⟨ao, c, xs, rfl, hs, hb⟩ := open_bytes Try.underlying22 Try.underlying5 cells_u8' h0 h1
  obtain ⟨n, hn, hw⟩ := reads_int Try.underlying3 (reads_of h3)
  obtain ⟨k, rfl⟩ := Go.WideShapes.okWide_int Try.underlying3 h2
  simp [Value.cells] at hn
  subst hn
  exact nil_walk ao c xs k W hs hb (i64_wf hw)
end Go.Proofs.Ytemlpjfngaemdaa
