/- The contract of Tag of layer 5 (chacha): Poly1305, as a number. Its plain form. -/
import Derived.Test.YtemmdhfmdgpfmaaTag4
import Derived.Test.YtemmdhfmdgpfmaaRec
namespace Go.Proofs.Ytemmdhfmdgpfmaa
open Go.RowKit Go.Pw
set_option linter.unusedVariables false

/-- The key's first half, some bits of it struck. -/
def clA (l : List Int) : Nat → List Int
  | 0 => l
  | j + 1 => (clA l j).set (4 * j + 3) (gtI (clA l j) (4 * j + 3) % 16)
def clB (l : List Int) : Nat → List Int
  | 0 => l
  | j + 1 => (clB l j).set (4 * j + 4) (gtI (clB l j) (4 * j + 4) - gtI (clB l j) (4 * j + 4) % 4)
theorem clA_len (l : List Int) (j : Nat) : (clA l j).length = l.length := by
  induction j with
  | zero => rfl
  | succ j ih => simp [clA, ih]
theorem clB_len (l : List Int) (j : Nat) : (clB l j).length = l.length := by
  induction j with
  | zero => rfl
  | succ j ih => simp [clB, ih]
theorem gtI_mem {l : List Int} {k : Nat} (h : k < l.length) : gtI l k ∈ l := by rw [gtI_get h]; exact List.getElem_mem _
theorem clA_byt {l : List Int} (h : ∀ x ∈ l, 0 ≤ x ∧ x < 256) (j : Nat) (hj : 4 * j ≤ l.length) : ∀ x ∈ clA l j, 0 ≤ x ∧ x < 256 := by
  induction j with
  | zero => exact h
  | succ j ih =>
    intro x hx
    rcases List.mem_or_eq_of_mem_set hx with hx | hx
    · exact ih (by omega) x hx
    · have := ih (by omega) _ (gtI_mem (l := clA l j) (k := 4 * j + 3) (by rw [clA_len]; omega))
      omega
theorem clB_byt {l : List Int} (h : ∀ x ∈ l, 0 ≤ x ∧ x < 256) (j : Nat) (hj : 4 * j < l.length) : ∀ x ∈ clB l j, 0 ≤ x ∧ x < 256 := by
  induction j with
  | zero => exact h
  | succ j ih =>
    intro x hx
    rcases List.mem_or_eq_of_mem_set hx with hx | hx
    · exact ih (by omega) x hx
    · have := ih (by omega) _ (gtI_mem (l := clB l j) (k := 4 * j + 4) (by rw [clB_len]; omega))
      omega
def clL (ks : List Int) : List Int := clB (clA (fitL (fitL ks 32) 16) 4) 3
def rOf (ks : List Int) : Int := lv 256 (clL ks)

/-- The sum over the bytes, sixteen at a time. -/
def polyV (r : Int) : Nat → Int → List Int → Int
  | 0, acc, _ => acc
  | _ + 1, acc, [] => acc
  | f + 1, acc, x :: p => polyV r f (((acc + lv 256 ((x :: p).take 16 ++ [1])) * r) % P130) ((x :: p).drop 16)
theorem polyV_nil (r acc : Int) (f : Nat) : polyV r f acc [] = acc := by cases f <;> rfl
theorem polyV_step (r acc : Int) (f : Nat) (p : List Int) (hp : 0 < p.length) (hf : p.length ≤ f) : ∃ f', f = f' + 1 ∧ polyV r f acc p = polyV r f' (((acc + lv 256 (p.take 16 ++ [1])) * r) % P130) (p.drop 16) ∧ (p.drop 16).length ≤ f' := by
  cases p with
  | nil => simp at hp
  | cons x p =>
    cases f with
    | zero => simp at hf
    | succ f => exact ⟨f, rfl, rfl, by simp at hf ⊢; omega⟩
theorem polyV_fuel (r : Int) : ∀ (f f' : Nat) (acc : Int) (p : List Int), p.length ≤ f → p.length ≤ f' → polyV r f acc p = polyV r f' acc p
  | f, f', acc, [], _, _ => by rw [polyV_nil, polyV_nil]
  | f, f', acc, x :: p, h, h' => by
    obtain ⟨g, rfl, e1, h1⟩ := polyV_step r acc f (x :: p) (by simp) h
    obtain ⟨g', rfl, e2, h2⟩ := polyV_step r acc f' (x :: p) (by simp) h'
    rw [e1, e2]
    exact polyV_fuel r g g' _ _ h1 h2
def tagL (ks xs : List Int) : List Int := dg 256 (polyV (rOf ks) xs.length 0 xs + lv 256 ((fitL ks 32).drop 16)) 16

/-- One round: the sum is known up to 2^130 - 5. -/
theorem poly_round {s c s' q r : Int} (h : s' + P130 * q = (s + c) * r) : s' % P130 = ((s % P130 + c) * r) % P130 := by
  have e1 : s' % P130 = ((s + c) * r) % P130 := by rw [← h, Int.add_mul_emod_self_left]
  rw [e1]
  have e2 := Int.mul_ediv_add_emod s P130
  have e3 : (s + c) * r = (s % P130 + c) * r + P130 * (s / P130 * r) := by
    conv => lhs; rw [← e2]
    rw [← Int.mul_assoc, ← Int.add_mul]
    congr 1
    omega
  rw [e3, Int.add_mul_emod_self_left]

theorem and15 (x : Int) (h0 : 0 ≤ x) (h1 : x < 256) : bits .and .u8 x 15 = x % 16 := by
  obtain ⟨n, rfl⟩ := Int.eq_ofNat_of_zero_le h0
  rw [show (15 : Int) = ((15 : Nat) : Int) from rfl, u8_and_nat _ _ (by omega) (by decide)]
  have := Nat.and_two_pow_sub_one_eq_mod n 4
  rw [show (2 ^ 4 - 1 : Nat) = 15 from rfl] at this
  rw [this]
  exact Int.natCast_emod _ _
set_option maxRecDepth 100000 in
theorem and252n : ∀ n, n < 256 → n &&& 252 = n - n % 4 := by decide
theorem and252 (x : Int) (h0 : 0 ≤ x) (h1 : x < 256) : bits .and .u8 x 252 = x - x % 4 := by
  obtain ⟨n, rfl⟩ := Int.eq_ofNat_of_zero_le h0
  rw [show (252 : Int) = ((252 : Nat) : Int) from rfl, u8_and_nat _ _ (by omega) (by decide), and252n n (by omega)]
  omega

/-- A fresh row, as a resource. -/
theorem Fresh.row {xs : List Int} {w : World} {e : Ending} {w' : World} (h : Fresh xs w e w') (n : Nat) (hn : xs.length = n) (h0 : 0 < n) :
    ∃ g c, e = .returned (.slice (some ⟨g, 0, none⟩) n c) ∧ n ≤ c ∧ c ≤ maxLen ∧ ∀ {w0 : World} {rs : List Res}, Sep w0 w rs → Sep w0 w' (row 5 1 (.slice (some ⟨g, 0, none⟩) n c) n (xs.map (.int .u8)) :: rs) := by
  obtain ⟨v, rfl, h1, h2, h3⟩ := h
  rw [hn] at h1
  obtain ⟨ao, c, rfl⟩ := own_slice h1
  obtain ⟨g, rfl, _⟩ := own_some h1 h0
  obtain ⟨_, _, he, k1, k2, _⟩ := own_src h1
  simp only [Value.slice.injEq] at he
  obtain ⟨rfl, _, rfl⟩ := he
  exact ⟨g, c, rfl, k1, k2, fun hs => hs.row0 h1 h2 h3⟩
theorem Sep.rset {w0 w : World} {rs : List Res} {e g n c : Nat} {xs : List Value} (h : Sep w0 w (row e 1 (.slice (some ⟨g, 0, none⟩) n c) n xs :: rs)) (j : Nat) (u : Value) : Sep w0 (w.setCell ⟨g, j, none⟩ u) (row e 1 (.slice (some ⟨g, 0, none⟩) n c) n (xs.set j u) :: rs) :=
  h.step (L := [g]) (Only.setCell _ _ _ _ (by simp)) (fun k hk => .inl (by simpa [row, Value.ownBlock] using hk)) (World.ownsRow.stored h.head j u).1 (fun k hk => .inl hk)

/-- The rest of a slice. -/
theorem slice_ex (ao : Option Addr) (n c l m : Nat) (hm : m + l = n) : ∃ ao' c', (∀ w, (Instr.sliceAt 22 (.slice ao n c) (some (.int .i64 (l : Int))) none none).run Try.prog w = .ok (.slice ao' m c') w) ∧ ∀ w cs, Src w (.slice ao n c) 1 n cs → Src w (.slice ao' m c') 1 m (cs.drop l) := by
  obtain ⟨i0, hi, hz0, hz1, hz2⟩ := info_parts Try.info5
  refine ⟨if c = l then ao else ao.map (·.add (l * 1)), c - l, fun w => ?_, fun w cs h => ?_⟩
  · have hu : Try.prog.underlying 22 = some (.slice (Try.prog.elem 22)) := by kernel_rfl
    have he : Try.prog.elem 22 = 5 := by kernel_rfl
    rw [run_sliceAt_slice (h := hu), run_slice_l (ht := hu) (kl := .i64) (l := (l : Int)) (h0 := by omega) (h1 := by omega), he]
    have hs : (sizeOf 5).run Try.prog w = .ok 1 w := by simp [sizeOf, typeInfo, hi, hz1]
    rw [hs]
    simp only [Result.andThen, sliced, Int.toNat_natCast]
    rw [show n - l = m by omega]
  · obtain ⟨ao', c', he, h1, h2, h3, h4, h5⟩ := h
    simp only [Value.slice.injEq] at he
    obtain ⟨rfl, _, rfl⟩ := he
    refine ⟨_, _, rfl, by omega, by omega, by simp [h3]; omega, fun hn => ?_, fun b hb j u hj => ?_⟩
    · cases ao with
      | none => have := h4 rfl; omega
      | some a => split at hn <;> simp at hn
    · cases ao with
      | none => have := h4 rfl; rw [List.getElem?_drop] at hj; have hlt := (List.getElem?_eq_some_iff.1 hj).1; omega
      | some a =>
        rw [List.getElem?_drop] at hj
        have hlt := (List.getElem?_eq_some_iff.1 hj).1
        rw [if_neg (by omega)] at hb
        simp only [Option.map_some, Option.some.injEq, Nat.mul_one] at hb
        subst hb
        have := h5 a rfl (l + j) u hj
        have e : (a.add l).add j = a.add (l + j) := by
          unfold Addr.add
          split <;> split <;> split <;> simp_all <;> omega
        rwa [e]
end Go.Proofs.Ytemmdhfmdgpfmaa
