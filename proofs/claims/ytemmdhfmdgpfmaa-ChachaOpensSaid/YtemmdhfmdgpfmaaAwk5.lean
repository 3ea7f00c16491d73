/- Layer 5 (chacha): the document's example. -/
import Derived.Test.YtemmdhfmdgpfmaaTag6
import Derived.Lib.ConvBytes
import Derived.Lib.SlBytesConst
namespace Go.Proofs.Ytemmdhfmdgpfmaa
open Go.RowKit Go.Pw
set_option linter.unusedVariables false

/-- '[]byte(s)'. -/
theorem conv_bytes {P : Program} (S T E : TypeId) (hS : P.underlying S = some .string) (hT : P.underlying T = some (.slice E)) (hE : P.underlying E = some (.int .u8)) (w : World) (s : ByteArray) (xs : List Int) (hx : s.data.toList.map (fun b => (b.toNat : Int)) = xs) (hl : xs.length ≤ maxLen) :
    ∃ c w', (convert S T (.string s)).run P w = .ok (.slice (some ⟨w.heap.size, 0, none⟩) xs.length c) w' ∧ Only w w' [] ∧ Src w' (.slice (some ⟨w.heap.size, 0, none⟩) xs.length c) 1 xs.length (xs.map (.int .u8)) := by
  have hsz : s.size = xs.length := by rw [← hx]; simp
  refine ⟨grownCap w s.size 0 E, Lib.bytesWorld w E s, ?_, ⟨rfl, rfl, rfl, by rw [Lib.bytesWorld_size]; omega, fun k hk _ => Lib.bytesWorld_at_old w E s k hk⟩, ⟨_, _, rfl, by rw [← hsz]; exact grownCap_ge _ _ _ _, grownCap_le_maxLen _ _ _ _ (by omega), by simp, by simp, fun b hb j u hj => ?_⟩⟩
  · rw [Lib.run_convert_string_bytes w S T E s hS hT hE, hsz]
  · obtain rfl : b = ⟨w.heap.size, 0, none⟩ := by simpa using hb.symm
    have hj' : j < xs.length := by simpa using (List.getElem?_eq_some_iff.1 hj).1
    rw [Addr.add_lit, Nat.zero_add, Lib.bytesWorld_cell w E s j (by omega), ← hj]
    subst hx
    simp only [List.length_map] at hj'
    simp [List.getElem?_map, List.getElem?_eq_getElem hj', List.getD_eq_getElem?_getD]

def exK : List Int := [133, 214, 190, 120, 87, 85, 109, 51, 127, 68, 82, 254, 66, 213, 6, 168, 1, 3, 128, 138, 251, 13, 178, 253, 74, 191, 246, 175, 65, 73, 245, 27]
def exM : List Int := [67, 114, 121, 112, 116, 111, 103, 114, 97, 112, 104, 105, 99, 32, 70, 111, 114, 117, 109, 32, 82, 101, 115, 101, 97, 114, 99, 104, 32, 71, 114, 111, 117, 112]
set_option maxRecDepth 100000 in
theorem ex_tag : tagL exK exM = [168, 6, 29, 193, 48, 81, 54, 198, 194, 43, 139, 175, 12, 1, 39, 169] := by decide +kernel

set_option maxRecDepth 100000 in
set_option maxHeartbeats 1600000 in
theorem awake5 (w : World) : Calls Try.prog 8 #[] w fun e w' => e = .returned (.bool true) ∧ Only w w' [] := by
  obtain ⟨ck, w1, hcv, ho1, hk1⟩ := conv_bytes (P := Try.prog) 9 22 5 Try.underlying9 Try.underlying22 Try.underlying5 w ⟨#[133, 214, 190, 120, 87, 85, 109, 51, 127, 68, 82, 254, 66, 213, 6, 168, 1, 3, 128, 138, 251, 13, 178, 253, 74, 191, 246, 175, 65, 73, 245, 27]⟩ exK rfl (by decide)
  have hcv := hcv
  generalize w.heap.size = A at *
  have ho2 : Only w1 (w1.alloc (.cells (exM.map (Value.int .u8)).toArray 5 (34, 35))) [] := Only.alloc _ _ _
  have hm2 := src_litF w1 (exM.map (Value.int .u8)) 5 (34, 35) 34 1 rfl
  have hk2 := hk1.off ho2 (fun _ _ _ => by simp)
  have HK2 := Lib.hid hk2
  have HM2 := Lib.hid hm2
  clear hk1 hk2 hm2
  have kc1 := Lib.run_convert_bytes_const (P := Try.prog) w1 22 5 #[.int .u8 67, .int .u8 114, .int .u8 121, .int .u8 112, .int .u8 116, .int .u8 111, .int .u8 103, .int .u8 114, .int .u8 97, .int .u8 112, .int .u8 104, .int .u8 105, .int .u8 99, .int .u8 32, .int .u8 70, .int .u8 111, .int .u8 114, .int .u8 117, .int .u8 109, .int .u8 32, .int .u8 82, .int .u8 101, .int .u8 115, .int .u8 101, .int .u8 97, .int .u8 114, .int .u8 99, .int .u8 104, .int .u8 32, .int .u8 71, .int .u8 114, .int .u8 111, .int .u8 117, .int .u8 112] 34 34 Try.underlying22 Try.underlying5
  go_enter Try.func8, Try.ntmps8
  go_wp2_with fail
  refine (tag_any _ _ exK exM _ HK2.out (by decide) HM2.out (by decide) (by decide)).mono ?_
  rintro e w3 ⟨v, rfl, k1, k2, k3⟩
  obtain ⟨ao, c, rfl⟩ := own_slice k1
  have hst := run_str (P := Try.prog) (w := w3) (S := 22) (T := 9) Try.underlying22 Try.underlying5 Try.underlying9 (own_src k1) rfl
  have hse : strOfNums (tagL exK exM) = ⟨#[168, 6, 29, 193, 48, 81, 54, 198, 194, 43, 139, 175, 12, 1, 39, 169]⟩ := by rw [ex_tag]; rfl
  rw [hse] at hst
  have ho3 := Lib.hid ((ho1.trans ho2).trans k3)
  clear k1 k2 k3 hcv kc1
  go_wp2_with fail
  go_ret
  exact ⟨rfl, ho3.out⟩
end Go.Proofs.Ytemmdhfmdgpfmaa
