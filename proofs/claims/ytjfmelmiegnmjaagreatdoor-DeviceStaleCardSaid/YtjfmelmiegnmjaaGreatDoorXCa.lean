/- The types whose values may be compared; the deferred function that is idle; closed facts of the program. -/
import Derived.Test.YtjfmelmiegnmjaaGreatDoorXSf
import Derived.Test.YtjfmelmiegnmjaaGreatDoorProg
import Derived.KernelRfl
import Derived.Shelf.Bits.Mul64
import Derived.Laws.Externs
import Derived.WalkKit
import Derived.WalkSpells
import Derived.Handy
set_option linter.all false
open Go Go.Sx Go.Proofs
set_option linter.all false
namespace Go.Proofs.YtjfmelmiegnmjaaGreatDoor
set_option maxRecDepth 1000000
def okT (t : Nat) : Bool := memN t [7, 8, 22, 23, 29, 30, 39, 40, 43, 44, 52, 53, 54, 55, 81, 82, 83, 84, 87, 88, 89, 90, 91, 92, 117, 118, 120, 121, 132, 133, 137, 138, 139, 140, 146, 147, 150, 151, 153, 154, 156, 157, 165, 166, 168, 169, 170, 171, 173, 174, 176, 177, 178, 179, 184, 185, 217, 218, 226, 227, 230, 231, 241, 242, 268, 269, 273, 274, 297, 298, 310, 311, 357, 361, 362, 376, 377, 400, 401, 446, 447, 511, 512]
noncomputable def caughtC : Code := bodyOf Tryz.prog 51
noncomputable def caughtR : Code := seqB caughtC
noncomputable def caughtO : Oper := match seqA caughtC with
  | .region _ #[o] _ => o
  | _ => default
theorem caught_body : Tryz.f51.body = some (.seq (.region 0 #[caughtO] false) caughtR) := by kernel_rfl
noncomputable def dhC : Dh := dhookM Tryz.prog okT 51 15 5 1000 caughtR
theorem callsOK : CallsOK Tryz.prog := callsOK_of (by kernel_rfl)
theorem mixed : Tryz.prog.follows .mixedOrders = true := by kernel_rfl
theorem okt : OkT Tryz.prog okT := okT_of (by kernel_rfl)
theorem dhC_good : DhGood Tryz.prog dhC := dhookM_good okt callsOK mixed Tryz.func51 caught_body (by kernel_rfl) (by kernel_rfl) (by kernel_rfl) (by kernel_rfl) (fun l => by kernel_rfl) (fun e w => by kernel_rfl)
end Go.Proofs.YtjfmelmiegnmjaaGreatDoor

/- Wide numbers of the field: add, plus, high. -/
open Go Go.Sx Go.Proofs Go.RowKit Go.Lib
set_option linter.all false
namespace Go.Proofs.YtjfmelmiegnmjaaGreatDoor
set_option maxRecDepth 100000

set_option maxHeartbeats 1000000 in
theorem mul64_any (x y : Nat) (hx : x < 18446744073709551616) (hy : y < 18446744073709551616) (w : World) :
    Calls Tryz.prog 347 #[.int .u64 x, .int .u64 y] w fun e w' => e = .returned (.tuple #[.int .u64 ((x * y / 18446744073709551616 : Nat) : Int), .int .u64 ((x * y % 18446744073709551616 : Nat) : Int)]) ∧ w' = w := by
  obtain ⟨bd, bt, bw, hhi⟩ := Lib.mul64_hi x y hx hy
  have ba := Lib.half_mul_le (a := x / 4294967296) (b := y / 4294967296) (by omega) (by omega)
  have bb := Lib.half_mul_le (a := x / 4294967296) (b := y % 4294967296) (by omega) (by omega)
  have bc := Lib.half_mul_le (a := x % 4294967296) (b := y / 4294967296) (by omega) (by omega)
  have ba' : x / 4294967296 * (y / 4294967296) < 18446744073709551616 := by omega
  have bb' : x / 4294967296 * (y % 4294967296) < 18446744073709551616 := by omega
  have bc' : x % 4294967296 * (y / 4294967296) < 18446744073709551616 := by omega
  have bh1 : x / 4294967296 * (y / 4294967296) + (x / 4294967296 * (y % 4294967296) + x % 4294967296 * (y % 4294967296) / 4294967296) / 4294967296 < 18446744073709551616 := by omega
  have bh : x / 4294967296 * (y / 4294967296) + (x / 4294967296 * (y % 4294967296) + x % 4294967296 * (y % 4294967296) / 4294967296) / 4294967296 + ((x / 4294967296 * (y % 4294967296) + x % 4294967296 * (y % 4294967296) / 4294967296) % 4294967296 + x % 4294967296 * (y / 4294967296)) / 4294967296 < 18446744073709551616 := by
    rw [hhi]
    have : x * y < 18446744073709551616 * 18446744073709551616 := Nat.mul_lt_mul'' hx hy
    omega
  go_enter Tryz.func347, Tryz.ntmps347
  go_wp2
  simp only [Mul64.maskN x hx, Mul64.maskN y hy, Mul64.divN, Mul64.mulN, Mul64.addN, Mul64.wrapN _ bd, Mul64.wrapN _ bb', Mul64.wrapN _ bt, Mul64.maskN _ bt, Mul64.wrapN _ bc', Mul64.wrapN _ bw, Mul64.wrapN _ ba', Mul64.wrapN _ bh1, Mul64.wrapN _ bh, Mul64.wrapM (x * y)]
  rw [hhi]
  go_ret2
  exact ⟨rfl, rfl⟩

theorem add64_run (x y c : Nat) (hc : c ≤ 1) (w : World) :
    (callFunc 348 #[.int .u64 x, .int .u64 y, .int .u64 c]).run Tryz.prog w =
      .ok (.value (.tuple #[.int .u64 (((x + y + c) % 18446744073709551616 : Nat) : Int), .int .u64 (((x + y + c) / 18446744073709551616 : Nat) : Int)])) w := by
  rw [run_callFunc_extern Tryz.func348 (by kernel_rfl) (by kernel_rfl) (by kernel_rfl) (e := add64Entry) (by kernel_rfl), run_add64 x y c (by omega) (by omega) (by omega) (by omega)]
  simp only [Result.andThen]
  congr 5 <;> omega

set_option maxHeartbeats 1000000 in
theorem wadd_any (hi lo a b : Nat) (h1 : hi < 18446744073709551616) (h2 : lo < 18446744073709551616) (ha : a < 18446744073709551616) (hb : b < 18446744073709551616) (w : World) :
    Calls Tryz.prog 326 #[.agg #[.int .u64 hi, .int .u64 lo], .int .u64 a, .int .u64 b] w fun e w' =>
      e = .returned (.agg #[.int .u64 ((((hi * 18446744073709551616 + lo) + a * b) / 18446744073709551616 % 18446744073709551616 : Nat) : Int), .int .u64 ((((hi * 18446744073709551616 + lo) + a * b) % 18446744073709551616 : Nat) : Int)]) ∧ OnlyB w w' (fun _ => False) := by
  obtain ⟨p, hp⟩ : ∃ p, p = a * b / 18446744073709551616 := ⟨_, rfl⟩
  obtain ⟨q, hq⟩ : ∃ q, q = a * b % 18446744073709551616 := ⟨_, rfl⟩
  have hm := mul64_any a b ha hb
  rw [← hp, ← hq] at hm
  have hq2 : q < 18446744073709551616 := by omega
  obtain ⟨l, hl⟩ : ∃ l, l = (lo + q) % 18446744073709551616 := ⟨_, rfl⟩
  obtain ⟨c, hc⟩ : ∃ c, c = (lo + q) / 18446744073709551616 := ⟨_, rfl⟩
  obtain ⟨h, hh⟩ : ∃ h, h = (hi + p + c) % 18446744073709551616 := ⟨_, rfl⟩
  obtain ⟨d, hd⟩ : ∃ d, d = (hi + p + c) / 18446744073709551616 := ⟨_, rfl⟩
  have h3 : ∀ w, (callFunc 348 #[.int .u64 lo, .int .u64 q, .int .u64 0]).run Tryz.prog w = .ok (.value (.tuple #[.int .u64 l, .int .u64 c])) w := fun w => by
    have := add64_run lo q 0 (by omega) w
    rw [Nat.add_zero, ← hl, ← hc] at this
    exact this
  have h4 : ∀ w, (callFunc 348 #[.int .u64 hi, .int .u64 p, .int .u64 c]).run Tryz.prog w = .ok (.value (.tuple #[.int .u64 h, .int .u64 d])) w := fun w => by
    have := add64_run hi p c (by omega) w
    rw [← hh, ← hd] at this
    exact this
  have e1 : ((hi * 18446744073709551616 + lo) + a * b) / 18446744073709551616 % 18446744073709551616 = h := by
    have := Nat.div_add_mod (a * b) 18446744073709551616
    rw [← hp, ← hq] at this
    omega
  have e2 : ((hi * 18446744073709551616 + lo) + a * b) % 18446744073709551616 = l := by
    have := Nat.div_add_mod (a * b) 18446744073709551616
    rw [← hp, ← hq] at this
    omega
  rw [e1, e2]
  clear e1 e2 hh hd hl hc hp hq hq2 h1 h2 ha hb
  go_enter Tryz.func326, Tryz.ntmps326
  go_wp2_with (go_at_call 347; refine (hm _).mono ?_; rintro e w' ⟨rfl, rfl⟩)
  go_returns
  refine ⟨rfl, rfl, rfl, rfl, by show _ ≤ (Array.push (Array.push w.heap _) _).size; rw [Array.size_push, Array.size_push]; omega, fun k hk _ => ?_⟩
  rw [Below.heap_alloc _ _ _ (by show _ < (Array.push w.heap _).size; rw [Array.size_push]; omega), Below.heap_alloc _ _ _ hk]

def gWA : List AV → Option AV
  | [.agg [x, y], z, t] => match symN .u64 x, symN .u64 y, symN .u64 z, symN .u64 t with
    | some hi, some lo, some a, some b => some (.agg [.sn .u64 (Nat.mod (Nat.div (Nat.add (Nat.add (Nat.mul hi.1 18446744073709551616) lo.1) (Nat.mul a.1 b.1)) 18446744073709551616) 18446744073709551616) (Nat.mod_lt _ (by decide)), .sn .u64 (Nat.mod (Nat.add (Nat.add (Nat.mul hi.1 18446744073709551616) lo.1) (Nat.mul a.1 b.1)) 18446744073709551616) (Nat.mod_lt _ (by decide))])
    | _, _, _, _ => none
  | _ => none

theorem wadd_fn : fnOf Tryz.prog 326 = some (ntOf Tryz.prog 326, bodyOf Tryz.prog 326, resultsOf Tryz.prog 326) := by kernel_rfl
theorem wadd_good : HkGood Tryz.prog (pureHook 326 gWA) := by
  obtain ⟨fn, h1, _, h3, _⟩ := fnOf_ok wadd_fn
  refine fHook_good ⟨fn, _, h1, h3⟩ fun args v σ us w hg hd => ?_
  unfold gWA at hg
  split at hg
  · rename_i x y z t
    split at hg
    · rename_i hi lo a b q1 q2 q3 q4
      obtain rfl := Option.some.inj hg
      obtain ⟨u, l1, rfl, hx, hd⟩ := denL_cons hd
      obtain ⟨u', l2, rfl, hz, hd⟩ := denL_cons hd
      obtain ⟨u'', l3, rfl, ht, hd⟩ := denL_cons hd
      obtain rfl := denL_nil hd
      simp only [den] at hx
      split at hx
      · rename_i l hl
        obtain rfl := Option.some.inj hx
        obtain ⟨u1, l1, rfl, hx1, hl⟩ := denL_cons hl
        obtain ⟨u2, l2, rfl, hx2, hl⟩ := denL_cons hl
        obtain rfl := denL_nil hl
        obtain rfl := symN_ok q1 hx1
        obtain rfl := symN_ok q2 hx2
        obtain rfl := symN_ok q3 hz
        obtain rfl := symN_ok q4 ht
        exact ⟨_, rfl, wadd_any hi.1 lo.1 a.1 b.1 hi.2 lo.2 a.2 b.2 w⟩
      · cases hx
    · cases hg
  · cases hg
end Go.Proofs.YtjfmelmiegnmjaaGreatDoor

/- The field's Add, Sub, Mul: what they reckon, part by part. -/
open Go Go.Sx Go.Proofs Go.RowKit
set_option linter.all false
namespace Go.Proofs.YtjfmelmiegnmjaaGreatDoor
set_option maxRecDepth 1000000

/-- Five parts of 51 bits, each a little more at first: settled. -/
def settleL (a0 a1 a2 a3 a4 : Nat) : List Nat :=
  let s0 := Nat.mod (Nat.add a0 (Nat.mod (Nat.mul 19 (Nat.div a4 2251799813685248)) 18446744073709551616)) 18446744073709551616
  let s1 := Nat.mod (Nat.add a1 (Nat.div s0 2251799813685248)) 18446744073709551616
  let s2 := Nat.mod (Nat.add a2 (Nat.div s1 2251799813685248)) 18446744073709551616
  let s3 := Nat.mod (Nat.add a3 (Nat.div s2 2251799813685248)) 18446744073709551616
  let s4 := Nat.mod (Nat.add (Nat.land a4 2251799813685247) (Nat.div s3 2251799813685248)) 18446744073709551616
  [Nat.land s0 2251799813685247, Nat.land s1 2251799813685247, Nat.land s2 2251799813685247, Nat.land s3 2251799813685247, s4]
def settle1 (l : List Nat) : List Nat := match l with
  | [a0, a1, a2, a3, a4] => settleL a0 a1 a2 a3 a4
  | _ => []
def plusW (a b : Nat) : Nat := Nat.mod (Nat.add a b) 18446744073709551616
def addF (a0 a1 a2 a3 a4 b0 b1 b2 b3 b4 : Nat) : List Nat := settleL (plusW a0 b0) (plusW a1 b1) (plusW a2 b2) (plusW a3 b3) (plusW a4 b4)
/-- a + (two - b). -/
def lessW (a two b : Nat) : Nat := Nat.mod (Nat.add a (Nat.mod (Nat.add two (Nat.sub 18446744073709551616 b)) 18446744073709551616)) 18446744073709551616
def sub5 (a0 a1 a2 a3 a4 : Nat) (l : List Nat) : List Nat := match l with
  | [b0, b1, b2, b3, b4] => settle1 (settleL (lessW a0 9007199254740916 b0) (lessW a1 9007199254740988 b1) (lessW a2 9007199254740988 b2) (lessW a3 9007199254740988 b3) (lessW a4 9007199254740988 b4))
  | _ => []
def subF (a0 a1 a2 a3 a4 b0 b1 b2 b3 b4 : Nat) : List Nat := sub5 a0 a1 a2 a3 a4 (settleL b0 b1 b2 b3 b4)

/-! The same by any way of reckoning. -/
def settleG (A : Alg) (a0 a1 a2 a3 a4 : Nat) : List Nat :=
  let s0 := A.add 18446744073709551616 a0 (A.mul 18446744073709551616 19 (A.shr a4 51))
  let s1 := A.add 18446744073709551616 a1 (A.shr s0 51)
  let s2 := A.add 18446744073709551616 a2 (A.shr s1 51)
  let s3 := A.add 18446744073709551616 a3 (A.shr s2 51)
  let s4 := A.add 18446744073709551616 (A.and a4 2251799813685247) (A.shr s3 51)
  [A.and s0 2251799813685247, A.and s1 2251799813685247, A.and s2 2251799813685247, A.and s3 2251799813685247, s4]
def settle1G (A : Alg) (l : List Nat) : List Nat := match l with
  | [a0, a1, a2, a3, a4] => settleG A a0 a1 a2 a3 a4
  | _ => []
def addG (A : Alg) (a0 a1 a2 a3 a4 b0 b1 b2 b3 b4 : Nat) : List Nat := settleG A (A.add 18446744073709551616 a0 b0) (A.add 18446744073709551616 a1 b1) (A.add 18446744073709551616 a2 b2) (A.add 18446744073709551616 a3 b3) (A.add 18446744073709551616 a4 b4)
def lessG (A : Alg) (a two b : Nat) : Nat := A.add 18446744073709551616 a (A.sub 18446744073709551616 two b)
def sub5G (A : Alg) (a0 a1 a2 a3 a4 : Nat) (l : List Nat) : List Nat := match l with
  | [b0, b1, b2, b3, b4] => settle1G A (settleG A (lessG A a0 9007199254740916 b0) (lessG A a1 9007199254740988 b1) (lessG A a2 9007199254740988 b2) (lessG A a3 9007199254740988 b3) (lessG A a4 9007199254740988 b4))
  | _ => []
def subG (A : Alg) (a0 a1 a2 a3 a4 b0 b1 b2 b3 b4 : Nat) : List Nat := sub5G A a0 a1 a2 a3 a4 (settleG A b0 b1 b2 b3 b4)
theorem addG_eq (a0 a1 a2 a3 a4 b0 b1 b2 b3 b4 : Nat) : addG nA a0 a1 a2 a3 a4 b0 b1 b2 b3 b4 = addF a0 a1 a2 a3 a4 b0 b1 b2 b3 b4 := rfl
theorem subG_eq (a0 a1 a2 a3 a4 b0 b1 b2 b3 b4 : Nat) : subG nA a0 a1 a2 a3 a4 b0 b1 b2 b3 b4 = subF a0 a1 a2 a3 a4 b0 b1 b2 b3 b4 := rfl

/-- Wide numbers, as the program reckons them. -/
def wstep (w : Nat × Nat) (a b : Nat) : Nat × Nat := (Nat.mod (Nat.div (Nat.add (Nat.add (Nat.mul w.1 18446744073709551616) w.2) (Nat.mul a b)) 18446744073709551616) 18446744073709551616, Nat.mod (Nat.add (Nat.add (Nat.mul w.1 18446744073709551616) w.2) (Nat.mul a b)) 18446744073709551616)
def whigh (w : Nat × Nat) : Nat := Nat.lor (Nat.mod (Nat.mul w.1 8192) 18446744073709551616) (Nat.div w.2 2251799813685248)
def t19 (a : Nat) : Nat := Nat.mod (Nat.mul 19 a) 18446744073709551616
/-- What is handed on, of five sums. -/
def carryM (r0 r1 r2 r3 r4 : Nat × Nat) : List Nat :=
  let q1 := wstep r1 (whigh r0) 1
  let q2 := wstep r2 (whigh q1) 1
  let q3 := wstep r3 (whigh q2) 1
  let q4 := wstep r4 (whigh q3) 1
  let o0 := plusW (Nat.land r0.2 2251799813685247) (t19 (whigh q4))
  [Nat.land o0 2251799813685247, plusW (Nat.land q1.2 2251799813685247) (Nat.div o0 2251799813685248), Nat.land q2.2 2251799813685247, Nat.land q3.2 2251799813685247, Nat.land q4.2 2251799813685247]
def whighG (A : Alg) (w : Nat × Nat) : Nat := A.or (A.shl 18446744073709551616 w.1 13) (A.shr w.2 51)
def carryG (A : Alg) (r0 r1 r2 r3 r4 : Nat × Nat) : List Nat :=
  let q1 := wstep r1 (whighG A r0) 1
  let q2 := wstep r2 (whighG A q1) 1
  let q3 := wstep r3 (whighG A q2) 1
  let q4 := wstep r4 (whighG A q3) 1
  let o0 := A.add 18446744073709551616 (A.and r0.2 2251799813685247) (A.mul 18446744073709551616 19 (whighG A q4))
  [A.and o0 2251799813685247, A.add 18446744073709551616 (A.and q1.2 2251799813685247) (A.shr o0 51), A.and q2.2 2251799813685247, A.and q3.2 2251799813685247, A.and q4.2 2251799813685247]
def t19G (A : Alg) (a : Nat) : Nat := A.mul 18446744073709551616 19 a
def mulM (a0 a1 a2 a3 a4 b0 b1 b2 b3 b4 : Nat) : List Nat := carryM (wstep (wstep (wstep (wstep (wstep (0, 0) a0 b0) (t19 a1) b4) (t19 a2) b3) (t19 a3) b2) (t19 a4) b1) (wstep (wstep (wstep (wstep (wstep (0, 0) a0 b1) a1 b0) (t19 a2) b4) (t19 a3) b3) (t19 a4) b2) (wstep (wstep (wstep (wstep (wstep (0, 0) a0 b2) a1 b1) a2 b0) (t19 a3) b4) (t19 a4) b3) (wstep (wstep (wstep (wstep (wstep (0, 0) a0 b3) a1 b2) a2 b1) a3 b0) (t19 a4) b4) (wstep (wstep (wstep (wstep (wstep (0, 0) a0 b4) a1 b3) a2 b2) a3 b1) a4 b0)
def mulG (A : Alg) (a0 a1 a2 a3 a4 b0 b1 b2 b3 b4 : Nat) : List Nat := carryG A (wstep (wstep (wstep (wstep (wstep (0, 0) a0 b0) (t19G A a1) b4) (t19G A a2) b3) (t19G A a3) b2) (t19G A a4) b1) (wstep (wstep (wstep (wstep (wstep (0, 0) a0 b1) a1 b0) (t19G A a2) b4) (t19G A a3) b3) (t19G A a4) b2) (wstep (wstep (wstep (wstep (wstep (0, 0) a0 b2) a1 b1) a2 b0) (t19G A a3) b4) (t19G A a4) b3) (wstep (wstep (wstep (wstep (wstep (0, 0) a0 b3) a1 b2) a2 b1) a3 b0) (t19G A a4) b4) (wstep (wstep (wstep (wstep (wstep (0, 0) a0 b4) a1 b3) a2 b2) a3 b1) a4 b0)
theorem whighG_eq : whighG nA = whigh := rfl
theorem t19G_eq : t19G nA = t19 := rfl
theorem carryG_eq (r0 r1 r2 r3 r4 : Nat × Nat) : carryG nA r0 r1 r2 r3 r4 = carryM r0 r1 r2 r3 r4 := by
  unfold carryG carryM
  rw [whighG_eq]
  rfl
theorem mulG_eq (a0 a1 a2 a3 a4 b0 b1 b2 b3 b4 : Nat) : mulG nA a0 a1 a2 a3 a4 b0 b1 b2 b3 b4 = mulM a0 a1 a2 a3 a4 b0 b1 b2 b3 b4 := by
  unfold mulG mulM
  rw [carryG_eq, t19G_eq]

/-! The same, the sums told at once. -/
def high1 (s : Nat) : Nat := Nat.lor (Nat.mod (Nat.mul (Nat.mod (Nat.div s 18446744073709551616) 18446744073709551616) 8192) 18446744073709551616) (Nat.div (Nat.mod s 18446744073709551616) 2251799813685248)
def low1 (s : Nat) : Nat := Nat.land (Nat.mod s 18446744073709551616) 2251799813685247
def carryF (s0 s1 s2 s3 s4 : Nat) : List Nat :=
  let q1 := Nat.add s1 (high1 s0)
  let q2 := Nat.add s2 (high1 q1)
  let q3 := Nat.add s3 (high1 q2)
  let q4 := Nat.add s4 (high1 q3)
  let o0 := plusW (low1 s0) (t19 (high1 q4))
  [Nat.land o0 2251799813685247, plusW (low1 q1) (Nat.div o0 2251799813685248), low1 q2, low1 q3, low1 q4]
def mulF (a0 a1 a2 a3 a4 b0 b1 b2 b3 b4 : Nat) : List Nat := carryF (Nat.add (Nat.add (Nat.add (Nat.add (Nat.mul a0 b0) (Nat.mul (t19 a1) b4)) (Nat.mul (t19 a2) b3)) (Nat.mul (t19 a3) b2)) (Nat.mul (t19 a4) b1)) (Nat.add (Nat.add (Nat.add (Nat.add (Nat.mul a0 b1) (Nat.mul a1 b0)) (Nat.mul (t19 a2) b4)) (Nat.mul (t19 a3) b3)) (Nat.mul (t19 a4) b2)) (Nat.add (Nat.add (Nat.add (Nat.add (Nat.mul a0 b2) (Nat.mul a1 b1)) (Nat.mul a2 b0)) (Nat.mul (t19 a3) b4)) (Nat.mul (t19 a4) b3)) (Nat.add (Nat.add (Nat.add (Nat.add (Nat.mul a0 b3) (Nat.mul a1 b2)) (Nat.mul a2 b1)) (Nat.mul a3 b0)) (Nat.mul (t19 a4) b4)) (Nat.add (Nat.add (Nat.add (Nat.add (Nat.mul a0 b4) (Nat.mul a1 b3)) (Nat.mul a2 b2)) (Nat.mul a3 b1)) (Nat.mul a4 b0))

def RepW (w : Nat × Nat) (s : Nat) : Prop := w = (s / 18446744073709551616 % 18446744073709551616, s % 18446744073709551616)
theorem RepW.zero : RepW (0, 0) 0 := rfl
theorem RepW.step {w : Nat × Nat} {s : Nat} (h : RepW w s) (a b : Nat) : RepW (wstep w a b) (s + a * b) := by
  subst h
  have e : ∀ p : Nat, (s / 18446744073709551616 % 18446744073709551616 * 18446744073709551616 + s % 18446744073709551616 + p) % (18446744073709551616 * 18446744073709551616) = (s + p) % (18446744073709551616 * 18446744073709551616) := fun p => by omega
  have hd : ∀ x : Nat, x / 18446744073709551616 % 18446744073709551616 = x % (18446744073709551616 * 18446744073709551616) / 18446744073709551616 := fun x => by omega
  have hm : ∀ x : Nat, x % 18446744073709551616 = x % (18446744073709551616 * 18446744073709551616) % 18446744073709551616 := fun x => by omega
  show ((s / 18446744073709551616 % 18446744073709551616 * 18446744073709551616 + s % 18446744073709551616 + a * b) / 18446744073709551616 % 18446744073709551616, (s / 18446744073709551616 % 18446744073709551616 * 18446744073709551616 + s % 18446744073709551616 + a * b) % 18446744073709551616) = _
  generalize a * b = p
  rw [hd, hm (_ + p), e p, ← hd, ← hm]
theorem RepW.high {w : Nat × Nat} {s : Nat} (h : RepW w s) : whigh w = high1 s := by subst h; rfl
theorem RepW.low {w : Nat × Nat} {s : Nat} (h : RepW w s) : Nat.land w.2 2251799813685247 = low1 s := by subst h; rfl
theorem carry_eq {r0 r1 r2 r3 r4 : Nat × Nat} {s0 s1 s2 s3 s4 : Nat} (h0 : RepW r0 s0) (h1 : RepW r1 s1) (h2 : RepW r2 s2) (h3 : RepW r3 s3) (h4 : RepW r4 s4) : carryM r0 r1 r2 r3 r4 = carryF s0 s1 s2 s3 s4 := by
  have q1 := h1.step (whigh r0) 1
  rw [h0.high, Nat.mul_one] at q1
  have q2 := h2.step (high1 (s1 + high1 s0)) 1
  rw [Nat.mul_one] at q2
  have q3 := h3.step (high1 (s2 + high1 (s1 + high1 s0))) 1
  rw [Nat.mul_one] at q3
  have q4 := h4.step (high1 (s3 + high1 (s2 + high1 (s1 + high1 s0)))) 1
  rw [Nat.mul_one] at q4
  unfold carryM carryF
  simp only [h0.high, q1.high, q2.high, q3.high, q4.high, h0.low, q1.low, q2.low, q3.low, q4.low]
  rfl
theorem mul_eq (a0 a1 a2 a3 a4 b0 b1 b2 b3 b4 : Nat) : mulM a0 a1 a2 a3 a4 b0 b1 b2 b3 b4 = mulF a0 a1 a2 a3 a4 b0 b1 b2 b3 b4 := by
  have h0 := trivial
  refine (carry_eq (s0 := (0 + a0 * b0 + (t19 a1) * b4 + (t19 a2) * b3 + (t19 a3) * b2 + (t19 a4) * b1)) (s1 := (0 + a0 * b1 + a1 * b0 + (t19 a2) * b4 + (t19 a3) * b3 + (t19 a4) * b2)) (s2 := (0 + a0 * b2 + a1 * b1 + a2 * b0 + (t19 a3) * b4 + (t19 a4) * b3)) (s3 := (0 + a0 * b3 + a1 * b2 + a2 * b1 + a3 * b0 + (t19 a4) * b4)) (s4 := (0 + a0 * b4 + a1 * b3 + a2 * b2 + a3 * b1 + a4 * b0)) (RepW.step (RepW.step (RepW.step (RepW.step (RepW.step RepW.zero _ _) _ _) _ _) _ _) _ _) (RepW.step (RepW.step (RepW.step (RepW.step (RepW.step RepW.zero _ _) _ _) _ _) _ _) _ _) (RepW.step (RepW.step (RepW.step (RepW.step (RepW.step RepW.zero _ _) _ _) _ _) _ _) _ _) (RepW.step (RepW.step (RepW.step (RepW.step (RepW.step RepW.zero _ _) _ _) _ _) _ _) _ _) (RepW.step (RepW.step (RepW.step (RepW.step (RepW.step RepW.zero _ _) _ _) _ _) _ _) _ _)).trans ?_
  · simp only [Nat.zero_add]
    rfl
noncomputable def hA : Hk := pureHook 326 gWA
theorem add_run (a0 : Nat) (ha0 : a0 < um .u64) (a1 : Nat) (ha1 : a1 < um .u64) (a2 : Nat) (ha2 : a2 < um .u64) (a3 : Nat) (ha3 : a3 < um .u64) (a4 : Nat) (ha4 : a4 < um .u64) (b0 : Nat) (hb0 : b0 < um .u64) (b1 : Nat) (hb1 : b1 < um .u64) (b2 : Nat) (hb2 : b2 < um .u64) (b3 : Nat) (hb3 : b3 < um .u64) (b4 : Nat) (hb4 : b4 < um .u64) (E : Nat → Nat) : (xcall Tryz.prog okT hA dhC 1000 20 322 [.agg [.sn .u64 a0 ha0, .sn .u64 a1 ha1, .sn .u64 a2 ha2, .sn .u64 a3 ha3, .sn .u64 a4 ha4], .agg [.sn .u64 b0 hb0, .sn .u64 b1 hb1, .sn .u64 b2 hb2, .sn .u64 b3 hb3, .sn .u64 b4 hb4]] (st0 [] E)).val.bind (nats .u64) = some (addG oA a0 a1 a2 a3 a4 b0 b1 b2 b3 b4) := by kernel_rfl
theorem add_any (a0 : Nat) (ha0 : a0 < um .u64) (a1 : Nat) (ha1 : a1 < um .u64) (a2 : Nat) (ha2 : a2 < um .u64) (a3 : Nat) (ha3 : a3 < um .u64) (a4 : Nat) (ha4 : a4 < um .u64) (b0 : Nat) (hb0 : b0 < um .u64) (b1 : Nat) (hb1 : b1 < um .u64) (b2 : Nat) (hb2 : b2 < um .u64) (b3 : Nat) (hb3 : b3 < um .u64) (b4 : Nat) (hb4 : b4 < um .u64) (W : World) : Calls Tryz.prog 322 #[.agg #[.int .u64 a0, .int .u64 a1, .int .u64 a2, .int .u64 a3, .int .u64 a4], .agg #[.int .u64 b0, .int .u64 b1, .int .u64 b2, .int .u64 b3, .int .u64 b4]] W fun e W' => e = .returned (.agg ((addF a0 a1 a2 a3 a4 b0 b1 b2 b3 b4).map fun (n : Nat) => Value.int .u64 n).toArray) ∧ OnlyB W W' (fun _ => False) := by
  rw [← addG_eq, ← oA_eq]
  exact nat_calls (E := fun _ => 0) okt callsOK mixed wadd_good dhC_good (args := [.agg [.sn .u64 a0 ha0, .sn .u64 a1 ha1, .sn .u64 a2 ha2, .sn .u64 a3 ha3, .sn .u64 a4 ha4], .agg [.sn .u64 b0 hb0, .sn .u64 b1 hb1, .sn .u64 b2 hb2, .sn .u64 b3 hb3, .sn .u64 b4 hb4]]) (us := [.agg #[.int .u64 a0, .int .u64 a1, .int .u64 a2, .int .u64 a3, .int .u64 a4], .agg #[.int .u64 b0, .int .u64 b1, .int .u64 b2, .int .u64 b3, .int .u64 b4]]) (fun σ => rfl) (by kernel_rfl) (by kernel_rfl) (fun _ _ h => by cases h) (add_run a0 ha0 a1 ha1 a2 ha2 a3 ha3 a4 ha4 b0 hb0 b1 hb1 b2 hb2 b3 hb3 b4 hb4 _)
theorem sub_run (a0 : Nat) (ha0 : a0 < um .u64) (a1 : Nat) (ha1 : a1 < um .u64) (a2 : Nat) (ha2 : a2 < um .u64) (a3 : Nat) (ha3 : a3 < um .u64) (a4 : Nat) (ha4 : a4 < um .u64) (b0 : Nat) (hb0 : b0 < um .u64) (b1 : Nat) (hb1 : b1 < um .u64) (b2 : Nat) (hb2 : b2 < um .u64) (b3 : Nat) (hb3 : b3 < um .u64) (b4 : Nat) (hb4 : b4 < um .u64) (E : Nat → Nat) : (xcall Tryz.prog okT hA dhC 1000 20 323 [.agg [.sn .u64 a0 ha0, .sn .u64 a1 ha1, .sn .u64 a2 ha2, .sn .u64 a3 ha3, .sn .u64 a4 ha4], .agg [.sn .u64 b0 hb0, .sn .u64 b1 hb1, .sn .u64 b2 hb2, .sn .u64 b3 hb3, .sn .u64 b4 hb4]] (st0 [] E)).val.bind (nats .u64) = some (subG oA a0 a1 a2 a3 a4 b0 b1 b2 b3 b4) := by kernel_rfl
theorem sub_any (a0 : Nat) (ha0 : a0 < um .u64) (a1 : Nat) (ha1 : a1 < um .u64) (a2 : Nat) (ha2 : a2 < um .u64) (a3 : Nat) (ha3 : a3 < um .u64) (a4 : Nat) (ha4 : a4 < um .u64) (b0 : Nat) (hb0 : b0 < um .u64) (b1 : Nat) (hb1 : b1 < um .u64) (b2 : Nat) (hb2 : b2 < um .u64) (b3 : Nat) (hb3 : b3 < um .u64) (b4 : Nat) (hb4 : b4 < um .u64) (W : World) : Calls Tryz.prog 323 #[.agg #[.int .u64 a0, .int .u64 a1, .int .u64 a2, .int .u64 a3, .int .u64 a4], .agg #[.int .u64 b0, .int .u64 b1, .int .u64 b2, .int .u64 b3, .int .u64 b4]] W fun e W' => e = .returned (.agg ((subF a0 a1 a2 a3 a4 b0 b1 b2 b3 b4).map fun (n : Nat) => Value.int .u64 n).toArray) ∧ OnlyB W W' (fun _ => False) := by
  rw [← subG_eq, ← oA_eq]
  exact nat_calls (E := fun _ => 0) okt callsOK mixed wadd_good dhC_good (args := [.agg [.sn .u64 a0 ha0, .sn .u64 a1 ha1, .sn .u64 a2 ha2, .sn .u64 a3 ha3, .sn .u64 a4 ha4], .agg [.sn .u64 b0 hb0, .sn .u64 b1 hb1, .sn .u64 b2 hb2, .sn .u64 b3 hb3, .sn .u64 b4 hb4]]) (us := [.agg #[.int .u64 a0, .int .u64 a1, .int .u64 a2, .int .u64 a3, .int .u64 a4], .agg #[.int .u64 b0, .int .u64 b1, .int .u64 b2, .int .u64 b3, .int .u64 b4]]) (fun σ => rfl) (by kernel_rfl) (by kernel_rfl) (fun _ _ h => by cases h) (sub_run a0 ha0 a1 ha1 a2 ha2 a3 ha3 a4 ha4 b0 hb0 b1 hb1 b2 hb2 b3 hb3 b4 hb4 _)
theorem mul_run (a0 : Nat) (ha0 : a0 < um .u64) (a1 : Nat) (ha1 : a1 < um .u64) (a2 : Nat) (ha2 : a2 < um .u64) (a3 : Nat) (ha3 : a3 < um .u64) (a4 : Nat) (ha4 : a4 < um .u64) (b0 : Nat) (hb0 : b0 < um .u64) (b1 : Nat) (hb1 : b1 < um .u64) (b2 : Nat) (hb2 : b2 < um .u64) (b3 : Nat) (hb3 : b3 < um .u64) (b4 : Nat) (hb4 : b4 < um .u64) (E : Nat → Nat) : (xcall Tryz.prog okT hA dhC 1000 20 294 [.agg [.sn .u64 a0 ha0, .sn .u64 a1 ha1, .sn .u64 a2 ha2, .sn .u64 a3 ha3, .sn .u64 a4 ha4], .agg [.sn .u64 b0 hb0, .sn .u64 b1 hb1, .sn .u64 b2 hb2, .sn .u64 b3 hb3, .sn .u64 b4 hb4]] (st0 [] E)).val.bind (nats .u64) = some (mulG oA a0 a1 a2 a3 a4 b0 b1 b2 b3 b4) := by kernel_rfl
theorem mul_any (a0 : Nat) (ha0 : a0 < um .u64) (a1 : Nat) (ha1 : a1 < um .u64) (a2 : Nat) (ha2 : a2 < um .u64) (a3 : Nat) (ha3 : a3 < um .u64) (a4 : Nat) (ha4 : a4 < um .u64) (b0 : Nat) (hb0 : b0 < um .u64) (b1 : Nat) (hb1 : b1 < um .u64) (b2 : Nat) (hb2 : b2 < um .u64) (b3 : Nat) (hb3 : b3 < um .u64) (b4 : Nat) (hb4 : b4 < um .u64) (W : World) : Calls Tryz.prog 294 #[.agg #[.int .u64 a0, .int .u64 a1, .int .u64 a2, .int .u64 a3, .int .u64 a4], .agg #[.int .u64 b0, .int .u64 b1, .int .u64 b2, .int .u64 b3, .int .u64 b4]] W fun e W' => e = .returned (.agg ((mulF a0 a1 a2 a3 a4 b0 b1 b2 b3 b4).map fun (n : Nat) => Value.int .u64 n).toArray) ∧ OnlyB W W' (fun _ => False) := by
  rw [← mul_eq]
  rw [← mulG_eq, ← oA_eq]
  exact nat_calls (E := fun _ => 0) okt callsOK mixed wadd_good dhC_good (args := [.agg [.sn .u64 a0 ha0, .sn .u64 a1 ha1, .sn .u64 a2 ha2, .sn .u64 a3 ha3, .sn .u64 a4 ha4], .agg [.sn .u64 b0 hb0, .sn .u64 b1 hb1, .sn .u64 b2 hb2, .sn .u64 b3 hb3, .sn .u64 b4 hb4]]) (us := [.agg #[.int .u64 a0, .int .u64 a1, .int .u64 a2, .int .u64 a3, .int .u64 a4], .agg #[.int .u64 b0, .int .u64 b1, .int .u64 b2, .int .u64 b3, .int .u64 b4]]) (fun σ => rfl) (by kernel_rfl) (by kernel_rfl) (fun _ _ h => by cases h) (mul_run a0 ha0 a1 ha1 a2 ha2 a3 ha3 a4 ha4 b0 hb0 b1 hb1 b2 hb2 b3 hb3 b4 hb4 _)

abbrev N64 := { n : Nat // n < um .u64 }
/-- Five parts. -/
structure L5 where
  a0 : N64
  a1 : N64
  a2 : N64
  a3 : N64
  a4 : N64
def L5.list (x : L5) : List Nat := [x.a0.1, x.a1.1, x.a2.1, x.a3.1, x.a4.1]
def L5.val (x : L5) : Value := .agg #[.int .u64 x.a0.1, .int .u64 x.a1.1, .int .u64 x.a2.1, .int .u64 x.a3.1, .int .u64 x.a4.1]
noncomputable def L5.avs (s : Bool) (x : L5) : List AV := [limb s .u64 x.a0.1 x.a0.2, limb s .u64 x.a1.1 x.a1.2, limb s .u64 x.a2.1 x.a2.2, limb s .u64 x.a3.1 x.a3.2, limb s .u64 x.a4.1 x.a4.2]
theorem L5.avs_den {σ : Env} (s : Bool) (x : L5) : denL σ (x.avs s) = some [.int .u64 x.a0.1, .int .u64 x.a1.1, .int .u64 x.a2.1, .int .u64 x.a3.1, .int .u64 x.a4.1] := by simp only [L5.avs, denL, limb_den]
theorem L5.val_eq (x : L5) : x.val = .agg (x.list.map fun (n : Nat) => Value.int .u64 n).toArray := rfl
def andM (n : Nat) : N64 := ⟨Nat.land n 2251799813685247, Nat.lt_of_le_of_lt Nat.and_le_right (by decide)⟩
def modW (n : Nat) : N64 := ⟨Nat.mod n 18446744073709551616, Nat.mod_lt _ (by decide)⟩
def settleS (a0 a1 a2 a3 a4 : Nat) : L5 :=
  let s0 := Nat.mod (Nat.add a0 (Nat.mod (Nat.mul 19 (Nat.div a4 2251799813685248)) 18446744073709551616)) 18446744073709551616
  let s1 := Nat.mod (Nat.add a1 (Nat.div s0 2251799813685248)) 18446744073709551616
  let s2 := Nat.mod (Nat.add a2 (Nat.div s1 2251799813685248)) 18446744073709551616
  let s3 := Nat.mod (Nat.add a3 (Nat.div s2 2251799813685248)) 18446744073709551616
  ⟨andM s0, andM s1, andM s2, andM s3, modW (Nat.add (Nat.land a4 2251799813685247) (Nat.div s3 2251799813685248))⟩
def addS (a b : L5) : L5 := settleS (plusW a.a0.1 b.a0.1) (plusW a.a1.1 b.a1.1) (plusW a.a2.1 b.a2.1) (plusW a.a3.1 b.a3.1) (plusW a.a4.1 b.a4.1)
def lessS (a b : L5) : L5 := settleS (lessW a.a0.1 9007199254740916 b.a0.1) (lessW a.a1.1 9007199254740988 b.a1.1) (lessW a.a2.1 9007199254740988 b.a2.1) (lessW a.a3.1 9007199254740988 b.a3.1) (lessW a.a4.1 9007199254740988 b.a4.1)
def settleT (x : L5) : L5 := settleS x.a0.1 x.a1.1 x.a2.1 x.a3.1 x.a4.1
def subS (a b : L5) : L5 := settleT (lessS a (settleT b))
def carryS (s0 s1 s2 s3 s4 : Nat) : L5 :=
  let q1 := Nat.add s1 (high1 s0)
  let q2 := Nat.add s2 (high1 q1)
  let q3 := Nat.add s3 (high1 q2)
  let q4 := Nat.add s4 (high1 q3)
  let o0 := plusW (low1 s0) (t19 (high1 q4))
  ⟨andM o0, modW (Nat.add (low1 q1) (Nat.div o0 2251799813685248)), andM (Nat.mod q2 18446744073709551616), andM (Nat.mod q3 18446744073709551616), andM (Nat.mod q4 18446744073709551616)⟩
def mulS (a b : L5) : L5 := carryS (Nat.add (Nat.add (Nat.add (Nat.add (Nat.mul a.a0.1 b.a0.1) (Nat.mul (t19 a.a1.1) b.a4.1)) (Nat.mul (t19 a.a2.1) b.a3.1)) (Nat.mul (t19 a.a3.1) b.a2.1)) (Nat.mul (t19 a.a4.1) b.a1.1)) (Nat.add (Nat.add (Nat.add (Nat.add (Nat.mul a.a0.1 b.a1.1) (Nat.mul a.a1.1 b.a0.1)) (Nat.mul (t19 a.a2.1) b.a4.1)) (Nat.mul (t19 a.a3.1) b.a3.1)) (Nat.mul (t19 a.a4.1) b.a2.1)) (Nat.add (Nat.add (Nat.add (Nat.add (Nat.mul a.a0.1 b.a2.1) (Nat.mul a.a1.1 b.a1.1)) (Nat.mul a.a2.1 b.a0.1)) (Nat.mul (t19 a.a3.1) b.a4.1)) (Nat.mul (t19 a.a4.1) b.a3.1)) (Nat.add (Nat.add (Nat.add (Nat.add (Nat.mul a.a0.1 b.a3.1) (Nat.mul a.a1.1 b.a2.1)) (Nat.mul a.a2.1 b.a1.1)) (Nat.mul a.a3.1 b.a0.1)) (Nat.mul (t19 a.a4.1) b.a4.1)) (Nat.add (Nat.add (Nat.add (Nat.add (Nat.mul a.a0.1 b.a4.1) (Nat.mul a.a1.1 b.a3.1)) (Nat.mul a.a2.1 b.a2.1)) (Nat.mul a.a3.1 b.a1.1)) (Nat.mul a.a4.1 b.a0.1))
theorem add_list (a b : L5) : (addS a b).list = addF a.a0.1 a.a1.1 a.a2.1 a.a3.1 a.a4.1 b.a0.1 b.a1.1 b.a2.1 b.a3.1 b.a4.1 := rfl
theorem sub_list (a b : L5) : (subS a b).list = subF a.a0.1 a.a1.1 a.a2.1 a.a3.1 a.a4.1 b.a0.1 b.a1.1 b.a2.1 b.a3.1 b.a4.1 := rfl
theorem mul_list (a b : L5) : (mulS a b).list = mulF a.a0.1 a.a1.1 a.a2.1 a.a3.1 a.a4.1 b.a0.1 b.a1.1 b.a2.1 b.a3.1 b.a4.1 := rfl

/-- Five parts, looked into or not. -/
structure Five where
  s : Bool
  p : L5
def isSn : AV → Bool
  | .sn .. => true
  | _ => false
noncomputable def fiveL : List AV → Option Five
  | [x0, x1, x2, x3, x4] => match symN .u64 x0, symN .u64 x1, symN .u64 x2, symN .u64 x3, symN .u64 x4 with
    | some a0, some a1, some a2, some a3, some a4 => some ⟨isSn x0 || isSn x1 || isSn x2 || isSn x3 || isSn x4, a0, a1, a2, a3, a4⟩
    | _, _, _, _, _ => none
  | _ => none
noncomputable def fiveOf : AV → Option Five
  | .agg l => fiveL l
  | _ => none
theorem fiveL_den {σ : Env} {l : List AV} {x : Five} (h : fiveL l = some x) {us : List Value} (hd : denL σ l = some us) : us = [.int .u64 x.p.a0.1, .int .u64 x.p.a1.1, .int .u64 x.p.a2.1, .int .u64 x.p.a3.1, .int .u64 x.p.a4.1] := by
  unfold fiveL at h
  split at h
  · rename_i x0 x1 x2 x3 x4
    split at h
    · rename_i a0 a1 a2 a3 a4 q0 q1 q2 q3 q4
      obtain rfl := Option.some.inj h
      obtain ⟨u0, l0, rfl, h0, hl⟩ := denL_cons hd
      obtain ⟨u1, l1, rfl, h1, hl⟩ := denL_cons hl
      obtain ⟨u2, l2, rfl, h2, hl⟩ := denL_cons hl
      obtain ⟨u3, l3, rfl, h3, hl⟩ := denL_cons hl
      obtain ⟨u4, l4, rfl, h4, hl⟩ := denL_cons hl
      obtain rfl := denL_nil hl
      rw [symN_ok q0 h0, symN_ok q1 h1, symN_ok q2 h2, symN_ok q3 h3, symN_ok q4 h4]
      rfl
    · cases h
  · cases h
theorem five_den {σ : Env} {v : AV} {x : Five} (h : fiveOf v = some x) {u : Value} (hd : den σ v = some u) : u = x.p.val := by
  unfold fiveOf at h
  split at h
  · rename_i l
    simp only [den] at hd
    split at hd
    · rename_i us hl
      obtain rfl := Option.some.inj hd
      rw [fiveL_den h hl]
      rfl
    · cases hd
  · cases h

noncomputable def gF (f : L5 → L5 → L5) : List AV → Option AV
  | [x, y] => match fiveOf x, fiveOf y with
    | some a, some b => some (.agg ((f a.p b.p).avs (a.s || b.s)))
    | _, _ => none
  | _ => none
theorem gF_good {f : Nat} (hf : ∃ fn c, nthL Tryz.prog.funcs.toList f = some fn ∧ fn.body = some c) {F : L5 → L5 → L5}
    (h : ∀ (a b : L5) (W : World), Calls Tryz.prog f #[a.val, b.val] W fun e W' => e = .returned (F a b).val ∧ OnlyB W W' (fun _ => False)) : HkGood Tryz.prog (pureHook f (gF F)) := by
  refine fHook_good hf fun args v σ us w hg hd => ?_
  unfold gF at hg
  split at hg
  · rename_i x y
    split at hg
    · rename_i a b ha hb
      obtain rfl := Option.some.inj hg
      obtain ⟨u, l1, rfl, hx, hd⟩ := denL_cons hd
      obtain ⟨u', l2, rfl, hy, hd⟩ := denL_cons hd
      obtain rfl := denL_nil hd
      obtain rfl := five_den ha hx
      obtain rfl := five_den hb hy
      exact ⟨_, by simp only [den, L5.avs_den]; rfl, h a.p b.p w⟩
    · cases hg
  · cases hg
theorem add_fn : fnOf Tryz.prog 322 = some (ntOf Tryz.prog 322, bodyOf Tryz.prog 322, resultsOf Tryz.prog 322) := by kernel_rfl
theorem add_good : HkGood Tryz.prog (pureHook 322 (gF addS)) := by
  obtain ⟨fn, h1, _, h3, _⟩ := fnOf_ok add_fn
  refine gF_good ⟨fn, _, h1, h3⟩ fun a b W => ?_
  rw [L5.val_eq (addS a b), add_list]
  exact add_any _ a.a0.2 _ a.a1.2 _ a.a2.2 _ a.a3.2 _ a.a4.2 _ b.a0.2 _ b.a1.2 _ b.a2.2 _ b.a3.2 _ b.a4.2 W
theorem sub_fn : fnOf Tryz.prog 323 = some (ntOf Tryz.prog 323, bodyOf Tryz.prog 323, resultsOf Tryz.prog 323) := by kernel_rfl
theorem sub_good : HkGood Tryz.prog (pureHook 323 (gF subS)) := by
  obtain ⟨fn, h1, _, h3, _⟩ := fnOf_ok sub_fn
  refine gF_good ⟨fn, _, h1, h3⟩ fun a b W => ?_
  rw [L5.val_eq (subS a b), sub_list]
  exact sub_any _ a.a0.2 _ a.a1.2 _ a.a2.2 _ a.a3.2 _ a.a4.2 _ b.a0.2 _ b.a1.2 _ b.a2.2 _ b.a3.2 _ b.a4.2 W
theorem mul_fn : fnOf Tryz.prog 294 = some (ntOf Tryz.prog 294, bodyOf Tryz.prog 294, resultsOf Tryz.prog 294) := by kernel_rfl
theorem mul_good : HkGood Tryz.prog (pureHook 294 (gF mulS)) := by
  obtain ⟨fn, h1, _, h3, _⟩ := fnOf_ok mul_fn
  refine gF_good ⟨fn, _, h1, h3⟩ fun a b W => ?_
  rw [L5.val_eq (mulS a b), mul_list]
  exact mul_any _ a.a0.2 _ a.a1.2 _ a.a2.2 _ a.a3.2 _ a.a4.2 _ b.a0.2 _ b.a1.2 _ b.a2.2 _ b.a3.2 _ b.a4.2 W
noncomputable def hF : Hk := hor (pureHook 294 (gF mulS)) (hor (pureHook 322 (gF addS)) (pureHook 323 (gF subS)))
theorem hF_good : HkGood Tryz.prog hF := HkGood.or mul_good (HkGood.or add_good sub_good)
end Go.Proofs.YtjfmelmiegnmjaaGreatDoor

/- The ladder's step; the sum of two points: what they reckon. -/
open Go Go.Sx Go.Proofs Go.RowKit
set_option linter.all false
namespace Go.Proofs.YtjfmelmiegnmjaaGreatDoor
set_option maxRecDepth 1000000

def num5 (n : Nat) (h : n < um .u64) : L5 := ⟨⟨n, h⟩, ⟨0, by decide⟩, ⟨0, by decide⟩, ⟨0, by decide⟩, ⟨0, by decide⟩⟩
def sqS (a : L5) : L5 := mulS a a
def dblS (a : L5) : L5 := addS a a
def stepE (ss e : L5) : L5 := mulS e (addS ss (mulS (num5 121665 (by decide)) e))
def step0 (a b : L5) : L5 × L5 := (sqS (addS a b), sqS (subS a b))
def stepX (a b c d : L5) : L5 := sqS (addS (mulS (subS c d) (addS a b)) (mulS (addS c d) (subS a b)))
def stepZ (u a b c d : L5) : L5 := mulS u (sqS (subS (mulS (subS c d) (addS a b)) (mulS (addS c d) (subS a b))))
def stepA (a b : L5) : L5 := mulS (sqS (addS a b)) (sqS (subS a b))
def stepB (a b : L5) : L5 := stepE (sqS (addS a b)) (subS (sqS (addS a b)) (sqS (subS a b)))

theorem step_run (u a b c d : L5) (E : Nat → Nat) : (xcall Tryz.prog okT hF dhC 1000 20 292 [.agg (u.avs true), .agg (a.avs true), .agg (b.avs true), .agg (c.avs true), .agg (d.avs true)] (st0 [] E)).val =
    some (.tup [.agg ((stepA a b).avs true), .agg ((stepB a b).avs true), .agg ((stepX a b c d).avs true), .agg ((stepZ u a b c d).avs true)]) := by kernel_rfl

theorem step_any (u a b c d : L5) (W : World) : Calls Tryz.prog 292 #[u.val, a.val, b.val, c.val, d.val] W fun e W' => e = .returned (.tuple #[(stepA a b).val, (stepB a b).val, (stepX a b c d).val, (stepZ u a b c d).val]) ∧ OnlyB W W' (fun _ => False) :=
  sym_calls (E := fun _ => 0) okt callsOK mixed hF_good dhC_good (args := [.agg (u.avs true), .agg (a.avs true), .agg (b.avs true), .agg (c.avs true), .agg (d.avs true)]) (us := [u.val, a.val, b.val, c.val, d.val]) (fun σ => by simp only [denL, den, L5.avs_den]; rfl) (by kernel_rfl) (by kernel_rfl) (fun _ _ h => by cases h) (step_run u a b c d _)
    (fun σ => by simp only [denL, den, L5.avs_den]; rfl)

/-- Points, by their parts. -/
structure P4 where
  x : L5
  y : L5
  z : L5
  t : L5
noncomputable def P4.avs (s : Bool) (p : P4) : List AV := p.x.avs s ++ (p.y.avs s ++ (p.z.avs s ++ p.t.avs s))
def P4.val (p : P4) : Value := .agg (p.x.val.cells.toList ++ (p.y.val.cells.toList ++ (p.z.val.cells.toList ++ p.t.val.cells.toList))).toArray
theorem P4.avs_den {σ : Env} (s : Bool) (p : P4) : den σ (.agg (p.avs s)) = some p.val := by
  simp only [den, P4.avs]
  rw [denL_append (p.x.avs_den s) (denL_append (p.y.avs_den s) (denL_append (p.z.avs_den s) (p.t.avs_den s)))]
  rfl
def ptE (p q : P4) : L5 × L5 := (mulS (subS p.y p.x) (subS q.y q.x), mulS (addS p.y p.x) (addS q.y q.x))
def ptA (p q : P4) : L5 := mulS (subS p.y p.x) (subS q.y q.x)
def ptB (p q : P4) : L5 := mulS (addS p.y p.x) (addS q.y q.x)
def ptC (p q : P4) (d : L5) : L5 := mulS (mulS p.t d) q.t
def ptZ (p q : P4) : L5 := dblS (mulS p.z q.z)
def sumS (p q : P4) (d : L5) : P4 :=
  ⟨mulS (subS (ptB p q) (ptA p q)) (subS (ptZ p q) (ptC p q d)), mulS (addS (ptZ p q) (ptC p q d)) (addS (ptB p q) (ptA p q)), mulS (subS (ptZ p q) (ptC p q d)) (addS (ptZ p q) (ptC p q d)), mulS (subS (ptB p q) (ptA p q)) (addS (ptB p q) (ptA p q))⟩

theorem sum_run (p q : P4) (d : L5) (E : Nat → Nat) : (xcall Tryz.prog okT hF dhC 1000 20 314 [.agg (p.avs true), .agg (q.avs true), .agg (d.avs true)] (st0 [] E)).val = some (.agg ((sumS p q d).avs true)) := by kernel_rfl
theorem sum_any (p q : P4) (d : L5) (W : World) : Calls Tryz.prog 314 #[p.val, q.val, d.val] W fun e W' => e = .returned (sumS p q d).val ∧ OnlyB W W' (fun _ => False) :=
  sym_calls (E := fun _ => 0) okt callsOK mixed hF_good dhC_good (args := [.agg (p.avs true), .agg (q.avs true), .agg (d.avs true)]) (us := [p.val, q.val, d.val]) (fun σ => by
      have h1 := p.avs_den (σ := σ) true
      have h2 := q.avs_den (σ := σ) true
      have h3 : den σ (.agg (d.avs true)) = some d.val := by simp only [den, L5.avs_den]; rfl
      simp only [denL, h1, h2, h3]) (by kernel_rfl) (by kernel_rfl) (fun _ _ h => by cases h) (sum_run p q d _) (fun σ => P4.avs_den true _)

/-! The hooks. -/
noncomputable def gStep : List AV → Option AV
  | [x, y, z, v, w] => match fiveOf x, fiveOf y, fiveOf z, fiveOf v, fiveOf w with
    | some u, some a, some b, some c, some d => let s := u.s || (a.s || (b.s || (c.s || d.s)))
      some (.tup [.agg ((stepA a.p b.p).avs s), .agg ((stepB a.p b.p).avs s), .agg ((stepX a.p b.p c.p d.p).avs s), .agg ((stepZ u.p a.p b.p c.p d.p).avs s)])
    | _, _, _, _, _ => none
  | _ => none
theorem step_fn : fnOf Tryz.prog 292 = some (ntOf Tryz.prog 292, bodyOf Tryz.prog 292, resultsOf Tryz.prog 292) := by kernel_rfl
theorem step_good : HkGood Tryz.prog (pureHook 292 gStep) := by
  obtain ⟨fn, h1, _, h3, _⟩ := fnOf_ok step_fn
  refine fHook_good ⟨fn, _, h1, h3⟩ fun args v σ us w hg hd => ?_
  unfold gStep at hg
  split at hg
  · split at hg
    · rename_i u a b c d q1 q2 q3 q4 q5
      obtain rfl := Option.some.inj hg
      obtain ⟨u1, l1, rfl, k1, hd⟩ := denL_cons hd
      obtain ⟨u2, l2, rfl, k2, hd⟩ := denL_cons hd
      obtain ⟨u3, l3, rfl, k3, hd⟩ := denL_cons hd
      obtain ⟨u4, l4, rfl, k4, hd⟩ := denL_cons hd
      obtain ⟨u5, l5, rfl, k5, hd⟩ := denL_cons hd
      obtain rfl := denL_nil hd
      obtain rfl := five_den q1 k1
      obtain rfl := five_den q2 k2
      obtain rfl := five_den q3 k3
      obtain rfl := five_den q4 k4
      obtain rfl := five_den q5 k5
      exact ⟨_, by simp only [denL, den, L5.avs_den]; rfl, step_any u.p a.p b.p c.p d.p w⟩
    · cases hg
  · cases hg

noncomputable def pt4 : AV → Option (Bool × P4)
  | .agg [x0, x1, x2, x3, x4, y0, y1, y2, y3, y4, z0, z1, z2, z3, z4, t0, t1, t2, t3, t4] => match fiveL [x0, x1, x2, x3, x4], fiveL [y0, y1, y2, y3, y4], fiveL [z0, z1, z2, z3, z4], fiveL [t0, t1, t2, t3, t4] with
    | some x, some y, some z, some t => some (x.s || (y.s || (z.s || t.s)), ⟨x.p, y.p, z.p, t.p⟩)
    | _, _, _, _ => none
  | _ => none
theorem pt4_den {σ : Env} {v : AV} {p : Bool × P4} (h : pt4 v = some p) {u : Value} (hd : den σ v = some u) : u = p.2.val := by
  unfold pt4 at h
  split at h
  · rename_i x0 x1 x2 x3 x4 y0 y1 y2 y3 y4 z0 z1 z2 z3 z4 t0 t1 t2 t3 t4
    split at h
    · rename_i x y z t q1 q2 q3 q4
      obtain rfl := Option.some.inj h
      simp only [den] at hd
      split at hd
      · rename_i us hl
        obtain rfl := Option.some.inj hd
        have get : ∀ {a b : List AV} {us : List Value}, denL σ (a ++ b) = some us → ∃ p q, us = p ++ q ∧ denL σ a = some p ∧ denL σ b = some q := by
          intro a
          induction a with
          | nil => intro b us h; exact ⟨[], us, rfl, rfl, h⟩
          | cons v a ih =>
            intro b us h
            obtain ⟨u, us', rfl, h1, h2⟩ := denL_cons h
            obtain ⟨p, q, rfl, k1, k2⟩ := ih h2
            exact ⟨u :: p, q, rfl, by simp only [denL, h1, k1], k2⟩
        obtain ⟨p1, r1, rfl, m1, hl⟩ := get (a := [x0, x1, x2, x3, x4]) (b := [y0, y1, y2, y3, y4] ++ ([z0, z1, z2, z3, z4] ++ [t0, t1, t2, t3, t4])) hl
        obtain ⟨p2, r2, rfl, m2, hl⟩ := get hl
        obtain ⟨p3, p4, rfl, m3, m4⟩ := get hl
        obtain rfl := fiveL_den q1 m1
        obtain rfl := fiveL_den q2 m2
        obtain rfl := fiveL_den q3 m3
        obtain rfl := fiveL_den q4 m4
        rfl
      · cases hd
    · cases h
  · cases h
noncomputable def gSum : List AV → Option AV
  | [x, y, z] => match pt4 x, pt4 y, fiveOf z with
    | some p, some q, some d => some (.agg ((sumS p.2 q.2 d.p).avs (p.1 || (q.1 || d.s))))
    | _, _, _ => none
  | _ => none
theorem sum_fn : fnOf Tryz.prog 314 = some (ntOf Tryz.prog 314, bodyOf Tryz.prog 314, resultsOf Tryz.prog 314) := by kernel_rfl
theorem sum_good : HkGood Tryz.prog (pureHook 314 gSum) := by
  obtain ⟨fn, h1, _, h3, _⟩ := fnOf_ok sum_fn
  refine fHook_good ⟨fn, _, h1, h3⟩ fun args v σ us w hg hd => ?_
  unfold gSum at hg
  split at hg
  · split at hg
    · rename_i p q d q1 q2 q3
      obtain rfl := Option.some.inj hg
      obtain ⟨u1, l1, rfl, k1, hd⟩ := denL_cons hd
      obtain ⟨u2, l2, rfl, k2, hd⟩ := denL_cons hd
      obtain ⟨u3, l3, rfl, k3, hd⟩ := denL_cons hd
      obtain rfl := denL_nil hd
      obtain rfl := pt4_den q1 k1
      obtain rfl := pt4_den q2 k2
      obtain rfl := five_den q3 k3
      exact ⟨_, P4.avs_den _ _, sum_any p.2 q.2 d.p w⟩
    · cases hg
  · cases hg
end Go.Proofs.YtjfmelmiegnmjaaGreatDoor

/- A field's number out of bytes; a block of the hash: what they reckon. -/
open Go Go.Sx Go.Proofs Go.RowKit
set_option linter.all false
namespace Go.Proofs.YtjfmelmiegnmjaaGreatDoor
set_option maxRecDepth 1000000

theorem lor_lt {k a b : Nat} (ha : a < 2 ^ k) (hb : b < 2 ^ k) : Nat.lor a b < 2 ^ k := Nat.or_lt_two_pow ha hb
def bitG (A : Alg) (f : Nat → Nat) (i : Nat) : Nat := A.shl 18446744073709551616 (A.md (A.and (A.shr (f (Nat.div i 8)) (Nat.mod i 8)) 1) 18446744073709551616) (Nat.mod i 51)
def limbG (A : Alg) (f : Nat → Nat) (k : Nat) : Nat := (List.range 51).foldl (fun acc j => A.or acc (bitG A f (Nat.add (Nat.mul 51 k) j))) 0
def limbR (f : Nat → Nat) (k : Nat) : Nat := limbG nA f k
theorem limbR_lt (f : Nat → Nat) (k : Nat) : limbR f k < um .u64 := by
  have key : ∀ (l : List Nat) (a : Nat), a < 2 ^ 64 → l.foldl (fun acc j => nA.or acc (bitG nA f (Nat.add (Nat.mul 51 k) j))) a < 2 ^ 64 := by
    intro l
    induction l with
    | nil => intro a h; exact h
    | cons x l ih => intro a h; exact ih _ (lor_lt h (Nat.mod_lt _ (by decide)))
  exact key _ 0 (by decide)
def readS (f : Nat → Nat) : L5 := ⟨⟨limbR f 0, limbR_lt f 0⟩, ⟨limbR f 1, limbR_lt f 1⟩, ⟨limbR f 2, limbR_lt f 2⟩, ⟨limbR f 3, limbR_lt f 3⟩, ⟨limbR f 4, limbR_lt f 4⟩⟩

theorem read_run (f : Nat → Nat) (h : ∀ x ∈ (List.range 32).map f, x < 256) (c T : Nat) (E : Nat → Nat) : (xcall Tryz.prog okT hF dhC 1000 20 290 [.slc 200 0 32 (.lit c)] (stT [] E T (snB ((List.range 32).map f) h))).val.bind (nats .u64) = some [limbG oA f 0, limbG oA f 1, limbG oA f 2, limbG oA f 3, limbG oA f 4] := by kernel_rfl

/-! SHA-256's block. -/
def add32 (A : Alg) (a b : Nat) : Nat := A.add 4294967296 a b
def rot32 (A : Alg) (x s : Nat) : Nat := A.or (A.shl 4294967296 x s) (A.shr x (Nat.sub 32 s))
def not32 (A : Alg) (x : Nat) : Nat := A.xor 4294967295 x
structure W8 where
  a : Nat
  b : Nat
  c : Nat
  d : Nat
  e : Nat
  f : Nat
  g : Nat
  h : Nat
def shaX (A : Alg) (v : W8) (k w : Nat) : Nat :=
  add32 A (add32 A (add32 A (add32 A v.h (A.xor (A.xor (rot32 A v.e 26) (rot32 A v.e 21)) (rot32 A v.e 7))) (A.xor (A.and v.e v.f) (A.and (not32 A v.e) v.g))) k) w
def shaR (A : Alg) (v : W8) (k w : Nat) : W8 :=
  ⟨add32 A (add32 A (shaX A v k w) (A.xor (A.xor (rot32 A v.a 30) (rot32 A v.a 19)) (rot32 A v.a 10))) (A.xor (A.xor (A.and v.a v.b) (A.and v.a v.c)) (A.and v.b v.c)), v.a, v.b, v.c, add32 A v.d (shaX A v k w), v.e, v.f, v.g⟩
noncomputable def nthN (l : List Nat) (i : Nat) : Nat := (nthL l i).getD 0
/-- The next word, of the sixteen before it. -/
noncomputable def shaW (A : Alg) (l : List Nat) : Nat :=
  add32 A (add32 A (add32 A (nthN l 0) (A.xor (A.xor (rot32 A (nthN l 1) 25) (rot32 A (nthN l 1) 14)) (A.shr (nthN l 1) 3))) (nthN l 9)) (A.xor (A.xor (rot32 A (nthN l 14) 15) (rot32 A (nthN l 14) 13)) (A.shr (nthN l 14) 10))
def word0 (A : Alg) (f : Nat → Nat) (i : Nat) : Nat :=
  A.or (A.or (A.or (A.shl 4294967296 (A.md (f (Nat.mul 4 i)) 4294967296) 24) (A.shl 4294967296 (A.md (f (Nat.add (Nat.mul 4 i) 1)) 4294967296) 16)) (A.shl 4294967296 (A.md (f (Nat.add (Nat.mul 4 i) 2)) 4294967296) 8)) (A.md (f (Nat.add (Nat.mul 4 i) 3)) 4294967296)
/-- Rounds; the sixteen next words at hand. -/
noncomputable def shaGo (A : Alg) : List Nat → List Nat → W8 → W8
  | [], _, v => v
  | k :: ks, [], v => v
  | k :: ks, w :: l, v => shaGo A ks (l ++ [shaW A (w :: l)]) (shaR A v k w)
def shaK : List Nat := [1116352408, 1899447441, 3049323471, 3921009573, 961987163, 1508970993, 2453635748, 2870763221, 3624381080, 310598401, 607225278, 1426881987, 1925078388, 2162078206, 2614888103, 3248222580, 3835390401, 4022224774, 264347078, 604807628, 770255983, 1249150122, 1555081692, 1996064986, 2554220882, 2821834349, 2952996808, 3210313671, 3336571891, 3584528711, 113926993, 338241895, 666307205, 773529912, 1294757372, 1396182291, 1695183700, 1986661051, 2177026350, 2456956037, 2730485921, 2820302411, 3259730800, 3345764771, 3516065817, 3600352804, 4094571909, 275423344, 430227734, 506948616, 659060556, 883997877, 958139571, 1322822218, 1537002063, 1747873779, 1955562222, 2024104815, 2227730452, 2361852424, 2428436474, 2756734187, 3204031479, 3329325298]
noncomputable def shaB (A : Alg) (h : W8) (f : Nat → Nat) : W8 :=
  let v := shaGo A shaK ((List.range 16).map (word0 A f)) h
  ⟨add32 A h.a v.a, add32 A h.b v.b, add32 A h.c v.c, add32 A h.d v.d, add32 A h.e v.e, add32 A h.f v.f, add32 A h.g v.g, add32 A h.h v.h⟩
def W8.list (v : W8) : List Nat := [v.a, v.b, v.c, v.d, v.e, v.f, v.g, v.h]
def roK : List (Nat × Cont) := [(2, Cont.cells (shaK.map fun z => AV.int .u32 (.ofNat z)))]
theorem block_run (v : W8) (ha : v.a < um .u32) (hb : v.b < um .u32) (hc : v.c < um .u32) (hd : v.d < um .u32) (he : v.e < um .u32) (hf : v.f < um .u32) (hg : v.g < um .u32) (hh : v.h < um .u32) (f : Nat → Nat) (h : ∀ x ∈ (List.range 64).map f, x < 256) (c T : Nat) (E : Nat → Nat) :
    (xcall Tryz.prog okT hF dhC 1000 20 321 [.agg [.sn .u32 v.a ha, .sn .u32 v.b hb, .sn .u32 v.c hc, .sn .u32 v.d hd, .sn .u32 v.e he, .sn .u32 v.f hf, .sn .u32 v.g hg, .sn .u32 v.h hh], .slc 200 0 64 (.lit c)] (stT roK E T (snB ((List.range 64).map f) h))).val.bind (nats .u32) = some (shaB oA v f).list := by kernel_rfl
end Go.Proofs.YtjfmelmiegnmjaaGreatDoor
