/- A field's number as bytes; hooks: read, bytes, the hash's block. -/
import Derived.Test.YtjfmelmiegnmjaaGreatDoorXCa
import Derived.Test.YtjfmelmiegnmjaaGreatDoorXSf
import Derived.Test.YtjfmelmiegnmjaaGreatDoorBase
set_option linter.all false
open Go Go.Sx Go.Proofs Go.RowKit
set_option linter.all false
namespace Go.Proofs.YtjfmelmiegnmjaaGreatDoor
set_option maxRecDepth 1000000

/-! Bytes of a number. -/
def fin5 (A : Alg) (l : List Nat) : List Nat :=
  match l with
  | [a0, a1, a2, a3, a4] =>
    let c0 := A.shr (A.add 18446744073709551616 a0 19) 51
    let c1 := A.shr (A.add 18446744073709551616 a1 c0) 51
    let c2 := A.shr (A.add 18446744073709551616 a2 c1) 51
    let c3 := A.shr (A.add 18446744073709551616 a3 c2) 51
    let c4 := A.shr (A.add 18446744073709551616 a4 c3) 51
    let b0 := A.add 18446744073709551616 a0 (A.mul 18446744073709551616 19 c4)
    let b1 := A.add 18446744073709551616 a1 (A.shr b0 51)
    let b2 := A.add 18446744073709551616 a2 (A.shr b1 51)
    let b3 := A.add 18446744073709551616 a3 (A.shr b2 51)
    let b4 := A.add 18446744073709551616 a4 (A.shr b3 51)
    [A.and b0 2251799813685247, A.and b1 2251799813685247, A.and b2 2251799813685247, A.and b3 2251799813685247, A.and b4 2251799813685247]
  | _ => []
def finG (A : Alg) (x : L5) : List Nat := fin5 A (settle1G A (settle1G A (settleG A x.a0.1 x.a1.1 x.a2.1 x.a3.1 x.a4.1)))
noncomputable def bitB (A : Alg) (l : List Nat) (i : Nat) : Nat := A.shl 256 (A.md (A.and (A.shr (nthN l (Nat.div i 51)) (Nat.mod i 51)) 1) 256) (Nat.mod i 8)
noncomputable def byteB (A : Alg) (l : List Nat) (j n : Nat) : Nat := (List.range n).foldl (fun acc t => A.or acc (bitB A l (Nat.add (Nat.mul 8 j) t))) 0
noncomputable def bytesG (A : Alg) (l : List Nat) : List Nat := (List.range 31).map (fun j => byteB A l j 8) ++ [byteB A l 31 7]
theorem bytes_run (x : L5) (E : Nat → Nat) : rowRes 5 (xcall Tryz.prog okT hF dhC 1000 20 293 [.agg (x.avs true)] (st0 [] E)) = some (bytesG oA (finG oA x)) := by kernel_rfl
theorem bytes_any (x : L5) (W : World) : Calls Tryz.prog 293 #[x.val] W (RowNew W 5 (bytesG nA (finG nA x))) := by
  have h := bytes_run x (fun _ => 0)
  rw [oA_eq] at h
  exact new_calls (E := fun _ => 0) okt callsOK mixed hF_good dhC_good (args := [.agg (x.avs true)]) (us := [x.val]) (fun σ => by simp only [denL, den, L5.avs_den]; rfl) (by kernel_rfl) h

/-- The same, worked out part by part. -/
noncomputable def bytesF (x : L5) : List Nat := match finG nA x with
  | [a0, a1, a2, a3, a4] => wo a0 fun a0 => wo a1 fun a1 => wo a2 fun a2 => wo a3 fun a3 => wo a4 fun a4 => bytesG nA [a0, a1, a2, a3, a4]
  | l => bytesG nA l
theorem bytesF_eq (x : L5) : bytesF x = bytesG nA (finG nA x) := by
  unfold bytesF
  split
  · rename_i h
    simp only [wo_eq, h]
  · rfl
noncomputable def gBytes : List AV → Option (List Nat)
  | [x] => match fiveOf x with
    | some a => some (bytesF a.p)
    | none => none
  | _ => none
theorem bytes_fn : fnOf Tryz.prog 293 = some (ntOf Tryz.prog 293, bodyOf Tryz.prog 293, resultsOf Tryz.prog 293) := by kernel_rfl
theorem bytes_good : HkGood Tryz.prog (nbHook 293 5 gBytes) := by
  obtain ⟨fn, h1, _, h3, _⟩ := fnOf_ok bytes_fn
  refine nbHook_good ⟨fn, _, h1, h3⟩ fun args bs σ us w hg hd => ?_
  unfold gBytes at hg
  split at hg
  · split at hg
    · rename_i a ha
      obtain rfl := Option.some.inj hg
      obtain ⟨u, l1, rfl, hx, hd⟩ := denL_cons hd
      obtain rfl := denL_nil hd
      obtain rfl := five_den ha hx
      rw [bytesF_eq]
      exact bytes_any a.p w
    · cases hg
  · cases hg

/-! Out of bytes. -/
theorem list_fn (bs : List Nat) (n : Nat) (h : bs.length = n) : bs = (List.range n).map (nthN bs) := by
  apply List.ext_getElem
  · simp [h]
  · intro i h1 h2
    rw [List.getElem_map, List.getElem_range]
    unfold nthN
    rw [nthL_eq, List.getElem?_eq_getElem h1]
    rfl
theorem read_any (bs : List Nat) (hl : bs.length = 32) (hb : ∀ x ∈ bs, x < 256) (b o T c : Nat) (W : World) (hr : RowAt W b o T bs) :
    Calls Tryz.prog 290 #[.slice (some ⟨b, o, none⟩) 32 c] W fun e W' => e = .returned (readS (nthN bs)).val ∧ OnlyB W W' (fun _ => False) := by
  have e := list_fn bs 32 hl
  have hb2 : ∀ x ∈ (List.range 32).map (nthN bs), x < 256 := by rw [← e]; exact hb
  have hr2 : RowAt W b o T ((List.range 32).map (nthN bs)) := by rw [← e]; exact hr
  have := rowN_calls (E := fun _ => 0) (ro := []) okt callsOK mixed hF_good dhC_good (args := [.slc 200 0 32 (.lit c)]) (us := [.slice (some ⟨b, o, none⟩) 32 c]) (b := b) (o := o) (T := T) rfl rfl (by kernel_rfl) (W := W) (fun _ _ h => by cases h) hb2 hr2 (read_run (nthN bs) hb2 c T _)
  rw [oA_eq] at this
  exact this
noncomputable def gRead (args : List AV) (bs : List Nat) : Option AV :=
  match args with
  | [_] => bif Nat.beq (lenL bs) 32 then some (.agg ((readS (nthN bs)).avs false)) else none
  | _ => none
theorem read_fn : fnOf Tryz.prog 290 = some (ntOf Tryz.prog 290, bodyOf Tryz.prog 290, resultsOf Tryz.prog 290) := by kernel_rfl
theorem read_good : HkGood Tryz.prog (rdHook 290 0 [] gRead) := by
  obtain ⟨fn, h1, _, h3, _⟩ := fnOf_ok read_fn
  refine rdHook_good rfl rfl ⟨fn, _, h1, h3⟩ fun args v bs σ us w id off len cp l T E hj hg hd hl hlen hb hr ht => ?_
  unfold gRead at hg
  split at hg
  · cases h32 : Nat.beq (lenL bs) 32 with
    | false => rw [h32] at hg; cases hg
    | true =>
      rw [h32] at hg
      obtain rfl := Option.some.inj hg
      have h32 := nbeq h32
      rw [lenL_eq2] at h32
      obtain ⟨u, l1, rfl, hx, hd⟩ := denL_cons hd
      obtain rfl := denL_nil hd
      obtain rfl := Option.some.inj hj
      simp only [den, hl, Option.map_some, Option.some.injEq] at hx
      subst hx
      have e : len = 32 := by omega
      rw [e]
      exact ⟨_, by simp only [den, L5.avs_den]; rfl, read_any bs h32 hb l.blk (l.base + off) T _ w hr⟩
  · cases hg

/-! The hash. -/
noncomputable def shaGoF : List Nat → List Nat → W8 → W8
  | [], _, v => v
  | k :: ks, [], v => v
  | k :: ks, w :: l, v => wo (shaW nA (w :: l)) fun nw => wo (shaX nA v k w) fun x =>
      wo (add32 nA (add32 nA x (nA.xor (nA.xor (rot32 nA v.a 30) (rot32 nA v.a 19)) (rot32 nA v.a 10))) (nA.xor (nA.xor (nA.and v.a v.b) (nA.and v.a v.c)) (nA.and v.b v.c))) fun a => wo (add32 nA v.d x) fun e =>
      shaGoF ks (l ++ [nw]) ⟨a, v.a, v.b, v.c, e, v.e, v.f, v.g⟩
theorem shaGoF_eq : ∀ (ks l : List Nat) (v : W8), shaGoF ks l v = shaGo nA ks l v
  | [], _, v => rfl
  | k :: ks, [], v => rfl
  | k :: ks, w :: l, v => by
    unfold shaGoF shaGo
    simp only [wo_eq]
    rw [shaGoF_eq]
    rfl
noncomputable def shaF (h : W8) (f : Nat → Nat) : List Nat :=
  let v := shaGoF shaK ((List.range 16).map (word0 nA f)) h
  [add32 nA h.a v.a, add32 nA h.b v.b, add32 nA h.c v.c, add32 nA h.d v.d, add32 nA h.e v.e, add32 nA h.f v.f, add32 nA h.g v.g, add32 nA h.h v.h]
theorem shaF_eq (h : W8) (f : Nat → Nat) : shaF h f = (shaB nA h f).list := by
  unfold shaF shaB
  rw [shaGoF_eq]
  generalize shaGo nA shaK (List.map (word0 nA f) (List.range 16)) h = v
  rfl
theorem block_any (v : W8) (ha : v.a < um .u32) (hb : v.b < um .u32) (hc : v.c < um .u32) (hd : v.d < um .u32) (he : v.e < um .u32) (hf : v.f < um .u32) (hg : v.g < um .u32) (hh : v.h < um .u32) (bs : List Nat) (hl : bs.length = 64) (hbs : ∀ x ∈ bs, x < 256) (b o T c : Nat) (E : Nat → Nat) (W : World) (hr : RowAt W b o T bs) (ht : TabsAt Tryz.prog roK W b E) :
    Calls Tryz.prog 321 #[.agg (v.list.map fun (n : Nat) => Value.int .u32 n).toArray, .slice (some ⟨b, o, none⟩) 64 c] W fun e W' => e = .returned (.agg ((shaF v (nthN bs)).map fun (n : Nat) => Value.int .u32 n).toArray) ∧ OnlyB W W' (fun _ => False) := by
  have e := list_fn bs 64 hl
  have hb2 : ∀ x ∈ (List.range 64).map (nthN bs), x < 256 := by rw [← e]; exact hbs
  have hr2 : RowAt W b o T ((List.range 64).map (nthN bs)) := by rw [← e]; exact hr
  have hrun := block_run v ha hb hc hd he hf hg hh (nthN bs) hb2 c T E
  rw [oA_eq, ← shaF_eq v (nthN bs)] at hrun
  generalize shaF v (nthN bs) = r at hrun ⊢
  exact rowN_calls (E := E) (ro := roK) okt callsOK mixed hF_good dhC_good (args := [.agg [.sn .u32 v.a ha, .sn .u32 v.b hb, .sn .u32 v.c hc, .sn .u32 v.d hd, .sn .u32 v.e he, .sn .u32 v.f hf, .sn .u32 v.g hg, .sn .u32 v.h hh], .slc 200 0 64 (.lit c)])
    (us := [.agg (v.list.map fun (n : Nat) => Value.int .u32 n).toArray, .slice (some ⟨b, o, none⟩) 64 c]) (b := b) (o := o) (T := T) rfl (by kernel_rfl) (by kernel_rfl) (W := W) ht hb2 hr2 hrun
noncomputable def back32 : List Nat → List AV
  | [] => []
  | n :: l => forceI .u32 (.ofNat n) :: back32 l
theorem back32_den {σ : Env} : ∀ (l : List Nat), denL σ (back32 l) = some (l.map fun (n : Nat) => Value.int .u32 n)
  | [] => rfl
  | n :: l => by
    simp only [back32, denL, forceI_eq, den, back32_den l, List.map_cons]
    rfl
noncomputable def gBlockG (F : W8 → (Nat → Nat) → List Nat) (args : List AV) (bs : List Nat) : Option AV :=
  match args with
  | [.agg [a, b, c, d, e, f, g, h], _] => match symN .u32 a, symN .u32 b, symN .u32 c, symN .u32 d, symN .u32 e, symN .u32 f, symN .u32 g, symN .u32 h with
    | some a, some b, some c, some d, some e, some f, some g, some h => bif Nat.beq (lenL bs) 64 then some (.agg (back32 (F ⟨a.1, b.1, c.1, d.1, e.1, f.1, g.1, h.1⟩ (nthN bs)))) else none
    | _, _, _, _, _, _, _, _ => none
  | _ => none
theorem block_fn : fnOf Tryz.prog 321 = some (ntOf Tryz.prog 321, bodyOf Tryz.prog 321, resultsOf Tryz.prog 321) := by kernel_rfl
theorem blockG_good (F : W8 → (Nat → Nat) → List Nat) (hF : ∀ (v : W8) (ha : v.a < um .u32) (hb : v.b < um .u32) (hc : v.c < um .u32) (hd : v.d < um .u32) (he : v.e < um .u32) (hf : v.f < um .u32) (hg : v.g < um .u32) (hh : v.h < um .u32) (bs : List Nat) (hl : bs.length = 64) (hbs : ∀ x ∈ bs, x < 256) (b o T c : Nat) (E : Nat → Nat) (W : World) (hr : RowAt W b o T bs) (ht : TabsAt Tryz.prog roK W b E),
    Calls Tryz.prog 321 #[.agg (v.list.map fun (n : Nat) => Value.int .u32 n).toArray, .slice (some ⟨b, o, none⟩) 64 c] W fun e W' => e = .returned (.agg ((F v (nthN bs)).map fun (n : Nat) => Value.int .u32 n).toArray) ∧ OnlyB W W' (fun _ => False)) : HkGood Tryz.prog (rdHook 321 1 roK (gBlockG F)) := by
  obtain ⟨fn, h1, _, h3, _⟩ := fnOf_ok block_fn
  refine rdHook_good (by kernel_rfl) (by kernel_rfl) ⟨fn, _, h1, h3⟩ fun args v bs σ us w id off len cp l T E hj hg hd hl hlen hb hr ht => ?_
  unfold gBlockG at hg
  split at hg
  · rename_i x0 x1 x2 x3 x4 x5 x6 x7 y
    split at hg
    · rename_i a0 a1 a2 a3 a4 a5 a6 a7 q0 q1 q2 q3 q4 q5 q6 q7
      cases h64 : Nat.beq (lenL bs) 64 with
      | false => rw [h64] at hg; cases hg
      | true =>
        rw [h64] at hg
        obtain rfl := Option.some.inj hg
        have h64 := nbeq h64
        rw [lenL_eq2] at h64
        obtain ⟨u, l1, rfl, hx, hd⟩ := denL_cons hd
        obtain ⟨u', l2, rfl, hy, hd⟩ := denL_cons hd
        obtain rfl := denL_nil hd
        obtain rfl := Option.some.inj hj
        simp only [den] at hx
        split at hx
        · rename_i us hus
          obtain rfl := Option.some.inj hx
          obtain ⟨z0, l0, rfl, k0, hus⟩ := denL_cons hus
          obtain ⟨z1, l1, rfl, k1, hus⟩ := denL_cons hus
          obtain ⟨z2, l2, rfl, k2, hus⟩ := denL_cons hus
          obtain ⟨z3, l3, rfl, k3, hus⟩ := denL_cons hus
          obtain ⟨z4, l4, rfl, k4, hus⟩ := denL_cons hus
          obtain ⟨z5, l5, rfl, k5, hus⟩ := denL_cons hus
          obtain ⟨z6, l6, rfl, k6, hus⟩ := denL_cons hus
          obtain ⟨z7, l7, rfl, k7, hus⟩ := denL_cons hus
          obtain rfl := denL_nil hus
          obtain rfl := symN_ok q0 k0
          obtain rfl := symN_ok q1 k1
          obtain rfl := symN_ok q2 k2
          obtain rfl := symN_ok q3 k3
          obtain rfl := symN_ok q4 k4
          obtain rfl := symN_ok q5 k5
          obtain rfl := symN_ok q6 k6
          obtain rfl := symN_ok q7 k7
          simp only [den, hl, Option.map_some, Option.some.injEq] at hy
          subst hy
          have e : len = 64 := by omega
          rw [e]
          exact ⟨_, by simp only [den, back32_den], hF ⟨a0.1, a1.1, a2.1, a3.1, a4.1, a5.1, a6.1, a7.1⟩ a0.2 a1.2 a2.2 a3.2 a4.2 a5.2 a6.2 a7.2 bs h64 hb l.blk (l.base + off) T _ E w hr ht⟩
        · cases hx
    · cases hg
  · cases hg
noncomputable def gBlock : List AV → List Nat → Option AV := gBlockG shaF
theorem block_good : HkGood Tryz.prog (rdHook 321 1 roK gBlock) := blockG_good shaF block_any
/-- The crypto's hooks. -/
noncomputable def hC1 : Hk := hor hF (hor (pureHook 292 gStep) (hor (pureHook 314 gSum) (hor (rdHook 290 0 [] gRead) (hor (nbHook 293 5 gBytes) (rdHook 321 1 roK gBlock)))))
theorem hC1_good : HkGood Tryz.prog hC1 := HkGood.or hF_good (HkGood.or step_good (HkGood.or sum_good (HkGood.or read_good (HkGood.or bytes_good block_good))))
end Go.Proofs.YtjfmelmiegnmjaaGreatDoor

/- Powers by numbers that are known; the numbers themselves. -/
open Go Go.Sx Go.Proofs Go.RowKit
set_option linter.all false
namespace Go.Proofs.YtjfmelmiegnmjaaGreatDoor
set_option maxRecDepth 1000000

def bitAt (n i : Nat) : Bool := Nat.beq (Nat.mod (Nat.div n (Nat.pow 2 i)) 2) 1
def powStep (a : L5) (o : L5) (b : Bool) : L5 := match b with
  | true => mulS (sqS o) a
  | false => sqS o
def powS (n : Nat) (a : L5) : L5 := (List.range 256).foldl (fun o i => powStep a o (bitAt n (Nat.sub 255 i))) (num5 1 (by decide))
def e1 : Nat := 57896044618658097711785492504343953926634992332820282019728792003956564819947
def e2 : Nat := 7237005577332262213973186563042994240829374041602535252466099000494570602494
def e3 : Nat := 14474011154664524427946373126085988481658748083205070504932198000989141204987
def expA (n : Nat) : AV := .agg ((List.range 32).map fun j => .int .u8 (.ofNat (Nat.mod (Nat.div n (Nat.pow 256 j)) 256)))
theorem pow1_run (a : L5) (E : Nat → Nat) : (xcall Tryz.prog okT hC1 dhC 1000 20 329 [.agg (a.avs true), expA e1] (st0 [] E)).val = some (.agg ((powS e1 a).avs true)) := by kernel_rfl
theorem pow2_run (a : L5) (E : Nat → Nat) : (xcall Tryz.prog okT hC1 dhC 1000 20 329 [.agg (a.avs true), expA e2] (st0 [] E)).val = some (.agg ((powS e2 a).avs true)) := by kernel_rfl
theorem pow3_run (a : L5) (E : Nat → Nat) : (xcall Tryz.prog okT hC1 dhC 1000 20 329 [.agg (a.avs true), expA e3] (st0 [] E)).val = some (.agg ((powS e3 a).avs true)) := by kernel_rfl

/-! The same, worked out step by step. -/
structure R5 where
  a0 : Nat
  a1 : Nat
  a2 : Nat
  a3 : Nat
  a4 : Nat
def L5.raw (x : L5) : R5 := ⟨x.a0.1, x.a1.1, x.a2.1, x.a3.1, x.a4.1⟩
def carryR (s0 s1 s2 s3 s4 : Nat) : R5 :=
  let q1 := Nat.add s1 (high1 s0)
  let q2 := Nat.add s2 (high1 q1)
  let q3 := Nat.add s3 (high1 q2)
  let q4 := Nat.add s4 (high1 q3)
  let o0 := plusW (low1 s0) (t19 (high1 q4))
  ⟨Nat.land o0 2251799813685247, plusW (low1 q1) (Nat.div o0 2251799813685248), low1 q2, low1 q3, low1 q4⟩
def mulR (a b : R5) : R5 := carryR (Nat.add (Nat.add (Nat.add (Nat.add (Nat.mul a.a0 b.a0) (Nat.mul (t19 a.a1) b.a4)) (Nat.mul (t19 a.a2) b.a3)) (Nat.mul (t19 a.a3) b.a2)) (Nat.mul (t19 a.a4) b.a1)) (Nat.add (Nat.add (Nat.add (Nat.add (Nat.mul a.a0 b.a1) (Nat.mul a.a1 b.a0)) (Nat.mul (t19 a.a2) b.a4)) (Nat.mul (t19 a.a3) b.a3)) (Nat.mul (t19 a.a4) b.a2)) (Nat.add (Nat.add (Nat.add (Nat.add (Nat.mul a.a0 b.a2) (Nat.mul a.a1 b.a1)) (Nat.mul a.a2 b.a0)) (Nat.mul (t19 a.a3) b.a4)) (Nat.mul (t19 a.a4) b.a3)) (Nat.add (Nat.add (Nat.add (Nat.add (Nat.mul a.a0 b.a3) (Nat.mul a.a1 b.a2)) (Nat.mul a.a2 b.a1)) (Nat.mul a.a3 b.a0)) (Nat.mul (t19 a.a4) b.a4)) (Nat.add (Nat.add (Nat.add (Nat.add (Nat.mul a.a0 b.a4) (Nat.mul a.a1 b.a3)) (Nat.mul a.a2 b.a2)) (Nat.mul a.a3 b.a1)) (Nat.mul a.a4 b.a0))
theorem mulR_eq (a b : L5) : (mulS a b).raw = mulR a.raw b.raw := rfl
noncomputable def woR {α : Type} (x : R5) (k : R5 → α) : α := wo x.a0 fun a0 => wo x.a1 fun a1 => wo x.a2 fun a2 => wo x.a3 fun a3 => wo x.a4 fun a4 => k ⟨a0, a1, a2, a3, a4⟩
theorem woR_eq {α : Type} (x : R5) (k : R5 → α) : woR x k = k x := by simp only [woR, wo_eq]
noncomputable def powGo (n : Nat) (a : R5) : List Nat → R5 → R5
  | [], o => o
  | i :: l, o => woR (mulR o o) fun q => match bitAt n (Nat.sub 255 i) with
    | true => woR (mulR q a) fun r => powGo n a l r
    | false => powGo n a l q
theorem powGo_eq (n : Nat) (a : L5) : ∀ (l : List Nat) (o : L5), powGo n a.raw l o.raw = (l.foldl (fun o i => powStep a o (bitAt n (Nat.sub 255 i))) o).raw
  | [], o => rfl
  | i :: l, o => by
    rw [List.foldl_cons, ← powGo_eq n a l]
    show (woR (mulR o.raw o.raw) fun q => match bitAt n (Nat.sub 255 i) with
      | true => woR (mulR q a.raw) fun r => powGo n a.raw l r
      | false => powGo n a.raw l q) = _
    simp only [woR_eq]
    unfold powStep
    cases bitAt n (Nat.sub 255 i)
    · rfl
    · rfl
noncomputable def powF (n : Nat) (a : R5) : R5 := powGo n a (List.range 256) ⟨1, 0, 0, 0, 0⟩
theorem powF_eq (n : Nat) (a : L5) : powF n a.raw = (powS n a).raw := powGo_eq n a (List.range 256) (num5 1 (by decide))
noncomputable def R5.avs (x : R5) : List AV := [forceI .u64 (.ofNat x.a0), forceI .u64 (.ofNat x.a1), forceI .u64 (.ofNat x.a2), forceI .u64 (.ofNat x.a3), forceI .u64 (.ofNat x.a4)]
def R5.val (x : R5) : Value := .agg #[.int .u64 x.a0, .int .u64 x.a1, .int .u64 x.a2, .int .u64 x.a3, .int .u64 x.a4]
theorem R5.avs_den {σ : Env} (x : R5) : den σ (.agg x.avs) = some x.val := by
  simp only [den, R5.avs, denL, forceI_eq]
  rfl

def whichE (e : AV) : Option Nat := bif AV.beq e (expA e1) then some e1 else bif AV.beq e (expA e2) then some e2 else bif AV.beq e (expA e3) then some e3 else none
noncomputable def gPow : List AV → Option AV
  | [x, e] => match fiveOf x, whichE e with
    | some a, some n => (match a.s with
      | true => some (.agg ((powS n a.p).avs true))
      | false => some (.agg (powF n a.p.raw).avs))
    | _, _ => none
  | _ => none
def expV (n : Nat) : Value := .agg ((List.range 32).map fun j => Value.int .u8 (.ofNat (Nat.mod (Nat.div n (Nat.pow 256 j)) 256))).toArray
theorem pow_any (n : Nat) (hn : n = e1 ∨ n = e2 ∨ n = e3) (a : L5) (W : World) : Calls Tryz.prog 329 #[a.val, expV n] W fun e W' => e = .returned (powS n a).val ∧ OnlyB W W' (fun _ => False) := by
  have key : ∀ (n : Nat), (∀ σ, den σ (expA n) = some (expV n)) → (xcall Tryz.prog okT hC1 dhC 1000 20 329 [.agg (a.avs true), expA n] (st0 [] (fun _ => 0))).val = some (.agg ((powS n a).avs true)) → Calls Tryz.prog 329 #[a.val, expV n] W fun e W' => e = .returned (powS n a).val ∧ OnlyB W W' (fun _ => False) := fun n hd h =>
    sym_calls (E := fun _ => 0) (ro := []) okt callsOK mixed hC1_good dhC_good (args := [.agg (a.avs true), expA n]) (us := [a.val, expV n]) (fun σ => by
      have h1 : den σ (.agg (a.avs true)) = some a.val := by simp only [den, L5.avs_den]; rfl
      simp only [denL, h1, hd]) (by kernel_rfl) (by kernel_rfl) (fun _ _ h => by cases h) h (fun σ => by simp only [den, L5.avs_den]; rfl)
  rcases hn with rfl | rfl | rfl
  · exact key _ (fun σ => by kernel_rfl) (pow1_run a _)
  · exact key _ (fun σ => by kernel_rfl) (pow2_run a _)
  · exact key _ (fun σ => by kernel_rfl) (pow3_run a _)
theorem whichE_ok {e : AV} {n : Nat} (h : whichE e = some n) : (n = e1 ∨ n = e2 ∨ n = e3) ∧ e = expA n := by
  unfold whichE at h
  cases h1 : AV.beq e (expA e1) with
  | true =>
    rw [h1] at h
    obtain rfl := Option.some.inj h
    exact ⟨Or.inl rfl, AV.beq_eq _ _ h1⟩
  | false =>
    rw [h1] at h
    cases h2 : AV.beq e (expA e2) with
    | true =>
      rw [h2] at h
      obtain rfl := Option.some.inj h
      exact ⟨Or.inr (Or.inl rfl), AV.beq_eq _ _ h2⟩
    | false =>
      rw [h2] at h
      cases h3 : AV.beq e (expA e3) with
      | true =>
        rw [h3] at h
        obtain rfl := Option.some.inj h
        exact ⟨Or.inr (Or.inr rfl), AV.beq_eq _ _ h3⟩
      | false => rw [h3] at h; cases h
theorem expA_den {σ : Env} (n : Nat) : den σ (expA n) = some (expV n) := by
  unfold expA expV
  simp only [den]
  have : ∀ l : List Nat, denL σ (l.map fun j => AV.int .u8 (.ofNat (Nat.mod (Nat.div n (Nat.pow 256 j)) 256))) = some (l.map fun j => Value.int .u8 (.ofNat (Nat.mod (Nat.div n (Nat.pow 256 j)) 256))) := by
    intro l
    induction l with
    | nil => rfl
    | cons x l ih => simp only [List.map_cons, denL, den, ih]
  rw [this]
theorem pow_fn : fnOf Tryz.prog 329 = some (ntOf Tryz.prog 329, bodyOf Tryz.prog 329, resultsOf Tryz.prog 329) := by kernel_rfl
theorem powG_good (S : Nat → L5 → L5) (F : Nat → R5 → R5) (hSF : ∀ n a, F n a.raw = (S n a).raw) (h : ∀ (n : Nat), (n = e1 ∨ n = e2 ∨ n = e3) → ∀ (a : L5) (W : World), Calls Tryz.prog 329 #[a.val, expV n] W fun e W' => e = .returned (S n a).val ∧ OnlyB W W' (fun _ => False)) {args : List AV} {v : AV} {x e : AV} {a : Five} {n : Nat} (ha : fiveOf x = some a) (he : whichE e = some n)
    (hv : v = (match a.s with | true => AV.agg ((S n a.p).avs true) | false => AV.agg (F n a.p.raw).avs)) {σ : Env} {us : List Value} {w : World} (hd : denL σ [x, e] = some us) : ∃ u, den σ v = some u ∧ Calls Tryz.prog 329 us.toArray w fun e w' => e = .returned u ∧ OnlyB w w' (fun _ => False) := by
  obtain ⟨hn, rfl⟩ := whichE_ok he
  obtain ⟨u, l1, rfl, hx, hd⟩ := denL_cons hd
  obtain ⟨u', l2, rfl, hy, hd⟩ := denL_cons hd
  obtain rfl := denL_nil hd
  obtain rfl := five_den ha hx
  rw [expA_den] at hy
  obtain rfl := Option.some.inj hy
  refine ⟨(S n a.p).val, ?_, h n hn a.p w⟩
  subst hv
  cases a.s
  · rw [R5.avs_den, hSF]
    rfl
  · simp only [den, L5.avs_den]
    rfl
theorem pow_good : HkGood Tryz.prog (pureHook 329 gPow) := by
  obtain ⟨fn, h1, _, h3, _⟩ := fnOf_ok pow_fn
  refine fHook_good ⟨fn, _, h1, h3⟩ fun args v σ us w hg hd => ?_
  unfold gPow at hg
  split at hg
  · rename_i x e
    split at hg
    · rename_i a n ha he
      refine powG_good powS powF powF_eq pow_any (args := [x, e]) ha he ?_ hd
      split at hg
      · exact (Option.some.inj hg).symm
      · exact (Option.some.inj hg).symm
    · cases hg
  · cases hg

/-! Numbers that are always the same. -/
def bytes32 (n : Nat) : AV := expA n
noncomputable def gNear : List AV → Option AV
  | [.int .i64 (.ofNat a), .int .u16 (.ofNat b)] => bif Nat.beq a 255 && Nat.beq b 21 then some (expA e1) else bif Nat.beq a 252 && Nat.beq b 2 then some (expA e2) else bif Nat.beq a 253 && Nat.beq b 5 then some (expA e3) else none
  | _ => none
theorem near1_run (E : Nat → Nat) : AV.beq (((xcall Tryz.prog okT hC1 dhC 1000 20 330 [.int .i64 (.ofNat 255), .int .u16 (.ofNat 21)] (st0 [] E)).val).getD .nilp) (expA e1) = true := by kernel_rfl
theorem near2_run (E : Nat → Nat) : AV.beq (((xcall Tryz.prog okT hC1 dhC 1000 20 330 [.int .i64 (.ofNat 252), .int .u16 (.ofNat 2)] (st0 [] E)).val).getD .nilp) (expA e2) = true := by kernel_rfl
theorem near3_run (E : Nat → Nat) : AV.beq (((xcall Tryz.prog okT hC1 dhC 1000 20 330 [.int .i64 (.ofNat 253), .int .u16 (.ofNat 5)] (st0 [] E)).val).getD .nilp) (expA e3) = true := by kernel_rfl
theorem val_of {x : Option AV} {v : AV} (h : AV.beq (x.getD .nilp) v = true) (hv : v ≠ .nilp) : x = some v := by
  have := AV.beq_eq _ _ h
  cases x with
  | none => exact absurd this.symm hv
  | some y => exact congrArg some this
theorem near_any (a b n : Nat) (h : (a = 255 ∧ b = 21 ∧ n = e1) ∨ (a = 252 ∧ b = 2 ∧ n = e2) ∨ (a = 253 ∧ b = 5 ∧ n = e3)) (W : World) : Calls Tryz.prog 330 #[.int .i64 (.ofNat a), .int .u16 (.ofNat b)] W fun e W' => e = .returned (expV n) ∧ OnlyB W W' (fun _ => False) := by
  have key : ∀ (a b n : Nat), (xcall Tryz.prog okT hC1 dhC 1000 20 330 [.int .i64 (.ofNat a), .int .u16 (.ofNat b)] (st0 [] (fun _ => 0))).val = some (expA n) → Calls Tryz.prog 330 #[.int .i64 (.ofNat a), .int .u16 (.ofNat b)] W fun e W' => e = .returned (expV n) ∧ OnlyB W W' (fun _ => False) := fun a b n h =>
    sym_calls (E := fun _ => 0) (ro := []) okt callsOK mixed hC1_good dhC_good (args := [.int .i64 (.ofNat a), .int .u16 (.ofNat b)]) (us := [.int .i64 (.ofNat a), .int .u16 (.ofNat b)]) (fun σ => rfl) (by kernel_rfl) (by kernel_rfl) (fun _ _ h => by cases h) h (fun σ => expA_den n)
  rcases h with ⟨rfl, rfl, rfl⟩ | ⟨rfl, rfl, rfl⟩ | ⟨rfl, rfl, rfl⟩
  · exact key _ _ _ (val_of (near1_run _) (by unfold expA; exact fun h => by cases h))
  · exact key _ _ _ (val_of (near2_run _) (by unfold expA; exact fun h => by cases h))
  · exact key _ _ _ (val_of (near3_run _) (by unfold expA; exact fun h => by cases h))
theorem near_fn : fnOf Tryz.prog 330 = some (ntOf Tryz.prog 330, bodyOf Tryz.prog 330, resultsOf Tryz.prog 330) := by kernel_rfl
theorem near_good : HkGood Tryz.prog (pureHook 330 gNear) := by
  obtain ⟨fn, h1, _, h3, _⟩ := fnOf_ok near_fn
  refine fHook_good ⟨fn, _, h1, h3⟩ fun args v σ us w hg hd => ?_
  unfold gNear at hg
  split at hg
  · rename_i a b
    obtain ⟨u, l1, rfl, hx, hd⟩ := denL_cons hd
    obtain ⟨u', l2, rfl, hy, hd⟩ := denL_cons hd
    obtain rfl := denL_nil hd
    obtain rfl := Option.some.inj hx
    obtain rfl := Option.some.inj hy
    have fin : ∀ n, v = expA n → ((a = 255 ∧ b = 21 ∧ n = e1) ∨ (a = 252 ∧ b = 2 ∧ n = e2) ∨ (a = 253 ∧ b = 5 ∧ n = e3)) → ∃ u, den σ v = some u ∧ Calls Tryz.prog 330 #[.int .i64 (.ofNat a), .int .u16 (.ofNat b)] w fun e w' => e = .returned u ∧ OnlyB w w' (fun _ => False) := fun n hv h => by
      subst hv
      exact ⟨_, expA_den n, near_any a b n h w⟩
    cases c1 : (Nat.beq a 255 && Nat.beq b 21) with
    | true =>
      rw [c1] at hg
      have := and3 c1
      exact fin e1 (Option.some.inj hg).symm (Or.inl ⟨nbeq this.1, nbeq this.2, rfl⟩)
    | false =>
      rw [c1] at hg
      cases c2 : (Nat.beq a 252 && Nat.beq b 2) with
      | true =>
        rw [c2] at hg
        have := and3 c2
        exact fin e2 (Option.some.inj hg).symm (Or.inr (Or.inl ⟨nbeq this.1, nbeq this.2, rfl⟩))
      | false =>
        rw [c2] at hg
        cases c3 : (Nat.beq a 253 && Nat.beq b 5) with
        | true =>
          rw [c3] at hg
          have := and3 c3
          exact fin e3 (Option.some.inj hg).symm (Or.inr (Or.inr ⟨nbeq this.1, nbeq this.2, rfl⟩))
        | false => rw [c3] at hg; cases hg
  · cases hg
noncomputable def hC2 : Hk := hor hC1 (hor (pureHook 329 gPow) (pureHook 330 gNear))
theorem hC2_good : HkGood Tryz.prog hC2 := HkGood.or hC1_good (HkGood.or pow_good near_good)
end Go.Proofs.YtjfmelmiegnmjaaGreatDoor

/- Numbers below the order: less. -/
open Go Go.Sx Go.Proofs Go.RowKit
set_option linter.all false
namespace Go.Proofs.YtjfmelmiegnmjaaGreatDoor
set_option maxRecDepth 100000

theorem only_drewN (w : World) (n : Nat) : Pw.Only w (w.drewN n) [] := ⟨rfl, rfl, rfl, Nat.le_refl _, fun _ _ _ => rfl⟩
def ltL : List Nat → List Nat → Bool
  | a :: xs, b :: ys => if a = b then ltL xs ys else decide (a < b)
  | _, _ => false
theorem ltL_eq {a b : Nat} {xs ys : List Nat} (h : a = b) : ltL (a :: xs) (b :: ys) = ltL xs ys := by show (if a = b then ltL xs ys else decide (a < b)) = _; rw [if_pos h]
theorem ltL_ne {a b : Nat} {xs ys : List Nat} (h : ¬ a = b) : ltL (a :: xs) (b :: ys) = decide (a < b) := by show (if a = b then ltL xs ys else decide (a < b)) = _; rw [if_neg h]

set_option maxHeartbeats 3200000 in
theorem less_any (a0 a1 a2 a3 a4 a5 a6 a7 b0 b1 b2 b3 b4 b5 b6 b7 : Nat) (w : World) :
    Calls Tryz.prog 317 #[.agg #[.int .u32 a0, .int .u32 a1, .int .u32 a2, .int .u32 a3, .int .u32 a4, .int .u32 a5, .int .u32 a6, .int .u32 a7], .agg #[.int .u32 b0, .int .u32 b1, .int .u32 b2, .int .u32 b3, .int .u32 b4, .int .u32 b5, .int .u32 b6, .int .u32 b7]] w
      fun e w' => e = .returned (.bool (ltL [a7, a6, a5, a4, a3, a2, a1, a0] [b7, b6, b5, b4, b3, b2, b1, b0])) ∧ Pw.Only w w' [] := by
  obtain ⟨R, hR⟩ : ∃ R, R = ltL [a7, a6, a5, a4, a3, a2, a1, a0] [b7, b6, b5, b4, b3, b2, b1, b0] := ⟨_, rfl⟩
  rw [← hR]
  have HR := Lib.hid hR
  clear hR
  go_enter Tryz.func317, Tryz.ntmps317
  go_wp2_with fail
  obtain ⟨W1, X, hW, hX, hb0, hoW1, hX1, hX2⟩ := Pw.new_block w (.cells #[.int .u32 a0, .int .u32 a1, .int .u32 a2, .int .u32 a3, .int .u32 a4, .int .u32 a5, .int .u32 a6, .int .u32 a7] 395)
  have hs1 : W1.heap.size = X + 1 := by rw [hW, hX]; simp
  rw [← hW, ← hX]
  clear hW hX
  obtain ⟨W, Y, hW, hY, hc0, hoW2, hY1, hY2⟩ := Pw.new_block W1 (.cells #[.int .u32 b0, .int .u32 b1, .int .u32 b2, .int .u32 b3, .int .u32 b4, .int .u32 b5, .int .u32 b6, .int .u32 b7] 395)
  rw [← hW, ← hs1, ← hY]
  clear hW hY hs1
  have hb := hoW2.at hb0 (by simp)
  have hoW := hoW1.trans hoW2
  clear hb0 hoW1 hoW2 hX1 hX2 hY1 hY2
  have ca0 : ∀ w', Pw.Only W w' [] → w'.cell? ⟨X, 0, none⟩ = some (.int .u32 a0) := fun w' ho => ho.cell_in hb (by simp) 0
  have cb0 : ∀ w', Pw.Only W w' [] → w'.cell? ⟨Y, 0, none⟩ = some (.int .u32 b0) := fun w' ho => ho.cell_in hc0 (by simp) 0
  have ca1 : ∀ w', Pw.Only W w' [] → w'.cell? ⟨X, 1, none⟩ = some (.int .u32 a1) := fun w' ho => ho.cell_in hb (by simp) 1
  have cb1 : ∀ w', Pw.Only W w' [] → w'.cell? ⟨Y, 1, none⟩ = some (.int .u32 b1) := fun w' ho => ho.cell_in hc0 (by simp) 1
  have ca2 : ∀ w', Pw.Only W w' [] → w'.cell? ⟨X, 2, none⟩ = some (.int .u32 a2) := fun w' ho => ho.cell_in hb (by simp) 2
  have cb2 : ∀ w', Pw.Only W w' [] → w'.cell? ⟨Y, 2, none⟩ = some (.int .u32 b2) := fun w' ho => ho.cell_in hc0 (by simp) 2
  have ca3 : ∀ w', Pw.Only W w' [] → w'.cell? ⟨X, 3, none⟩ = some (.int .u32 a3) := fun w' ho => ho.cell_in hb (by simp) 3
  have cb3 : ∀ w', Pw.Only W w' [] → w'.cell? ⟨Y, 3, none⟩ = some (.int .u32 b3) := fun w' ho => ho.cell_in hc0 (by simp) 3
  have ca4 : ∀ w', Pw.Only W w' [] → w'.cell? ⟨X, 4, none⟩ = some (.int .u32 a4) := fun w' ho => ho.cell_in hb (by simp) 4
  have cb4 : ∀ w', Pw.Only W w' [] → w'.cell? ⟨Y, 4, none⟩ = some (.int .u32 b4) := fun w' ho => ho.cell_in hc0 (by simp) 4
  have ca5 : ∀ w', Pw.Only W w' [] → w'.cell? ⟨X, 5, none⟩ = some (.int .u32 a5) := fun w' ho => ho.cell_in hb (by simp) 5
  have cb5 : ∀ w', Pw.Only W w' [] → w'.cell? ⟨Y, 5, none⟩ = some (.int .u32 b5) := fun w' ho => ho.cell_in hc0 (by simp) 5
  have ca6 : ∀ w', Pw.Only W w' [] → w'.cell? ⟨X, 6, none⟩ = some (.int .u32 a6) := fun w' ho => ho.cell_in hb (by simp) 6
  have cb6 : ∀ w', Pw.Only W w' [] → w'.cell? ⟨Y, 6, none⟩ = some (.int .u32 b6) := fun w' ho => ho.cell_in hc0 (by simp) 6
  have ca7 : ∀ w', Pw.Only W w' [] → w'.cell? ⟨X, 7, none⟩ = some (.int .u32 a7) := fun w' ho => ho.cell_in hb (by simp) 7
  have cb7 : ∀ w', Pw.Only W w' [] → w'.cell? ⟨Y, 7, none⟩ = some (.int .u32 b7) := fun w' ho => ho.cell_in hc0 (by simp) 7
  clear hb hc0
  go_loopw [5] (fun i wr => ∃ j : Nat, i = .int .i64 ((j : Int) - 1) ∧ j ≤ 8 ∧ Pw.Only W wr [] ∧ R = ltL ([a7, a6, a5, a4, a3, a2, a1, a0].drop (8 - j)) ([b7, b6, b5, b4, b3, b2, b1, b0].drop (8 - j))) (fun i _ => (intOf i + 1).toNat)
  case atStart => exact ⟨8, rfl, by omega, Pw.Only.refl _ _, HR.out⟩
  case round =>
    obtain ⟨j, rfl, hj, ho, hr⟩ := hrel
    have hjj : j = 0 ∨ j = 1 ∨ j = 2 ∨ j = 3 ∨ j = 4 ∨ j = 5 ∨ j = 6 ∨ j = 7 ∨ j = 8 := by omega
    clear hj HR
    have hr := Lib.hid hr
    rcases hjj with rfl | rfl | rfl | rfl | rfl | rfl | rfl | rfl | rfl
    · rw [show ((0 : Nat) : Int) - 1 = -1 from rfl]
      go_wp2
      go_ret
      refine ⟨?_, hoW.trans ho⟩
      rw [hr.out]
      rfl
    · rw [show ((1 : Nat) : Int) - 1 = 0 from rfl]
      have xa := ca0 _ ho
      have xb := cb0 _ ho
      have xa2 := ca0 _ (ho.trans (Pw.Only.drew _ []))
      have xb2 := cb0 _ (ho.trans (Pw.Only.drew _ []))
      clear ca0 ca1 ca2 ca3 ca4 ca5 ca6 ca7 cb0 cb1 cb2 cb3 cb4 cb5 cb6 cb7
      by_cases hk : a0 = b0
      · have hi : ((a0 : Int) = b0) := by exact_mod_cast hk
        go_wp2_with fail
        go_quiet (fail)
        go_wp2_with fail
        go_roundw
        case rel => exact ⟨0, rfl, by omega, ho.trans (only_drewN _ _), by rw [hr.out]; exact ltL_eq hk⟩
        case measure => simp [intOf]
      · have hi : ¬ ((a0 : Int) = b0) := by exact_mod_cast hk
        go_wp2_with fail
        go_quiet (fail)
        go_wp2_with fail
        go_quiet (fail)
        go_wp2_with fail
        go_ret
        refine ⟨?_, hoW.trans ((ho.trans (only_drewN _ _)).trans (only_drewN _ _))⟩
        rw [hr.out]
        show _ = Ending.returned (.bool (ltL (a0 :: _) (b0 :: _)))
        rw [ltL_ne hk]
        simp
    · rw [show ((2 : Nat) : Int) - 1 = 1 from rfl]
      have xa := ca1 _ ho
      have xb := cb1 _ ho
      have xa2 := ca1 _ (ho.trans (Pw.Only.drew _ []))
      have xb2 := cb1 _ (ho.trans (Pw.Only.drew _ []))
      clear ca0 ca1 ca2 ca3 ca4 ca5 ca6 ca7 cb0 cb1 cb2 cb3 cb4 cb5 cb6 cb7
      by_cases hk : a1 = b1
      · have hi : ((a1 : Int) = b1) := by exact_mod_cast hk
        go_wp2_with fail
        go_quiet (fail)
        go_wp2_with fail
        go_roundw
        case rel => exact ⟨1, rfl, by omega, ho.trans (only_drewN _ _), by rw [hr.out]; exact ltL_eq hk⟩
        case measure => simp [intOf]
      · have hi : ¬ ((a1 : Int) = b1) := by exact_mod_cast hk
        go_wp2_with fail
        go_quiet (fail)
        go_wp2_with fail
        go_quiet (fail)
        go_wp2_with fail
        go_ret
        refine ⟨?_, hoW.trans ((ho.trans (only_drewN _ _)).trans (only_drewN _ _))⟩
        rw [hr.out]
        show _ = Ending.returned (.bool (ltL (a1 :: _) (b1 :: _)))
        rw [ltL_ne hk]
        simp
    · rw [show ((3 : Nat) : Int) - 1 = 2 from rfl]
      have xa := ca2 _ ho
      have xb := cb2 _ ho
      have xa2 := ca2 _ (ho.trans (Pw.Only.drew _ []))
      have xb2 := cb2 _ (ho.trans (Pw.Only.drew _ []))
      clear ca0 ca1 ca2 ca3 ca4 ca5 ca6 ca7 cb0 cb1 cb2 cb3 cb4 cb5 cb6 cb7
      by_cases hk : a2 = b2
      · have hi : ((a2 : Int) = b2) := by exact_mod_cast hk
        go_wp2_with fail
        go_quiet (fail)
        go_wp2_with fail
        go_roundw
        case rel => exact ⟨2, rfl, by omega, ho.trans (only_drewN _ _), by rw [hr.out]; exact ltL_eq hk⟩
        case measure => simp [intOf]
      · have hi : ¬ ((a2 : Int) = b2) := by exact_mod_cast hk
        go_wp2_with fail
        go_quiet (fail)
        go_wp2_with fail
        go_quiet (fail)
        go_wp2_with fail
        go_ret
        refine ⟨?_, hoW.trans ((ho.trans (only_drewN _ _)).trans (only_drewN _ _))⟩
        rw [hr.out]
        show _ = Ending.returned (.bool (ltL (a2 :: _) (b2 :: _)))
        rw [ltL_ne hk]
        simp
    · rw [show ((4 : Nat) : Int) - 1 = 3 from rfl]
      have xa := ca3 _ ho
      have xb := cb3 _ ho
      have xa2 := ca3 _ (ho.trans (Pw.Only.drew _ []))
      have xb2 := cb3 _ (ho.trans (Pw.Only.drew _ []))
      clear ca0 ca1 ca2 ca3 ca4 ca5 ca6 ca7 cb0 cb1 cb2 cb3 cb4 cb5 cb6 cb7
      by_cases hk : a3 = b3
      · have hi : ((a3 : Int) = b3) := by exact_mod_cast hk
        go_wp2_with fail
        go_quiet (fail)
        go_wp2_with fail
        go_roundw
        case rel => exact ⟨3, rfl, by omega, ho.trans (only_drewN _ _), by rw [hr.out]; exact ltL_eq hk⟩
        case measure => simp [intOf]
      · have hi : ¬ ((a3 : Int) = b3) := by exact_mod_cast hk
        go_wp2_with fail
        go_quiet (fail)
        go_wp2_with fail
        go_quiet (fail)
        go_wp2_with fail
        go_ret
        refine ⟨?_, hoW.trans ((ho.trans (only_drewN _ _)).trans (only_drewN _ _))⟩
        rw [hr.out]
        show _ = Ending.returned (.bool (ltL (a3 :: _) (b3 :: _)))
        rw [ltL_ne hk]
        simp
    · rw [show ((5 : Nat) : Int) - 1 = 4 from rfl]
      have xa := ca4 _ ho
      have xb := cb4 _ ho
      have xa2 := ca4 _ (ho.trans (Pw.Only.drew _ []))
      have xb2 := cb4 _ (ho.trans (Pw.Only.drew _ []))
      clear ca0 ca1 ca2 ca3 ca4 ca5 ca6 ca7 cb0 cb1 cb2 cb3 cb4 cb5 cb6 cb7
      by_cases hk : a4 = b4
      · have hi : ((a4 : Int) = b4) := by exact_mod_cast hk
        go_wp2_with fail
        go_quiet (fail)
        go_wp2_with fail
        go_roundw
        case rel => exact ⟨4, rfl, by omega, ho.trans (only_drewN _ _), by rw [hr.out]; exact ltL_eq hk⟩
        case measure => simp [intOf]
      · have hi : ¬ ((a4 : Int) = b4) := by exact_mod_cast hk
        go_wp2_with fail
        go_quiet (fail)
        go_wp2_with fail
        go_quiet (fail)
        go_wp2_with fail
        go_ret
        refine ⟨?_, hoW.trans ((ho.trans (only_drewN _ _)).trans (only_drewN _ _))⟩
        rw [hr.out]
        show _ = Ending.returned (.bool (ltL (a4 :: _) (b4 :: _)))
        rw [ltL_ne hk]
        simp
    · rw [show ((6 : Nat) : Int) - 1 = 5 from rfl]
      have xa := ca5 _ ho
      have xb := cb5 _ ho
      have xa2 := ca5 _ (ho.trans (Pw.Only.drew _ []))
      have xb2 := cb5 _ (ho.trans (Pw.Only.drew _ []))
      clear ca0 ca1 ca2 ca3 ca4 ca5 ca6 ca7 cb0 cb1 cb2 cb3 cb4 cb5 cb6 cb7
      by_cases hk : a5 = b5
      · have hi : ((a5 : Int) = b5) := by exact_mod_cast hk
        go_wp2_with fail
        go_quiet (fail)
        go_wp2_with fail
        go_roundw
        case rel => exact ⟨5, rfl, by omega, ho.trans (only_drewN _ _), by rw [hr.out]; exact ltL_eq hk⟩
        case measure => simp [intOf]
      · have hi : ¬ ((a5 : Int) = b5) := by exact_mod_cast hk
        go_wp2_with fail
        go_quiet (fail)
        go_wp2_with fail
        go_quiet (fail)
        go_wp2_with fail
        go_ret
        refine ⟨?_, hoW.trans ((ho.trans (only_drewN _ _)).trans (only_drewN _ _))⟩
        rw [hr.out]
        show _ = Ending.returned (.bool (ltL (a5 :: _) (b5 :: _)))
        rw [ltL_ne hk]
        simp
    · rw [show ((7 : Nat) : Int) - 1 = 6 from rfl]
      have xa := ca6 _ ho
      have xb := cb6 _ ho
      have xa2 := ca6 _ (ho.trans (Pw.Only.drew _ []))
      have xb2 := cb6 _ (ho.trans (Pw.Only.drew _ []))
      clear ca0 ca1 ca2 ca3 ca4 ca5 ca6 ca7 cb0 cb1 cb2 cb3 cb4 cb5 cb6 cb7
      by_cases hk : a6 = b6
      · have hi : ((a6 : Int) = b6) := by exact_mod_cast hk
        go_wp2_with fail
        go_quiet (fail)
        go_wp2_with fail
        go_roundw
        case rel => exact ⟨6, rfl, by omega, ho.trans (only_drewN _ _), by rw [hr.out]; exact ltL_eq hk⟩
        case measure => simp [intOf]
      · have hi : ¬ ((a6 : Int) = b6) := by exact_mod_cast hk
        go_wp2_with fail
        go_quiet (fail)
        go_wp2_with fail
        go_quiet (fail)
        go_wp2_with fail
        go_ret
        refine ⟨?_, hoW.trans ((ho.trans (only_drewN _ _)).trans (only_drewN _ _))⟩
        rw [hr.out]
        show _ = Ending.returned (.bool (ltL (a6 :: _) (b6 :: _)))
        rw [ltL_ne hk]
        simp
    · rw [show ((8 : Nat) : Int) - 1 = 7 from rfl]
      have xa := ca7 _ ho
      have xb := cb7 _ ho
      have xa2 := ca7 _ (ho.trans (Pw.Only.drew _ []))
      have xb2 := cb7 _ (ho.trans (Pw.Only.drew _ []))
      clear ca0 ca1 ca2 ca3 ca4 ca5 ca6 ca7 cb0 cb1 cb2 cb3 cb4 cb5 cb6 cb7
      by_cases hk : a7 = b7
      · have hi : ((a7 : Int) = b7) := by exact_mod_cast hk
        go_wp2_with fail
        go_quiet (fail)
        go_wp2_with fail
        go_roundw
        case rel => exact ⟨7, rfl, by omega, ho.trans (only_drewN _ _), by rw [hr.out]; exact ltL_eq hk⟩
        case measure => simp [intOf]
      · have hi : ¬ ((a7 : Int) = b7) := by exact_mod_cast hk
        go_wp2_with fail
        go_quiet (fail)
        go_wp2_with fail
        go_quiet (fail)
        go_wp2_with fail
        go_ret
        refine ⟨?_, hoW.trans ((ho.trans (only_drewN _ _)).trans (only_drewN _ _))⟩
        rw [hr.out]
        show _ = Ending.returned (.bool (ltL (a7 :: _) (b7 :: _)))
        rw [ltL_ne hk]
        simp
end Go.Proofs.YtjfmelmiegnmjaaGreatDoor

/- Numbers below the order: their sum. -/
open Go Go.Sx Go.Proofs Go.RowKit
set_option linter.all false
namespace Go.Proofs.YtjfmelmiegnmjaaGreatDoor
set_option maxRecDepth 1000000

/-! less, as a hook. -/
noncomputable def eight : List AV → Option (List Nat)
  | [x0, x1, x2, x3, x4, x5, x6, x7] => match symN .u32 x0, symN .u32 x1, symN .u32 x2, symN .u32 x3, symN .u32 x4, symN .u32 x5, symN .u32 x6, symN .u32 x7 with
    | some a0, some a1, some a2, some a3, some a4, some a5, some a6, some a7 => some [a0.1, a1.1, a2.1, a3.1, a4.1, a5.1, a6.1, a7.1]
    | _, _, _, _, _, _, _, _ => none
  | _ => none
theorem eight_den {σ : Env} {l : List AV} {x : List Nat} (h : eight l = some x) {us : List Value} (hd : denL σ l = some us) : us = x.map (fun (n : Nat) => Value.int .u32 n) ∧ ∃ a0 a1 a2 a3 a4 a5 a6 a7, x = [a0, a1, a2, a3, a4, a5, a6, a7] ∧ ∀ n ∈ x, n < um .u32 := by
  unfold eight at h
  split at h
  · split at h
    · rename_i a0 a1 a2 a3 a4 a5 a6 a7 q0 q1 q2 q3 q4 q5 q6 q7
      obtain rfl := Option.some.inj h
      obtain ⟨z0, l0, rfl, k0, hus⟩ := denL_cons hd
      obtain ⟨z1, l1, rfl, k1, hus⟩ := denL_cons hus
      obtain ⟨z2, l2, rfl, k2, hus⟩ := denL_cons hus
      obtain ⟨z3, l3, rfl, k3, hus⟩ := denL_cons hus
      obtain ⟨z4, l4, rfl, k4, hus⟩ := denL_cons hus
      obtain ⟨z5, l5, rfl, k5, hus⟩ := denL_cons hus
      obtain ⟨z6, l6, rfl, k6, hus⟩ := denL_cons hus
      obtain ⟨z7, l7, rfl, k7, hus⟩ := denL_cons hus
      obtain rfl := denL_nil hus
      rw [symN_ok q0 k0, symN_ok q1 k1, symN_ok q2 k2, symN_ok q3 k3, symN_ok q4 k4, symN_ok q5 k5, symN_ok q6 k6, symN_ok q7 k7]
      refine ⟨rfl, _, _, _, _, _, _, _, _, rfl, fun n hn => ?_⟩
      simp only [List.mem_cons, List.not_mem_nil, or_false] at hn
      rcases hn with rfl | rfl | rfl | rfl | rfl | rfl | rfl | rfl
      · exact a0.2
      · exact a1.2
      · exact a2.2
      · exact a3.2
      · exact a4.2
      · exact a5.2
      · exact a6.2
      · exact a7.2
    · cases h
  · cases h
def rev8 : List Nat → List Nat
  | [a0, a1, a2, a3, a4, a5, a6, a7] => [a7, a6, a5, a4, a3, a2, a1, a0]
  | l => l
noncomputable def gLess : List AV → Option AV
  | [.agg x, .agg y] => match eight x, eight y with
    | some a, some b => some (.bool (ltL (rev8 a) (rev8 b)))
    | _, _ => none
  | _ => none
theorem less_fn : fnOf Tryz.prog 317 = some (ntOf Tryz.prog 317, bodyOf Tryz.prog 317, resultsOf Tryz.prog 317) := by kernel_rfl
theorem less_good : HkGood Tryz.prog (pureHook 317 gLess) := by
  obtain ⟨fn, h1, _, h3, _⟩ := fnOf_ok less_fn
  refine fHook_good ⟨fn, _, h1, h3⟩ fun args v σ us w hg hd => ?_
  unfold gLess at hg
  split at hg
  · split at hg
    · rename_i a b ha hb
      obtain rfl := Option.some.inj hg
      obtain ⟨u, l1, rfl, hx, hd⟩ := denL_cons hd
      obtain ⟨u', l2, rfl, hy, hd⟩ := denL_cons hd
      obtain rfl := denL_nil hd
      simp only [den] at hx hy
      split at hx
      · rename_i us1 hl1
        obtain rfl := Option.some.inj hx
        split at hy
        · rename_i us2 hl2
          obtain rfl := Option.some.inj hy
          obtain ⟨rfl, a0, a1, a2, a3, a4, a5, a6, a7, rfl, _⟩ := eight_den ha hl1
          obtain ⟨rfl, b0, b1, b2, b3, b4, b5, b6, b7, rfl, _⟩ := eight_den hb hl2
          refine ⟨_, rfl, Calls.mono (less_any a0 a1 a2 a3 a4 a5 a6 a7 b0 b1 b2 b3 b4 b5 b6 b7 w) fun e w' h => ⟨h.1, h.2.os, h.2.tape, h.2.output, h.2.size, fun k hk _ => h.2.block k hk (by simp)⟩⟩
        · cases hy
      · cases hx
    · cases hg
  · cases hg
noncomputable def hL : Hk := hor hC2 (pureHook 317 gLess)
theorem hL_good : HkGood Tryz.prog hL := HkGood.or hC2_good less_good

/-! The sum. -/
theorem chainT {P : Program} {N : Nat} {c0 c1 c2 c3 c4 cA cR : Code} {o : Operand} {t d st} {r0 r1 r2 r3 r4 r : Rs}
    (h0 : RunsAs P N c0 t d st r0) (n0 : r0.isNorm = true) (h1 : RunsAs P N c1 r0.t r0.d r0.s r1) (n1 : r1.isNorm = true) (h2 : RunsAs P N c2 r1.t r1.d r1.s r2) (n2 : r2.isNorm = true)
    (h3 : RunsAs P N c3 r2.t r2.d r2.s r3) (n3 : r3.isNorm = true) (h4 : RunsAs P N c4 r3.t r3.d r3.s r4) (n4 : r4.isNorm = true) (hv : (cOp P o).map (fun e => ev e r4.t) = some (.bool true))
    (hA : RunsAs P N cA r4.t r4.d r4.s r) (hr : r.isRet = true) : RunsAs P N (.seq c0 (.seq c1 (.seq c2 (.seq c3 (.seq (.seq c4 (.cond o cA .skip)) cR))))) t d st r :=
  h0.seq n0 (h1.seq n1 (h2.seq n2 (h3.seq n3 ((h4.seq n4 (RunsAs.cond (b := true) hv hA)).seqR hr))))
theorem chainF {P : Program} {N : Nat} {c0 c1 c2 c3 c4 cA cR : Code} {o : Operand} {t d st} {r0 r1 r2 r3 r4 r : Rs}
    (h0 : RunsAs P N c0 t d st r0) (n0 : r0.isNorm = true) (h1 : RunsAs P N c1 r0.t r0.d r0.s r1) (n1 : r1.isNorm = true) (h2 : RunsAs P N c2 r1.t r1.d r1.s r2) (n2 : r2.isNorm = true)
    (h3 : RunsAs P N c3 r2.t r2.d r2.s r3) (n3 : r3.isNorm = true) (h4 : RunsAs P N c4 r3.t r3.d r3.s r4) (n4 : r4.isNorm = true) (hv : (cOp P o).map (fun e => ev e r4.t) = some (.bool false))
    (hR : RunsAs P N cR r4.t r4.d r4.s r) : RunsAs P N (.seq c0 (.seq c1 (.seq c2 (.seq c3 (.seq (.seq c4 (.cond o cA .skip)) cR))))) t d st r :=
  h0.seq n0 (h1.seq n1 (h2.seq n2 (h3.seq n3 ((h4.seq n4 (RunsAs.cond (b := false) hv RunsAs.skip)).seq rfl hR))))
def sumG (A : Alg) : Nat → List Nat → List Nat → List Nat
  | c, a :: xs, b :: ys =>
    let t := A.add 18446744073709551616 c (A.add 18446744073709551616 (A.md a 18446744073709551616) (A.md b 18446744073709551616))
    A.md t 4294967296 :: sumG A (A.shr t 32) xs ys
  | _, _, _ => []
def difG (A : Alg) : Nat → List Nat → List Nat → List Nat
  | c, a :: xs, b :: ys =>
    let t := A.sub 18446744073709551616 (A.sub 18446744073709551616 (A.md a 18446744073709551616) b) c
    A.md t 4294967296 :: difG A (A.shr t 63) xs ys
  | _, _, _ => []
def ordL : List Nat := [1559614445, 1477600026, 2734136534, 350157278, 0, 0, 0, 268435456]
def addS8 (A : Alg) (a b : List Nat) : List Nat := if ltL (rev8 (sumG A 0 a b)) (rev8 ordL) = true then sumG A 0 a b else difG A 0 (sumG A 0 a b) ordL

noncomputable def aC : Code := bodyOf Tryz.prog 281
noncomputable def aR0 : Code := seqA aC
noncomputable def aR1 : Code := seqA (seqB aC)
noncomputable def aL1 : Code := seqA (seqB (seqB aC))
noncomputable def aR9 : Code := seqA (seqB (seqB (seqB aC)))
noncomputable def aI : Code := seqA (seqB (seqB (seqB (seqB aC))))
noncomputable def aRest : Code := seqB (seqB (seqB (seqB (seqB aC))))
noncomputable def aR10 : Code := seqA aI
noncomputable def aO : Operand := condO (seqB aI)
noncomputable def aA : Code := condA (seqB aI)
noncomputable def aN : Nat := ntOf Tryz.prog 281
noncomputable def aRs : List ResultVar := resultsOf Tryz.prog 281
theorem add8_fn : fnOf Tryz.prog 281 = some (aN, .seq aR0 (.seq aR1 (.seq aL1 (.seq aR9 (.seq (.seq aR10 (.cond aO aA .skip)) aRest)))), aRs) := by kernel_rfl
noncomputable def cl8 : Nat → List AV → St → Ro := xcall Tryz.prog okT hL dhC 1000 20
section
variable (a0 : Nat) (ha0 : a0 < um .u32) (a1 : Nat) (ha1 : a1 < um .u32) (a2 : Nat) (ha2 : a2 < um .u32) (a3 : Nat) (ha3 : a3 < um .u32) (a4 : Nat) (ha4 : a4 < um .u32) (a5 : Nat) (ha5 : a5 < um .u32) (a6 : Nat) (ha6 : a6 < um .u32) (a7 : Nat) (ha7 : a7 < um .u32)
  (b0 : Nat) (hb0 : b0 < um .u32) (b1 : Nat) (hb1 : b1 < um .u32) (b2 : Nat) (hb2 : b2 < um .u32) (b3 : Nat) (hb3 : b3 < um .u32) (b4 : Nat) (hb4 : b4 < um .u32) (b5 : Nat) (hb5 : b5 < um .u32) (b6 : Nat) (hb6 : b6 < um .u32) (b7 : Nat) (hb7 : b7 < um .u32)
noncomputable def args8 : List AV := [.agg [.sn .u32 a0 ha0, .sn .u32 a1 ha1, .sn .u32 a2 ha2, .sn .u32 a3 ha3, .sn .u32 a4 ha4, .sn .u32 a5 ha5, .sn .u32 a6 ha6, .sn .u32 a7 ha7], .agg [.sn .u32 b0 hb0, .sn .u32 b1 hb1, .sn .u32 b2 hb2, .sn .u32 b3 hb3, .sn .u32 b4 hb4, .sn .u32 b5 hb5, .sn .u32 b6 hb6, .sn .u32 b7 hb7]]
noncomputable def y0 : Rs := xcode Tryz.prog okT cl8 aN 1000 aR0 (argsTr 0 (args8 a0 ha0 a1 ha1 a2 ha2 a3 ha3 a4 ha4 a5 ha5 a6 ha6 a7 ha7 b0 hb0 b1 hb1 b2 hb2 b3 hb3 b4 hb4 b5 hb5 b6 hb6 b7 hb7) .lf) [] (st0 [] (fun _ => 0))
noncomputable def nextR (c : Code) (r : Rs) : Rs := xcode Tryz.prog okT cl8 aN 1000 c r.t r.d r.s
noncomputable def y4 : Rs := nextR aR10 (nextR aR9 (nextR aL1 (nextR aR1 (y0 a0 ha0 a1 ha1 a2 ha2 a3 ha3 a4 ha4 a5 ha5 a6 ha6 a7 ha7 b0 hb0 b1 hb1 b2 hb2 b3 hb3 b4 hb4 b5 hb5 b6 hb6 b7 hb7))))
theorem n0 : (y0 a0 ha0 a1 ha1 a2 ha2 a3 ha3 a4 ha4 a5 ha5 a6 ha6 a7 ha7 b0 hb0 b1 hb1 b2 hb2 b3 hb3 b4 hb4 b5 hb5 b6 hb6 b7 hb7).isNorm = true := by kernel_rfl
theorem n1 : (nextR aR1 (y0 a0 ha0 a1 ha1 a2 ha2 a3 ha3 a4 ha4 a5 ha5 a6 ha6 a7 ha7 b0 hb0 b1 hb1 b2 hb2 b3 hb3 b4 hb4 b5 hb5 b6 hb6 b7 hb7)).isNorm = true := by kernel_rfl
theorem n2 : (nextR aL1 (nextR aR1 (y0 a0 ha0 a1 ha1 a2 ha2 a3 ha3 a4 ha4 a5 ha5 a6 ha6 a7 ha7 b0 hb0 b1 hb1 b2 hb2 b3 hb3 b4 hb4 b5 hb5 b6 hb6 b7 hb7))).isNorm = true := by kernel_rfl
theorem n3 : (nextR aR9 (nextR aL1 (nextR aR1 (y0 a0 ha0 a1 ha1 a2 ha2 a3 ha3 a4 ha4 a5 ha5 a6 ha6 a7 ha7 b0 hb0 b1 hb1 b2 hb2 b3 hb3 b4 hb4 b5 hb5 b6 hb6 b7 hb7)))).isNorm = true := by kernel_rfl
theorem n4 : (y4 a0 ha0 a1 ha1 a2 ha2 a3 ha3 a4 ha4 a5 ha5 a6 ha6 a7 ha7 b0 hb0 b1 hb1 b2 hb2 b3 hb3 b4 hb4 b5 hb5 b6 hb6 b7 hb7).isNorm = true := by kernel_rfl
theorem cv : (cOp Tryz.prog aO).map (fun e => ev e (y4 a0 ha0 a1 ha1 a2 ha2 a3 ha3 a4 ha4 a5 ha5 a6 ha6 a7 ha7 b0 hb0 b1 hb1 b2 hb2 b3 hb3 b4 hb4 b5 hb5 b6 hb6 b7 hb7).t) = some (.bool (ltL (rev8 (sumG oA 0 [a0, a1, a2, a3, a4, a5, a6, a7] [b0, b1, b2, b3, b4, b5, b6, b7])) (rev8 ordL))) := by kernel_rfl
theorem rT : (nextR aA (y4 a0 ha0 a1 ha1 a2 ha2 a3 ha3 a4 ha4 a5 ha5 a6 ha6 a7 ha7 b0 hb0 b1 hb1 b2 hb2 b3 hb3 b4 hb4 b5 hb5 b6 hb6 b7 hb7)).isRet = true := by kernel_rfl
theorem vT : (xleave Tryz.prog dhC aRs (nextR aA (y4 a0 ha0 a1 ha1 a2 ha2 a3 ha3 a4 ha4 a5 ha5 a6 ha6 a7 ha7 b0 hb0 b1 hb1 b2 hb2 b3 hb3 b4 hb4 b5 hb5 b6 hb6 b7 hb7))).val.bind (nats .u32) = some (sumG oA 0 [a0, a1, a2, a3, a4, a5, a6, a7] [b0, b1, b2, b3, b4, b5, b6, b7]) := by kernel_rfl
theorem vF : (xleave Tryz.prog dhC aRs (nextR aRest (y4 a0 ha0 a1 ha1 a2 ha2 a3 ha3 a4 ha4 a5 ha5 a6 ha6 a7 ha7 b0 hb0 b1 hb1 b2 hb2 b3 hb3 b4 hb4 b5 hb5 b6 hb6 b7 hb7))).val.bind (nats .u32) = some (difG oA 0 (sumG oA 0 [a0, a1, a2, a3, a4, a5, a6, a7] [b0, b1, b2, b3, b4, b5, b6, b7]) ordL) := by kernel_rfl
end
theorem add8_any (a0 : Nat) (ha0 : a0 < um .u32) (a1 : Nat) (ha1 : a1 < um .u32) (a2 : Nat) (ha2 : a2 < um .u32) (a3 : Nat) (ha3 : a3 < um .u32) (a4 : Nat) (ha4 : a4 < um .u32) (a5 : Nat) (ha5 : a5 < um .u32) (a6 : Nat) (ha6 : a6 < um .u32) (a7 : Nat) (ha7 : a7 < um .u32) (b0 : Nat) (hb0 : b0 < um .u32) (b1 : Nat) (hb1 : b1 < um .u32) (b2 : Nat) (hb2 : b2 < um .u32) (b3 : Nat) (hb3 : b3 < um .u32) (b4 : Nat) (hb4 : b4 < um .u32) (b5 : Nat) (hb5 : b5 < um .u32) (b6 : Nat) (hb6 : b6 < um .u32) (b7 : Nat) (hb7 : b7 < um .u32) (W : World) : Calls Tryz.prog 281 #[.agg ([a0, a1, a2, a3, a4, a5, a6, a7].map fun (n : Nat) => Value.int .u32 n).toArray, .agg ([b0, b1, b2, b3, b4, b5, b6, b7].map fun (n : Nat) => Value.int .u32 n).toArray] W
    fun e W' => e = .returned (.agg ((addS8 oA [a0, a1, a2, a3, a4, a5, a6, a7] [b0, b1, b2, b3, b4, b5, b6, b7]).map fun (n : Nat) => Value.int .u32 n).toArray) ∧ OnlyB W W' (fun _ => False) := by
  have hgood := call_good (okT := okT) okt callsOK mixed hL_good dhC_good 1000 20
  have hargs : ∀ σ, denL σ (args8 a0 ha0 a1 ha1 a2 ha2 a3 ha3 a4 ha4 a5 ha5 a6 ha6 a7 ha7 b0 hb0 b1 hb1 b2 hb2 b3 hb3 b4 hb4 b5 hb5 b6 hb6 b7 hb7) = some [.agg ([a0, a1, a2, a3, a4, a5, a6, a7].map fun (n : Nat) => Value.int .u32 n).toArray, .agg ([b0, b1, b2, b3, b4, b5, b6, b7].map fun (n : Nat) => Value.int .u32 n).toArray] := fun σ => rfl
  have hro : (([] : List (Nat × Cont)).all fun p => Nat.blt p.1 roN && Nat.blt p.1 Tryz.prog.globals.size) = true := rfl
  obtain ⟨hrep, small⟩ := rep_st0 (W := W) (E := fun _ => 0) hro (fun _ _ h => by cases h)
  have run : ∀ (c : Code) (t : Tr AV) (d : Ds) (st : St), RunsAs Tryz.prog aN c t d st (xcode Tryz.prog okT cl8 aN 1000 c t d st) := fun c t d st => runs_code okt callsOK mixed hgood 1000 c t d st
  have fin : ∀ (r : Rs) (l : List Nat), RunsAs Tryz.prog aN (.seq aR0 (.seq aR1 (.seq aL1 (.seq aR9 (.seq (.seq aR10 (.cond aO aA .skip)) aRest))))) (argsTr 0 (args8 a0 ha0 a1 ha1 a2 ha2 a3 ha3 a4 ha4 a5 ha5 a6 ha6 a7 ha7 b0 hb0 b1 hb1 b2 hb2 b3 hb3 b4 hb4 b5 hb5 b6 hb6 b7 hb7) .lf) [] (st0 [] (fun _ => 0)) r → (xleave Tryz.prog dhC aRs r).val.bind (nats .u32) = some l →
      Calls Tryz.prog 281 #[.agg ([a0, a1, a2, a3, a4, a5, a6, a7].map fun (n : Nat) => Value.int .u32 n).toArray, .agg ([b0, b1, b2, b3, b4, b5, b6, b7].map fun (n : Nat) => Value.int .u32 n).toArray] W fun e W' => e = .returned (.agg (l.map fun (n : Nat) => Value.int .u32 n).toArray) ∧ OnlyB W W' (fun _ => False) := by
    intro r l hr hv
    obtain ⟨v, h1, h2⟩ := Option.bind_eq_some_iff.1 hv
    cases hx : xleave Tryz.prog dhC aRs r with
    | no => rw [hx] at h1; cases h1
    | pan v' st' => rw [hx] at h1; cases h1
    | ret v' st' =>
      rw [hx] at h1
      obtain rfl : v' = v := Option.some.inj h1
      refine Calls.mono (body_of_runs callsOK dhC_good add8_fn hr hrep (glob0 _) (hargs _) (by rw [hx]; simp) (by
        rw [hx]
        intro id h1 h2
        have h1 : roN ≤ id := h1
        have := Nat.le_of_ble_eq_true (show Nat.ble Tryz.prog.globals.size roN = true by kernel_rfl)
        simp only [env0]
        rw [if_neg (by omega)])) ?_
      rintro e w' hb
      rw [hx] at hb
      obtain ⟨σ', u, rfl, hu, hs⟩ := hb
      obtain rfl := Option.some.inj (hu.symm.trans (nats_den h2))
      refine ⟨rfl, hs.only.os, hs.only.tape, hs.only.output, hs.only.size, fun k hk _ => hs.only.block k hk ?_⟩
      rintro ⟨id, b, l, h0, h1, h2, h3⟩
      have := (small id b h1).1
      omega
  unfold addS8
  cases hb : ltL (rev8 (sumG oA 0 [a0, a1, a2, a3, a4, a5, a6, a7] [b0, b1, b2, b3, b4, b5, b6, b7])) (rev8 ordL) with
  | true =>
    rw [if_pos rfl]
    have hcv : (cOp Tryz.prog aO).map (fun e => ev e (y4 a0 ha0 a1 ha1 a2 ha2 a3 ha3 a4 ha4 a5 ha5 a6 ha6 a7 ha7 b0 hb0 b1 hb1 b2 hb2 b3 hb3 b4 hb4 b5 hb5 b6 hb6 b7 hb7).t) = some (.bool true) := by rw [cv, hb]
    exact fin (nextR aA (y4 a0 ha0 a1 ha1 a2 ha2 a3 ha3 a4 ha4 a5 ha5 a6 ha6 a7 ha7 b0 hb0 b1 hb1 b2 hb2 b3 hb3 b4 hb4 b5 hb5 b6 hb6 b7 hb7)) _ (chainT (r0 := (y0 a0 ha0 a1 ha1 a2 ha2 a3 ha3 a4 ha4 a5 ha5 a6 ha6 a7 ha7 b0 hb0 b1 hb1 b2 hb2 b3 hb3 b4 hb4 b5 hb5 b6 hb6 b7 hb7)) (r1 := (nextR aR1 (y0 a0 ha0 a1 ha1 a2 ha2 a3 ha3 a4 ha4 a5 ha5 a6 ha6 a7 ha7 b0 hb0 b1 hb1 b2 hb2 b3 hb3 b4 hb4 b5 hb5 b6 hb6 b7 hb7))) (r2 := (nextR aL1 (nextR aR1 (y0 a0 ha0 a1 ha1 a2 ha2 a3 ha3 a4 ha4 a5 ha5 a6 ha6 a7 ha7 b0 hb0 b1 hb1 b2 hb2 b3 hb3 b4 hb4 b5 hb5 b6 hb6 b7 hb7)))) (r3 := (nextR aR9 (nextR aL1 (nextR aR1 (y0 a0 ha0 a1 ha1 a2 ha2 a3 ha3 a4 ha4 a5 ha5 a6 ha6 a7 ha7 b0 hb0 b1 hb1 b2 hb2 b3 hb3 b4 hb4 b5 hb5 b6 hb6 b7 hb7))))) (r4 := (y4 a0 ha0 a1 ha1 a2 ha2 a3 ha3 a4 ha4 a5 ha5 a6 ha6 a7 ha7 b0 hb0 b1 hb1 b2 hb2 b3 hb3 b4 hb4 b5 hb5 b6 hb6 b7 hb7)) (run aR0 _ _ _) (n0 a0 ha0 a1 ha1 a2 ha2 a3 ha3 a4 ha4 a5 ha5 a6 ha6 a7 ha7 b0 hb0 b1 hb1 b2 hb2 b3 hb3 b4 hb4 b5 hb5 b6 hb6 b7 hb7) (run aR1 _ _ _) (n1 a0 ha0 a1 ha1 a2 ha2 a3 ha3 a4 ha4 a5 ha5 a6 ha6 a7 ha7 b0 hb0 b1 hb1 b2 hb2 b3 hb3 b4 hb4 b5 hb5 b6 hb6 b7 hb7) (run aL1 _ _ _) (n2 a0 ha0 a1 ha1 a2 ha2 a3 ha3 a4 ha4 a5 ha5 a6 ha6 a7 ha7 b0 hb0 b1 hb1 b2 hb2 b3 hb3 b4 hb4 b5 hb5 b6 hb6 b7 hb7) (run aR9 _ _ _) (n3 a0 ha0 a1 ha1 a2 ha2 a3 ha3 a4 ha4 a5 ha5 a6 ha6 a7 ha7 b0 hb0 b1 hb1 b2 hb2 b3 hb3 b4 hb4 b5 hb5 b6 hb6 b7 hb7) (run aR10 _ _ _) (n4 a0 ha0 a1 ha1 a2 ha2 a3 ha3 a4 ha4 a5 ha5 a6 ha6 a7 ha7 b0 hb0 b1 hb1 b2 hb2 b3 hb3 b4 hb4 b5 hb5 b6 hb6 b7 hb7) hcv (run aA _ _ _) (rT a0 ha0 a1 ha1 a2 ha2 a3 ha3 a4 ha4 a5 ha5 a6 ha6 a7 ha7 b0 hb0 b1 hb1 b2 hb2 b3 hb3 b4 hb4 b5 hb5 b6 hb6 b7 hb7)) (vT a0 ha0 a1 ha1 a2 ha2 a3 ha3 a4 ha4 a5 ha5 a6 ha6 a7 ha7 b0 hb0 b1 hb1 b2 hb2 b3 hb3 b4 hb4 b5 hb5 b6 hb6 b7 hb7)
  | false =>
    rw [if_neg (by decide)]
    have hcv : (cOp Tryz.prog aO).map (fun e => ev e (y4 a0 ha0 a1 ha1 a2 ha2 a3 ha3 a4 ha4 a5 ha5 a6 ha6 a7 ha7 b0 hb0 b1 hb1 b2 hb2 b3 hb3 b4 hb4 b5 hb5 b6 hb6 b7 hb7).t) = some (.bool false) := by rw [cv, hb]
    exact fin (nextR aRest (y4 a0 ha0 a1 ha1 a2 ha2 a3 ha3 a4 ha4 a5 ha5 a6 ha6 a7 ha7 b0 hb0 b1 hb1 b2 hb2 b3 hb3 b4 hb4 b5 hb5 b6 hb6 b7 hb7)) _ (chainF (r0 := (y0 a0 ha0 a1 ha1 a2 ha2 a3 ha3 a4 ha4 a5 ha5 a6 ha6 a7 ha7 b0 hb0 b1 hb1 b2 hb2 b3 hb3 b4 hb4 b5 hb5 b6 hb6 b7 hb7)) (r1 := (nextR aR1 (y0 a0 ha0 a1 ha1 a2 ha2 a3 ha3 a4 ha4 a5 ha5 a6 ha6 a7 ha7 b0 hb0 b1 hb1 b2 hb2 b3 hb3 b4 hb4 b5 hb5 b6 hb6 b7 hb7))) (r2 := (nextR aL1 (nextR aR1 (y0 a0 ha0 a1 ha1 a2 ha2 a3 ha3 a4 ha4 a5 ha5 a6 ha6 a7 ha7 b0 hb0 b1 hb1 b2 hb2 b3 hb3 b4 hb4 b5 hb5 b6 hb6 b7 hb7)))) (r3 := (nextR aR9 (nextR aL1 (nextR aR1 (y0 a0 ha0 a1 ha1 a2 ha2 a3 ha3 a4 ha4 a5 ha5 a6 ha6 a7 ha7 b0 hb0 b1 hb1 b2 hb2 b3 hb3 b4 hb4 b5 hb5 b6 hb6 b7 hb7))))) (r4 := (y4 a0 ha0 a1 ha1 a2 ha2 a3 ha3 a4 ha4 a5 ha5 a6 ha6 a7 ha7 b0 hb0 b1 hb1 b2 hb2 b3 hb3 b4 hb4 b5 hb5 b6 hb6 b7 hb7)) (run aR0 _ _ _) (n0 a0 ha0 a1 ha1 a2 ha2 a3 ha3 a4 ha4 a5 ha5 a6 ha6 a7 ha7 b0 hb0 b1 hb1 b2 hb2 b3 hb3 b4 hb4 b5 hb5 b6 hb6 b7 hb7) (run aR1 _ _ _) (n1 a0 ha0 a1 ha1 a2 ha2 a3 ha3 a4 ha4 a5 ha5 a6 ha6 a7 ha7 b0 hb0 b1 hb1 b2 hb2 b3 hb3 b4 hb4 b5 hb5 b6 hb6 b7 hb7) (run aL1 _ _ _) (n2 a0 ha0 a1 ha1 a2 ha2 a3 ha3 a4 ha4 a5 ha5 a6 ha6 a7 ha7 b0 hb0 b1 hb1 b2 hb2 b3 hb3 b4 hb4 b5 hb5 b6 hb6 b7 hb7) (run aR9 _ _ _) (n3 a0 ha0 a1 ha1 a2 ha2 a3 ha3 a4 ha4 a5 ha5 a6 ha6 a7 ha7 b0 hb0 b1 hb1 b2 hb2 b3 hb3 b4 hb4 b5 hb5 b6 hb6 b7 hb7) (run aR10 _ _ _) (n4 a0 ha0 a1 ha1 a2 ha2 a3 ha3 a4 ha4 a5 ha5 a6 ha6 a7 ha7 b0 hb0 b1 hb1 b2 hb2 b3 hb3 b4 hb4 b5 hb5 b6 hb6 b7 hb7) hcv (run aRest _ _ _)) (vF a0 ha0 a1 ha1 a2 ha2 a3 ha3 a4 ha4 a5 ha5 a6 ha6 a7 ha7 b0 hb0 b1 hb1 b2 hb2 b3 hb3 b4 hb4 b5 hb5 b6 hb6 b7 hb7)
theorem addS8_eq (a b : List Nat) : addS8 oA a b = addS8 nA a b := by rw [oA_eq]
noncomputable def gAdd8 : List AV → Option AV
  | [.agg x, .agg y] => match eight x, eight y with
    | some a, some b => some (.agg (back32 (addS8 nA a b)))
    | _, _ => none
  | _ => none
theorem add8_hold (a b : List Nat) (ha : ∃ a0 a1 a2 a3 a4 a5 a6 a7, a = [a0, a1, a2, a3, a4, a5, a6, a7]) (hb : ∃ b0 b1 b2 b3 b4 b5 b6 b7, b = [b0, b1, b2, b3, b4, b5, b6, b7]) (la : ∀ n ∈ a, n < um .u32) (lb : ∀ n ∈ b, n < um .u32) (W : World) :
    Calls Tryz.prog 281 #[.agg (a.map fun (n : Nat) => Value.int .u32 n).toArray, .agg (b.map fun (n : Nat) => Value.int .u32 n).toArray] W
    fun e W' => e = .returned (.agg ((addS8 nA a b).map fun (n : Nat) => Value.int .u32 n).toArray) ∧ OnlyB W W' (fun _ => False) := by
  obtain ⟨a0, a1, a2, a3, a4, a5, a6, a7, rfl⟩ := ha
  obtain ⟨b0, b1, b2, b3, b4, b5, b6, b7, rfl⟩ := hb
  rw [← addS8_eq]
  exact add8_any a0 (la _ (by simp)) a1 (la _ (by simp)) a2 (la _ (by simp)) a3 (la _ (by simp)) a4 (la _ (by simp)) a5 (la _ (by simp)) a6 (la _ (by simp)) a7 (la _ (by simp)) b0 (lb _ (by simp)) b1 (lb _ (by simp)) b2 (lb _ (by simp)) b3 (lb _ (by simp)) b4 (lb _ (by simp)) b5 (lb _ (by simp)) b6 (lb _ (by simp)) b7 (lb _ (by simp)) W
theorem add8_good : HkGood Tryz.prog (pureHook 281 gAdd8) := by
  obtain ⟨fn, h1, _, h3, _⟩ := fnOf_ok add8_fn
  refine fHook_good ⟨fn, _, h1, h3⟩ fun args v σ us w hg hd => ?_
  unfold gAdd8 at hg
  split at hg
  · split at hg
    · rename_i a b ha hb
      obtain rfl := Option.some.inj hg
      obtain ⟨u, l1, rfl, hx, hd⟩ := denL_cons hd
      obtain ⟨u', l2, rfl, hy, hd⟩ := denL_cons hd
      obtain rfl := denL_nil hd
      simp only [den] at hx hy
      split at hx
      · rename_i us1 hl1
        obtain rfl := Option.some.inj hx
        split at hy
        · rename_i us2 hl2
          obtain rfl := Option.some.inj hy
          obtain ⟨rfl, a0, a1, a2, a3, a4, a5, a6, a7, rfl, la⟩ := eight_den ha hl1
          obtain ⟨rfl, b0, b1, b2, b3, b4, b5, b6, b7, rfl, lb⟩ := eight_den hb hl2
          exact ⟨_, by simp only [den, back32_den], add8_hold _ _ ⟨a0, a1, a2, a3, a4, a5, a6, a7, rfl⟩ ⟨b0, b1, b2, b3, b4, b5, b6, b7, rfl⟩ la lb w⟩
        · cases hy
      · cases hx
    · cases hg
  · cases hg
/-- The crypto's hooks, sums too. -/
noncomputable def hC3 : Hk := hor hL (pureHook 281 gAdd8)
theorem hC3_good : HkGood Tryz.prog hC3 := HkGood.or hL_good add8_good
end Go.Proofs.YtjfmelmiegnmjaaGreatDoor

/- The curve's number and its first point, as hooks. -/
open Go Go.Sx Go.Proofs Go.RowKit
set_option linter.all false
namespace Go.Proofs.YtjfmelmiegnmjaaGreatDoor
set_option maxRecDepth 1000000

noncomputable def u64L : List Nat → List AV
  | [] => []
  | n :: l => .int .u64 (.ofNat n) :: u64L l
theorem u64L_den {σ : Env} : ∀ (l : List Nat), denL σ (u64L l) = some (l.map fun (n : Nat) => Value.int .u64 n)
  | [] => rfl
  | n :: l => by
    simp only [u64L, denL, den, u64L_den l, List.map_cons]
    rfl
def curveL : List Nat := [929955233495203, 466365720129213, 1662059464998953, 2033849074728123, 1442794654840575]
def startL : List Nat := [1738742601995546, 1146398526822698, 2070867633025821, 562264141797630, 587772402128613, 1801439850948184, 1351079888211148, 450359962737049, 900719925474099, 1801439850948198, 1, 0, 0, 0, 0, 1841354044333475, 16398895984059, 755974180946558, 900171276175154, 1821297809914039]
noncomputable def gConst (l : List Nat) : List AV → Option AV
  | [] => some (.agg (u64L l))
  | _ => none
theorem const_any {f : Nat} {l : List Nat} (h : AV.beq (((xcall Tryz.prog okT hC3 dhC 1000 20 f [] (st0 [] (fun _ => 0))).val).getD .nilp) (.agg (u64L l)) = true) (W : World) :
    Calls Tryz.prog f #[] W fun e W' => e = .returned (.agg (l.map fun (n : Nat) => Value.int .u64 n).toArray) ∧ OnlyB W W' (fun _ => False) :=
  sym_calls (E := fun _ => 0) (ro := []) okt callsOK mixed hC3_good dhC_good (args := []) (us := []) (fun σ => rfl) (by kernel_rfl) (by kernel_rfl) (fun _ _ h => by cases h) (val_of h (fun h => by cases h)) (fun σ => den_agg (u64L_den l))
theorem const_good {f : Nat} {l : List Nat} (hf : ∃ fn c, nthL Tryz.prog.funcs.toList f = some fn ∧ fn.body = some c) (h : AV.beq (((xcall Tryz.prog okT hC3 dhC 1000 20 f [] (st0 [] (fun _ => 0))).val).getD .nilp) (.agg (u64L l)) = true) : HkGood Tryz.prog (pureHook f (gConst l)) := by
  refine fHook_good hf fun args v σ us w hg hd => ?_
  unfold gConst at hg
  split at hg
  · obtain rfl := Option.some.inj hg
    obtain rfl := denL_nil hd
    exact ⟨_, den_agg (u64L_den l), const_any h w⟩
  · cases hg
theorem curve_run : AV.beq (((xcall Tryz.prog okT hC3 dhC 1000 20 313 [] (st0 [] (fun _ => 0))).val).getD .nilp) (.agg (u64L curveL)) = true := by kernel_rfl
theorem start_run : AV.beq (((xcall Tryz.prog okT hC3 dhC 1000 20 276 [] (st0 [] (fun _ => 0))).val).getD .nilp) (.agg (u64L startL)) = true := by kernel_rfl
theorem curve_fn : fnOf Tryz.prog 313 = some (ntOf Tryz.prog 313, bodyOf Tryz.prog 313, resultsOf Tryz.prog 313) := by kernel_rfl
theorem start_fn : fnOf Tryz.prog 276 = some (ntOf Tryz.prog 276, bodyOf Tryz.prog 276, resultsOf Tryz.prog 276) := by kernel_rfl
theorem curve_good : HkGood Tryz.prog (pureHook 313 (gConst curveL)) := by
  obtain ⟨fn, h1, _, h3, _⟩ := fnOf_ok curve_fn
  exact const_good ⟨fn, _, h1, h3⟩ curve_run
theorem start_good : HkGood Tryz.prog (pureHook 276 (gConst startL)) := by
  obtain ⟨fn, h1, _, h3, _⟩ := fnOf_ok start_fn
  exact const_good ⟨fn, _, h1, h3⟩ start_run
/-- All of the crypto's hooks. -/
noncomputable def hC : Hk := hor hC3 (hor (pureHook 313 (gConst curveL)) (pureHook 276 (gConst startL)))
theorem hC_good : HkGood Tryz.prog hC := HkGood.or hC3_good (HkGood.or curve_good start_good)
end Go.Proofs.YtjfmelmiegnmjaaGreatDoor
