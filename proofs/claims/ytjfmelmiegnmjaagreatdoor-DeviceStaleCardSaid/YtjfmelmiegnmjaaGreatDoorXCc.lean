/- Points, so many times: reckoned. -/
import Derived.Test.YtjfmelmiegnmjaaGreatDoorXCb
import Derived.Test.YtjfmelmiegnmjaaGreatDoorWho
import Derived.Laws.BitsAllLaws
set_option linter.all false
open Go Go.Sx Go.Proofs Go.RowKit
set_option linter.all false
namespace Go.Proofs.YtjfmelmiegnmjaaGreatDoor
set_option maxRecDepth 100000

/-! Raw parts, each worked out ahead of the next. -/
def settleR (a0 a1 a2 a3 a4 : Nat) : R5 := (settleS a0 a1 a2 a3 a4).raw
def addR (a b : R5) : R5 := settleR (plusW a.a0 b.a0) (plusW a.a1 b.a1) (plusW a.a2 b.a2) (plusW a.a3 b.a3) (plusW a.a4 b.a4)
def lessR (a b : R5) : R5 := settleR (lessW a.a0 9007199254740916 b.a0) (lessW a.a1 9007199254740988 b.a1) (lessW a.a2 9007199254740988 b.a2) (lessW a.a3 9007199254740988 b.a3) (lessW a.a4 9007199254740988 b.a4)
def settleQ (x : R5) : R5 := settleR x.a0 x.a1 x.a2 x.a3 x.a4
section
variable {α : Type}
noncomputable def addK (a b : R5) (k : R5 → α) : α := woR (addR a b) k
noncomputable def subK (a b : R5) (k : R5 → α) : α := woR (settleQ b) fun c => woR (lessR a c) fun e => woR (settleQ e) k
noncomputable def mulK (a b : R5) (k : R5 → α) : α := woR (mulR a b) k
theorem addK_eq (a b : L5) (k : R5 → α) : addK a.raw b.raw k = k (addS a b).raw := by unfold addK; rw [woR_eq]; rfl
theorem subK_eq (a b : L5) (k : R5 → α) : subK a.raw b.raw k = k (subS a b).raw := by unfold subK; rw [woR_eq, woR_eq, woR_eq]; rfl
theorem mulK_eq (a b : L5) (k : R5 → α) : mulK a.raw b.raw k = k (mulS a b).raw := by unfold mulK; rw [woR_eq]; rfl
end
structure R4 where
  x : R5
  y : R5
  z : R5
  t : R5
def P4.raw (p : P4) : R4 := ⟨p.x.raw, p.y.raw, p.z.raw, p.t.raw⟩
noncomputable def sumK {α : Type} (p q : R4) (d : R5) (k : R4 → α) : α :=
  subK p.y p.x fun a1 => subK q.y q.x fun a2 => mulK a1 a2 fun a =>
  addK p.y p.x fun b1 => addK q.y q.x fun b2 => mulK b1 b2 fun b =>
  mulK p.t d fun c1 => mulK c1 q.t fun c =>
  mulK p.z q.z fun z1 => addK z1 z1 fun z =>
  subK b a fun e => subK z c fun f => addK z c fun g => addK b a fun h =>
  mulK e f fun x => mulK g h fun y => mulK f g fun w => mulK e h fun t => k ⟨x, y, w, t⟩
theorem sumK_eq {α : Type} (p q : P4) (d : L5) (k : R4 → α) : sumK p.raw q.raw d.raw k = k (sumS p q d).raw := by
  unfold sumK
  simp only [P4.raw, subK_eq, addK_eq, mulK_eq]
  rfl

/-! So many times, bit by bit. -/
noncomputable def bitL (w : Nat) (bs : List Nat) (j : Nat) : Bool := Nat.beq (Nat.mod (Nat.div (nthN bs (Nat.div j w)) (Nat.pow 2 (Nat.mod j w))) 2) 1
noncomputable def bitsR (w : Nat) (bs : List Nat) : Nat → List Bool
  | 0 => []
  | j + 1 => bitL w bs j :: bitsR w bs j
def timesGo (p : P4) (d : L5) : List Bool → P4 → P4
  | [], o => o
  | b :: l, o => timesGo p d l (match b with | true => sumS (sumS o o d) p d | false => sumS o o d)
noncomputable def timesK (p : R4) (d : R5) : List Bool → R4 → R4
  | [], o => o
  | b :: l, o => sumK o o d fun q => match b with
    | true => sumK q p d fun r => timesK p d l r
    | false => timesK p d l q
theorem timesK_eq (p : P4) (d : L5) : ∀ (l : List Bool) (o : P4), timesK p.raw d.raw l o.raw = (timesGo p d l o).raw
  | [], o => rfl
  | b :: l, o => by
    have ih := timesK_eq p d l
    unfold timesK timesGo
    rw [sumK_eq]
    cases b
    · exact ih _
    · refine (sumK_eq (sumS o o d) p d _).trans (ih _)
def origin : P4 := ⟨num5 0 (by decide), num5 1 (by decide), num5 1 (by decide), num5 0 (by decide)⟩
def curve5 : L5 := ⟨⟨929955233495203, by decide⟩, ⟨466365720129213, by decide⟩, ⟨1662059464998953, by decide⟩, ⟨2033849074728123, by decide⟩, ⟨1442794654840575, by decide⟩⟩
def zero4 : P4 := ⟨num5 0 (by decide), num5 0 (by decide), num5 0 (by decide), num5 0 (by decide)⟩
def twice5 : L5 := mulS (num5 2 (by decide)) curve5
noncomputable def timesS (p : P4) (bs : List Nat) : P4 := timesGo p twice5 (bitsR 8 bs 256) origin

/-! What the calls ahead of the loop hand back. -/
theorem only_of {w w' : World} (h : OnlyB w w' (fun _ => False)) : Pw.Only w w' [] := ⟨h.os, h.tape, h.output, h.size, fun k hk _ => h.block k hk (fun x => x)⟩
theorem onlyB_of {w w' : World} (h : Pw.Only w w' []) : OnlyB w w' (fun _ => False) := ⟨h.os, h.tape, h.output, h.size, fun k hk _ => h.block k hk (by simp)⟩
theorem mul5_any (a b : L5) (W : World) : Calls Tryz.prog 294 #[a.val, b.val] W fun e W' => e = .returned (mulS a b).val ∧ Pw.Only W W' [] := by
  rw [L5.val_eq (mulS a b), mul_list]
  exact (mul_any _ a.a0.2 _ a.a1.2 _ a.a2.2 _ a.a3.2 _ a.a4.2 _ b.a0.2 _ b.a1.2 _ b.a2.2 _ b.a3.2 _ b.a4.2 W).mono fun e w' h => ⟨h.1, only_of h.2⟩
theorem origin_any (W : World) : Calls Tryz.prog 312 #[] W fun e W' => e = .returned origin.val ∧ Pw.Only W W' [] :=
  (sym_calls (E := fun _ => 0) (ro := []) okt callsOK mixed hC_good dhC_good (args := []) (us := []) (fun σ => rfl) (by kernel_rfl) (by kernel_rfl) (fun _ _ h => by cases h) (val_of (x := (xcall Tryz.prog okT hC dhC 1000 20 312 [] (st0 [] (fun _ => 0))).val) (v := .agg (u64L [0, 0, 0, 0, 0, 1, 0, 0, 0, 0, 1, 0, 0, 0, 0, 0, 0, 0, 0, 0])) (by kernel_rfl) (fun h => by cases h)) (fun σ => den_agg (u64L_den _))).mono fun e w' h => ⟨h.1, only_of h.2⟩
theorem num2_any (W : World) : Calls Tryz.prog 291 #[.int .u32 2] W fun e W' => e = .returned (num5 2 (by decide)).val ∧ Pw.Only W W' [] :=
  (sym_calls (E := fun _ => 0) (ro := []) okt callsOK mixed hC_good dhC_good (args := [.int .u32 2]) (us := [.int .u32 2]) (fun σ => rfl) (by kernel_rfl) (by kernel_rfl) (fun _ _ h => by cases h) (val_of (x := (xcall Tryz.prog okT hC dhC 1000 20 291 [.int .u32 2] (st0 [] (fun _ => 0))).val) (v := .agg (u64L [2, 0, 0, 0, 0])) (by kernel_rfl) (fun h => by cases h)) (fun σ => den_agg (u64L_den _))).mono fun e w' h => ⟨h.1, only_of h.2⟩
theorem curve_any (W : World) : Calls Tryz.prog 313 #[] W fun e W' => e = .returned curve5.val ∧ Pw.Only W W' [] := (const_any curve_run W).mono fun e w' h => ⟨h.1, only_of h.2⟩
theorem sum5_any (p q : P4) (d : L5) (W : World) : Calls Tryz.prog 314 #[p.val, q.val, d.val] W fun e W' => e = .returned (sumS p q d).val ∧ Pw.Only W W' [] := (sum_any p q d W).mono fun e w' h => ⟨h.1, only_of h.2⟩

def P4.cs (p : P4) : List Value := p.x.val.cells.toList ++ (p.y.val.cells.toList ++ (p.z.val.cells.toList ++ p.t.val.cells.toList))
theorem P4.cs_len (p : P4) : p.cs.length = 20 := rfl
theorem P4.cs_one (p : P4) : p.cs.toArray.all (·.oneCell') = true := by rw [← Array.all_toList]; rfl
def L5.cs (x : L5) : List Value := x.val.cells.toList
theorem L5.cs_len (x : L5) : x.cs.length = 5 := rfl
theorem L5.cs_one (x : L5) : x.cs.toArray.all (·.oneCell') = true := by rw [← Array.all_toList]; rfl
def ns (bs : List Nat) : List Value := bs.map fun (n : Nat) => Value.int .u8 n
theorem P4.val_cs (p : P4) : p.val = .agg p.cs.toArray := rfl
theorem bit_and8 : ∀ c : Fin 256, (bits BinOp.and IntKind.u8 ((c.1 : Nat) : Int) 1 == 1) = Nat.beq (Nat.mod c.1 2) 1 := by decide +kernel
theorem nthN_of {l : List Nat} {i b : Nat} (h : l[i]? = some b) : nthN l i = b := by
  unfold nthN
  rw [nthL_eq, h]
  rfl
theorem bit8 {bs : List Nat} {j b : Nat} (h : bs[j / 8]? = some b) (hb : b < 256) : (bits BinOp.and IntKind.u8 ((b : Int) / 2 ^ (j % 8)) 1 == 1) = bitL 8 bs j := by
  have h1 := bit_and8 ⟨b / 2 ^ (j % 8), Nat.lt_of_le_of_lt (Nat.div_le_self _ _) hb⟩
  have e : (((b / 2 ^ (j % 8) : Nat)) : Int) = (b : Int) / 2 ^ (j % 8) := by
    rw [Int.natCast_ediv, Int.natCast_pow]
    rfl
  rw [← e]
  refine h1.trans ?_
  unfold bitL
  rw [show Nat.div j 8 = j / 8 from rfl, nthN_of h]
  rfl
theorem results_cell {P : Program} {fn : Func} {a t : Nat} (h : fn.results = #[.cell a t]) (tmps : Array Value) {b : Nat} (ha : tmps.getD a undef = .pointer (some ⟨b, 0, none⟩)) (cs : List Value) (d : TypeDesc) {w : World} {T : TypeId} {fr : Nat × Nat} (hc : w.heap[b]? = some (.cells cs.toArray T fr))
    (hu : P.underlying t = some d) (hd : d.isRow = true) (hi : (P.info? t).map (·.size) = some cs.length) : (results fn tmps).run P w = .ok (.agg cs.toArray) w := by
  have hl := run_loadVar_mid (P := P) w b 0 t cs d (Pw.block_range hc) hu hd hi
  have ha2 : tmps[a]?.getD undef = .pointer (some ⟨b, 0, none⟩) := by simpa using ha
  simp [results, h, ha2, asAddr, Sem.run_bind, hl]
open Go.Pw in
set_option maxHeartbeats 1600000 in
theorem times_gen (p o z : P4) (n2 c5 d2 z5 : L5) (R : P4) (bs : List Nat) (hl : bs.length = 32) (hb : ∀ x ∈ bs, x < 256)
    (hOr : ∀ W, Calls Tryz.prog 312 #[] W fun e W' => e = .returned o.val ∧ Pw.Only W W' [])
    (hNm : ∀ W, Calls Tryz.prog 291 #[.int .u32 2] W fun e W' => e = .returned n2.val ∧ Pw.Only W W' [])
    (hCv : ∀ W, Calls Tryz.prog 313 #[] W fun e W' => e = .returned c5.val ∧ Pw.Only W W' [])
    (hMl : ∀ W, Calls Tryz.prog 294 #[n2.val, c5.val] W fun e W' => e = .returned d2.val ∧ Pw.Only W W' [])
    (hz : ∀ w, (zeroValue 401).run Tryz.prog w = .ok z.val w) (hz5 : ∀ w, (zeroValue 399).run Tryz.prog w = .ok z5.val w)
    (HR : Hid (R = timesGo p d2 (bitsR 8 bs 256) o)) (w : World) :
    Calls Tryz.prog 275 #[p.val, .agg (bs.map fun (n : Nat) => Value.int .u8 n).toArray] w fun e w' => e = .returned R.val ∧ Pw.Only w w' [] := by
  go_enter Tryz.func275, Tryz.ntmps275
  go_wp2_with (first
    | (refine wpList_box_new rfl 401 _ rfl p.val rfl ?_; intro Pb w1 o1 g1 h1)
    | (refine wpList_box_new rfl 404 _ rfl (.agg (bs.map fun (n : Nat) => Value.int .u8 n).toArray) rfl ?_; intro Nb w2 o2 g2 h2)
    | (refine wpList_alloc_new rfl 401 rfl z.val hz ?_; intro Rb w3 o3 g3 h3))
  refine (hOr _).mono ?_
  rintro e w4 ⟨rfl, o4⟩
  go_wp2_with fail
  refine (hNm _).mono ?_
  rintro e w5 ⟨rfl, o5⟩
  go_wp2_with fail
  refine (hCv _).mono ?_
  rintro e w6 ⟨rfl, o6⟩
  go_wp2_with fail
  refine (hMl _).mono ?_
  rintro e w7 ⟨rfl, o7⟩
  have s1 : Sep w w1 [blk Pb p.cs 401] := (Sep.nil w).add o1 h1 (fun k hk => by simp [blk] at hk; omega)
  have s2 : Sep w w2 [blk Nb (ns bs) 404, blk Pb p.cs 401] := s1.add o2 h2 (fun k hk => by simp [blk] at hk; omega)
  have s3 : Sep w w3 [blk Rb z.cs 401, blk Nb (ns bs) 404, blk Pb p.cs 401] := s2.add o3 h3 (fun k hk => by simp [blk] at hk; omega)
  have s7 := (((s3.quiet o4).quiet o5).quiet o6).quiet o7
  clear s1 s2 s3 o1 o2 o3 o4 o5 o6 o7 h1 h2 h3 g1 g2 g3
  go_wp2_with (first
    | (refine wpList_alloc_new rfl 401 rfl z.val hz ?_; intro Ob w8 o8 g8 h8
       have s8 : Sep w w8 [blk Ob z.cs 401, blk Rb z.cs 401, blk Nb (ns bs) 404, blk Pb p.cs 401] := s7.add o8 h8 (fun k hk => by simp [blk] at hk; omega))
    | (refine wpList_alloc_new rfl 399 rfl z5.val hz5 ?_; intro Db w9 o9 g9 h9
       have s9 : Sep w w9 [blk Db z5.cs 399, blk Ob z.cs 401, blk Rb z.cs 401, blk Nb (ns bs) 404, blk Pb p.cs 401] := s8.add o9 h9 (fun k hk => by simp [blk] at hk; omega)
       have hO := (s9.sel 2 [1, 0]).head
       clear s7 s8 o8 o9 g8 g9 h8 h9)
    | (refine wpList_store_blk rfl 401 _ _ rfl Ob o.cs rfl rfl hO rfl (by kernel_rfl) o.cs_one ?_; intro wA oA hA
       have sA : Sep w wA [blk Ob o.cs 401, blk Db z5.cs 399, blk Rb z.cs 401, blk Nb (ns bs) 404, blk Pb p.cs 401] := (s9.sel 2 [1, 0]).step (L := [Ob]) oA (fun k hk => .inl (by simpa [blk] using hk)) hA (fun k hk => .inl (by simpa [blk] using hk))
       have hD := (sA.sel 2 [1, 0]).head
       clear s9 hO oA hA)
    | (refine wpList_store_blk rfl 399 _ _ rfl Db d2.cs rfl rfl hD rfl (by kernel_rfl) d2.cs_one ?_; intro wB oB hB
       have sB : Sep w wB [blk Db d2.cs 399, blk Ob o.cs 401, blk Rb z.cs 401, blk Nb (ns bs) 404, blk Pb p.cs 401] := (sA.sel 2 [1, 0]).step (L := [Db]) oB (fun k hk => .inl (by simpa [blk] using hk)) hB (fun k hk => .inl (by simpa [blk] using hk))
       clear sA hD oB hB))
  go_loopw [7] (fun i wr => ∃ (j : Nat) (acc : P4), i = .int .i64 ((j : Int) - 1) ∧ j ≤ 256 ∧ Sep w wr [blk Ob acc.cs 401, blk Db d2.cs 399, blk Rb z.cs 401, blk Nb (ns bs) 404, blk Pb p.cs 401] ∧ Hid (R = timesGo p d2 (bitsR 8 bs j) acc)) (fun i _ => (intOf i + 1).toNat)
  case atStart => exact ⟨256, o, rfl, by omega, sB.sel 2 [1, 0], HR⟩
  case round =>
    clear sB HR
    obtain ⟨j, acc, rfl, hj, hs, hr⟩ := hrel
    have hO := hs.head
    rcases j with _ | j
    · rw [show ((0 : Nat) : Int) - 1 = -1 from rfl]
      have hRb := (hs.sel 3 [2, 0, 1]).head
      go_wp2_with (first
        | (refine wpList_load_blk rfl 401 _ rfl Ob rfl acc.cs _ hO Tryz.underlying401 (by rfl) (by kernel_rfl) ?_)
        | (refine wpList_store_blk rfl 401 _ _ rfl Rb acc.cs rfl rfl hRb rfl (by kernel_rfl) acc.cs_one ?_; intro wE oE hE
           have sE : Sep w wE [blk Rb acc.cs 401, blk Ob acc.cs 401, blk Db d2.cs 399, blk Nb (ns bs) 404, blk Pb p.cs 401] := (hs.sel 3 [2, 0, 1]).step (L := [Rb]) oE (fun k hk => .inl (by simpa [blk] using hk)) hE (fun k hk => .inl (by simpa [blk] using hk))))
      have hr0 := hr.out
      clear hr hs hO hRb hz hz5
      refine bodyPost_ret (results_cell Tryz.results275 _ (b := Rb) rfl acc.cs _ hE Tryz.underlying401 (by rfl) (by kernel_rfl)) rfl ?_
      exact ⟨by rw [hr0]; rfl, sE.only⟩
    · rw [show ((j + 1 : Nat) : Int) - 1 = (j : Int) by omega]
      have hDh := (hs.sel 2 [1, 0]).head
      have hNh := (hs.sel 4 [3, 0, 1, 2]).head
      have hPh := (hs.sel 5 [4, 0, 1, 2, 3]).head
      have hlt : j / 8 < bs.length := by omega
      obtain ⟨b, hbj⟩ : ∃ b, bs[j / 8]? = some b := ⟨_, List.getElem?_eq_getElem hlt⟩
      have hb2 : b < 256 := hb b (List.mem_of_getElem? hbj)
      go_wp2_with (first
        | (refine wpList_load_blk rfl 401 _ rfl Ob rfl acc.cs _ hO Tryz.underlying401 (by rfl) (by kernel_rfl) ?_)
        | (refine wpList_load_blk rfl 399 _ rfl Db rfl d2.cs _ hDh Tryz.underlying399 (by rfl) (by kernel_rfl) ?_))
      refine (sum5_any acc acc d2 _).mono ?_
      rintro e wF ⟨rfl, oF⟩
      have sF := hs.quiet oF
      have hOF := sF.head
      have hcd := bit8 hbj hb2
      generalize hQ : sumS acc acc d2 = q at *
      cases hbit : bitL 8 bs j with
      | false =>
        rw [hbit] at hcd
        go_wp2_with (first
          | (refine wpList_store_blk rfl 401 _ _ rfl Ob q.cs rfl rfl hOF rfl (by kernel_rfl) q.cs_one ?_; intro wE oE hE
             have sE : Sep w wE [blk Ob q.cs 401, blk Db d2.cs 399, blk Rb z.cs 401, blk Nb (ns bs) 404, blk Pb p.cs 401] := sF.step (L := [Ob]) oE (fun k hk => .inl (by simpa [blk] using hk)) hE (fun k hk => .inl (by simpa [blk] using hk))
             have hx := (sE.sel 4 [3, 0, 1, 2]).head
             have hcb : wE.cell? ⟨Nb, j / 8, none⟩ = some (.int .u8 (b : Int)) := by rw [Pw.cell_in hx]; simp [ns, hbj]
             clear hx))
        go_roundw
        case rel => exact ⟨j, q, rfl, by omega, sE, by
          show R = _
          rw [hr.out]
          show timesGo p d2 (bitL 8 bs j :: bitsR 8 bs j) acc = _
          rw [hbit, ← hQ]
          rfl⟩
        case measure => simp [intOf]
      | true =>
        rw [hbit] at hcd
        go_wp2_with (first
          | (refine wpList_store_blk rfl 401 _ _ rfl Ob q.cs rfl rfl hOF rfl (by kernel_rfl) q.cs_one ?_; intro wE oE hE
             have sE : Sep w wE [blk Ob q.cs 401, blk Db d2.cs 399, blk Rb z.cs 401, blk Nb (ns bs) 404, blk Pb p.cs 401] := sF.step (L := [Ob]) oE (fun k hk => .inl (by simpa [blk] using hk)) hE (fun k hk => .inl (by simpa [blk] using hk))
             have hx := (sE.sel 4 [3, 0, 1, 2]).head
             have hcb : wE.cell? ⟨Nb, j / 8, none⟩ = some (.int .u8 (b : Int)) := by rw [Pw.cell_in hx]; simp [ns, hbj]
             have hD2 := (sE.sel 2 [1, 0]).head
             have hP2 := (sE.sel 5 [4, 0, 1, 2, 3]).head
             clear hx)
          | (refine wpList_load_blk rfl 401 _ rfl Ob rfl q.cs _ hE Tryz.underlying401 (by rfl) (by kernel_rfl) ?_)
          | (refine wpList_load_blk rfl 401 _ rfl Pb rfl p.cs _ hP2 Tryz.underlying401 (by rfl) (by kernel_rfl) ?_)
          | (refine wpList_load_blk rfl 399 _ rfl Db rfl d2.cs _ hD2 Tryz.underlying399 (by rfl) (by kernel_rfl) ?_))
        refine (sum5_any q p d2 _).mono ?_
        rintro e wG ⟨rfl, oG⟩
        have sG := sE.quiet oG
        have hOG := sG.head
        generalize hQ2 : sumS q p d2 = q2 at *
        clear hcb hcd hE hD2 hP2 hOF
        go_wp2_with (first
          | (refine wpList_store_blk rfl 401 _ _ rfl Ob q2.cs rfl rfl hOG rfl (by kernel_rfl) q2.cs_one ?_; intro wH oH hH
             have sH : Sep w wH [blk Ob q2.cs 401, blk Db d2.cs 399, blk Rb z.cs 401, blk Nb (ns bs) 404, blk Pb p.cs 401] := sG.step (L := [Ob]) oH (fun k hk => .inl (by simpa [blk] using hk)) hH (fun k hk => .inl (by simpa [blk] using hk))))
        go_roundw
        case rel => exact ⟨j, q2, rfl, by omega, sH, by
          show R = _
          rw [hr.out]
          show timesGo p d2 (bitL 8 bs j :: bitsR 8 bs j) acc = _
          rw [hbit, ← hQ2, ← hQ]
          rfl⟩
        case measure => simp [intOf]
theorem times_any (p : P4) (bs : List Nat) (hl : bs.length = 32) (hb : ∀ x ∈ bs, x < 256) (w : World) :
    Calls Tryz.prog 275 #[p.val, .agg (bs.map fun (n : Nat) => Value.int .u8 n).toArray] w fun e w' => e = .returned (timesS p bs).val ∧ Pw.Only w w' [] :=
  times_gen p origin zero4 (num5 2 (by decide)) curve5 twice5 (num5 0 (by decide)) (timesS p bs) bs hl hb origin_any num2_any curve_any (mul5_any _ _) (fun w => by kernel_rfl) (fun w => by kernel_rfl) (Lib.hid rfl) w
--WALK

/-! The hook. -/
noncomputable def R4.avs (p : R4) : List AV := p.x.avs ++ (p.y.avs ++ (p.z.avs ++ p.t.avs))
theorem R5.avs_denL {σ : Env} (x : L5) : denL σ x.raw.avs = some x.val.cells.toList := by
  have h := R5.avs_den (σ := σ) x.raw
  simp only [den] at h
  split at h
  · rename_i l hl
    rw [hl]
    have h2 := Option.some.inj h
    injection h2 with h2
    have : l = x.val.cells.toList := by
      rw [show l = l.toArray.toList from (by simp), h2]
      rfl
    rw [this]
  · cases h
theorem R4.avs_den {σ : Env} (p : P4) : den σ (.agg p.raw.avs) = some p.val := by
  simp only [den, R4.avs, P4.raw]
  rw [denL_append (R5.avs_denL p.x) (denL_append (R5.avs_denL p.y) (denL_append (R5.avs_denL p.z) (R5.avs_denL p.t)))]
  rfl
noncomputable def gTimes : List AV → Option AV
  | [x, .agg l] => match pt4 x, byteL l with
    | some p, some bs => bif Nat.beq (lenL bs) 32 && Bool.not p.1 then some (.agg (timesK p.2.raw twice5.raw (bitsR 8 bs 256) origin.raw).avs) else none
    | _, _ => none
  | _ => none
theorem times_fn : fnOf Tryz.prog 275 = some (ntOf Tryz.prog 275, bodyOf Tryz.prog 275, resultsOf Tryz.prog 275) := by kernel_rfl
theorem times_good : HkGood Tryz.prog (pureHook 275 gTimes) := by
  obtain ⟨fn, h1, _, h3, _⟩ := fnOf_ok times_fn
  refine fHook_good ⟨fn, _, h1, h3⟩ fun args v σ us w hg hd => ?_
  unfold gTimes at hg
  split at hg
  · rename_i x l
    split at hg
    · rename_i p bs hp hbs
      cases hc : (Nat.beq (lenL bs) 32 && Bool.not p.1) with
      | false => rw [hc] at hg; cases hg
      | true =>
        rw [hc] at hg
        obtain rfl := Option.some.inj hg
        have hl := nbeq (and3 hc).1
        rw [lenL_eq2] at hl
        obtain ⟨u1, l1, rfl, k1, hd⟩ := denL_cons hd
        obtain ⟨u2, l2, rfl, k2, hd⟩ := denL_cons hd
        obtain rfl := denL_nil hd
        obtain rfl := pt4_den hp k1
        simp only [den] at k2
        split at k2
        · rename_i us hus
          obtain rfl := Option.some.inj k2
          obtain ⟨rfl, hb, _⟩ := byteL_den hbs hus
          refine ⟨(timesS p.2 bs).val, ?_, (times_any p.2 bs hl hb w).mono fun e w' h => ⟨h.1, onlyB_of h.2⟩⟩
          rw [timesK_eq]
          exact R4.avs_den _
        · cases k2
    · cases hg
  · cases hg
end Go.Proofs.YtjfmelmiegnmjaaGreatDoor

/- Numbers below the order: out of bytes; products: reckoned. -/
open Go Go.Sx Go.Proofs Go.RowKit
set_option linter.all false
namespace Go.Proofs.YtjfmelmiegnmjaaGreatDoor
set_option maxRecDepth 100000

def numGo (b : List Nat) : List Bool → List Nat → List Nat
  | [], o => o
  | t :: l, o => numGo b l (match t with | true => addS8 nA (addS8 nA o o) b | false => addS8 nA o o)
noncomputable def wo8 {α : Type} (l : List Nat) (k : List Nat → α) : α := match l with
  | [a0, a1, a2, a3, a4, a5, a6, a7] => wo a0 fun a0 => wo a1 fun a1 => wo a2 fun a2 => wo a3 fun a3 => wo a4 fun a4 => wo a5 fun a5 => wo a6 fun a6 => wo a7 fun a7 => k [a0, a1, a2, a3, a4, a5, a6, a7]
  | l => k l
theorem wo8_eq {α : Type} (l : List Nat) (k : List Nat → α) : wo8 l k = k l := by
  unfold wo8
  split
  · simp only [wo_eq]
  · rfl
noncomputable def addF8 {α : Type} (a b : List Nat) (k : List Nat → α) : α := wo8 (sumG nA 0 a b) fun s => match ltL (rev8 s) (rev8 ordL) with
  | true => k s
  | false => wo8 (difG nA 0 s ordL) k
theorem addF8_eq {α : Type} (a b : List Nat) (k : List Nat → α) : addF8 a b k = k (addS8 nA a b) := by
  unfold addF8 addS8
  rw [wo8_eq]
  cases h : ltL (rev8 (sumG nA 0 a b)) (rev8 ordL)
  · rw [if_neg (by simp)]
    exact wo8_eq _ _
  · rw [if_pos rfl]
noncomputable def numK (b : List Nat) : List Bool → List Nat → List Nat
  | [], o => o
  | t :: l, o => addF8 o o fun q => match t with
    | true => addF8 q b fun r => numK b l r
    | false => numK b l q
theorem numK_eq (b : List Nat) : ∀ (l : List Bool) (o : List Nat), numK b l o = numGo b l o
  | [], o => rfl
  | t :: l, o => by
    show (addF8 o o fun q => match t with
      | true => addF8 q b fun r => numK b l r
      | false => numK b l q) = _
    rw [addF8_eq]
    cases t
    · exact numK_eq b l _
    · show (addF8 (addS8 nA o o) b fun r => numK b l r) = _
      rw [addF8_eq]
      exact numK_eq b l _

/-- Eight words. -/
def Eight (l : List Nat) : Prop := l.length = 8 ∧ ∀ n ∈ l, n < um .u32
theorem Eight.ex {l : List Nat} (h : Eight l) : ∃ a0 a1 a2 a3 a4 a5 a6 a7, l = [a0, a1, a2, a3, a4, a5, a6, a7] := by
  obtain ⟨h, _⟩ := h
  match l, h with
  | [a0, a1, a2, a3, a4, a5, a6, a7], _ => exact ⟨a0, a1, a2, a3, a4, a5, a6, a7, rfl⟩
theorem sumG_ok : ∀ (c : Nat) (a b : List Nat), a.length = b.length → (sumG nA c a b).length = a.length ∧ ∀ n ∈ sumG nA c a b, n < um .u32
  | c, [], [], _ => ⟨rfl, fun n h => by cases h⟩
  | c, a :: xs, b :: ys, h => by
    have h : xs.length = ys.length := by simpa using h
    refine ⟨congrArg Nat.succ (sumG_ok _ xs ys h).1, fun n hn => ?_⟩
    rcases List.mem_cons.1 hn with rfl | hn
    · exact Nat.mod_lt _ (by decide)
    · exact (sumG_ok _ xs ys h).2 n hn
theorem difG_ok : ∀ (c : Nat) (a b : List Nat), a.length = b.length → (difG nA c a b).length = a.length ∧ ∀ n ∈ difG nA c a b, n < um .u32
  | c, [], [], _ => ⟨rfl, fun n h => by cases h⟩
  | c, a :: xs, b :: ys, h => by
    have h : xs.length = ys.length := by simpa using h
    refine ⟨congrArg Nat.succ (difG_ok _ xs ys h).1, fun n hn => ?_⟩
    rcases List.mem_cons.1 hn with rfl | hn
    · exact Nat.mod_lt _ (by decide)
    · exact (difG_ok _ xs ys h).2 n hn
theorem Eight.add {a b : List Nat} (ha : Eight a) (hb : Eight b) : Eight (addS8 nA a b) := by
  have h1 := sumG_ok 0 a b (ha.1.trans hb.1.symm)
  have e1 : Eight (sumG nA 0 a b) := ⟨h1.1.trans ha.1, h1.2⟩
  unfold addS8
  split
  · exact e1
  · have h2 := difG_ok 0 (sumG nA 0 a b) ordL (e1.1.trans rfl)
    exact ⟨h2.1.trans e1.1, h2.2⟩
def zeroL : List Nat := [0, 0, 0, 0, 0, 0, 0, 0]
def oneL : List Nat := [1, 0, 0, 0, 0, 0, 0, 0]
theorem zero_8 : Eight zeroL := ⟨rfl, by decide⟩
theorem one_8 : Eight oneL := ⟨rfl, by decide⟩
def v8 (l : List Nat) : Value := .agg (l.map fun (n : Nat) => Value.int .u32 n).toArray
theorem add8_v {a b : List Nat} (ha : Eight a) (hb : Eight b) (W : World) : Calls Tryz.prog 281 #[v8 a, v8 b] W fun e W' => e = .returned (v8 (addS8 nA a b)) ∧ Pw.Only W W' [] :=
  (add8_hold a b ha.ex hb.ex ha.2 hb.2 W).mono fun e w' h => ⟨h.1, only_of h.2⟩
/-BEGIN-/
def c8 (l : List Nat) : List Value := l.map fun (n : Nat) => Value.int .u32 n
theorem c8_len {l : List Nat} (h : Eight l) : (c8 l).length = 8 := by simp [c8, h.1]
theorem c8_one (l : List Nat) : (c8 l).toArray.all (·.oneCell') = true := by
  rw [← Array.all_toList, List.all_eq_true]
  intro v hv
  obtain ⟨n, _, rfl⟩ := List.mem_map.1 hv
  rfl
theorem wpList_build_eq {P : Program} {ops : Array Oper} {rest : List Oper} {o : Oper} {a : Act} {w : World} {Q : Exit → Act → World → Prop} (hg : o.guard = none) (t : TypeId) (parts : Array (Nat × Operand)) (ho : o.op = .build t parts) (cells : Array Value)
    (hf : P.built t (parts.map fun (i, x) => (i, a.eval x)).toList = some cells) (h : wpList P ops Q rest (a.put o.dst (.agg cells)) w) : wpList P ops Q (o :: rest) a w :=
  wpList_build hg t parts ho (by rw [hf]; rfl) (by rw [hf]; exact h)
theorem and_1 (c : Nat) (h : c < 4294967296) : (bits BinOp.and IntKind.u32 (c : Int) 1 == 1) = Nat.beq (Nat.mod c 2) 1 := by
  have e : bits BinOp.and IntKind.u32 (c : Int) 1 = ((c % 2 : Nat) : Int) := by
    have h2 := u32_and_nat c 1 h (by decide)
    have h3 := Nat.and_two_pow_sub_one_eq_mod c 1
    rw [show (2 ^ 1 - 1 : Nat) = 1 from rfl] at h3
    rw [h3] at h2
    exact h2
  rw [e]
  show (((c % 2 : Nat) : Int) == 1) = Nat.beq (c % 2) 1
  rcases Nat.mod_two_eq_zero_or_one c with h | h <;> rw [h] <;> rfl
theorem bit32 {bs : List Nat} {j b : Nat} (h : bs[j / 32]? = some b) (hb : b < um .u32) : (bits BinOp.and IntKind.u32 ((b : Int) / 2 ^ (j % 32)) 1 == 1) = bitL 32 bs j := by
  have h1 := and_1 (b / 2 ^ (j % 32)) (Nat.lt_of_le_of_lt (Nat.div_le_self _ _) hb)
  have e : (((b / 2 ^ (j % 32) : Nat)) : Int) = (b : Int) / 2 ^ (j % 32) := by
    rw [Int.natCast_ediv, Int.natCast_pow]
    rfl
  rw [← e]
  refine h1.trans ?_
  unfold bitL
  rw [show Nat.div j 32 = j / 32 from rfl, nthN_of h]
  rfl

open Go.Pw in
set_option maxHeartbeats 1600000 in
theorem prod_gen (a b z : List Nat) (ha : Eight a) (hb8 : Eight b) (hz8 : Eight z) (hz : ∀ w, (zeroValue 395).run Tryz.prog w = .ok (v8 z) w) (R : List Nat) (HR : Hid (R = numGo b (bitsR 32 a 256) z)) (w : World) :
    Calls Tryz.prog 279 #[v8 a, v8 b] w fun e w' => e = .returned (v8 R) ∧ Pw.Only w w' [] := by
  go_enter Tryz.func279, Tryz.ntmps279
  go_wp2_with (first
    | (have hq := s3; refine wpList_alloc_new rfl 395 rfl (v8 z) hz ?_; intro Ob w4 o4 g4 h4
       have s4 : Sep w w4 [blk Ob (c8 z) 395, blk Rb (c8 z) 395, blk Bb (c8 b) 395, blk Ab (c8 a) 395] := s3.add o4 h4 (fun k hk => by simp [blk] at hk; omega))
    | (have hq := s2; refine wpList_alloc_new rfl 395 rfl (v8 z) hz ?_; intro Rb w3 o3 g3 h3
       have s3 : Sep w w3 [blk Rb (c8 z) 395, blk Bb (c8 b) 395, blk Ab (c8 a) 395] := s2.add o3 h3 (fun k hk => by simp [blk] at hk; omega))
    | (have hq := s1; refine wpList_box_new rfl 395 _ rfl (v8 b) rfl ?_; intro Bb w2 o2 g2 h2
       have s2 : Sep w w2 [blk Bb (c8 b) 395, blk Ab (c8 a) 395] := s1.add o2 h2 (fun k hk => by simp [blk] at hk; omega))
    | (refine wpList_box_new rfl 395 _ rfl (v8 a) rfl ?_; intro Ab w1 o1 g1 h1
       have s1 : Sep w w1 [blk Ab (c8 a) 395] := (Sep.nil w).add o1 h1 (fun k hk => by simp [blk] at hk; omega)))
  go_loopw [6] (fun i wr => ∃ (j : Nat) (acc : List Nat), i = .int .i64 ((j : Int) - 1) ∧ j ≤ 256 ∧ Eight acc ∧ Sep w wr [blk Ob (c8 acc) 395, blk Rb (c8 z) 395, blk Bb (c8 b) 395, blk Ab (c8 a) 395] ∧ Hid (R = numGo b (bitsR 32 a j) acc)) (fun i _ => (intOf i + 1).toNat)
  case atStart => exact ⟨256, z, rfl, by omega, hz8, s4, HR⟩
  case round =>
    clear s4 s3 HR s2 s1
    obtain ⟨j, acc, rfl, hj, ha8, hs, hr⟩ := hrel
    have hO := hs.head
    rcases j with _ | j
    · rw [show ((0 : Nat) : Int) - 1 = -1 from rfl]
      have hRb := (hs.sel 2 [1, 0]).head
      go_wp2_with (first
        | (refine wpList_load_blk rfl 395 _ rfl Ob rfl (c8 acc) _ hO Tryz.underlying395 (by rfl) (by rw [c8_len ha8]; kernel_rfl) ?_)
        | (refine wpList_store_blk rfl 395 _ _ rfl Rb (c8 acc) rfl rfl hRb (by simp [c8_len hz8, c8_len ha8]) (by rw [c8_len ha8]; kernel_rfl) (c8_one _) ?_; intro wE oE hE
           have sE : Sep w wE [blk Rb (c8 acc) 395, blk Ob (c8 acc) 395, blk Bb (c8 b) 395, blk Ab (c8 a) 395] := (hs.sel 2 [1, 0]).step (L := [Rb]) oE (fun k hk => .inl (by simpa [blk] using hk)) hE (fun k hk => .inl (by simpa [blk] using hk))))
      have hr0 := hr.out
      clear hr hs hO hRb hz
      refine bodyPost_ret (results_cell Tryz.results279 _ (b := Rb) rfl (c8 acc) _ hE Tryz.underlying395 (by rfl) (by rw [c8_len ha8]; kernel_rfl)) rfl ?_
      exact ⟨by rw [hr0]; rfl, sE.only⟩
    · rw [show ((j + 1 : Nat) : Int) - 1 = (j : Int) by omega]
      have hlt : j / 32 < a.length := by rw [ha.1]; omega
      obtain ⟨x, hx⟩ : ∃ x, a[j / 32]? = some x := ⟨_, List.getElem?_eq_getElem hlt⟩
      have hcd := bit32 hx (ha.2 x (List.mem_of_getElem? hx))
      go_wp2_with (refine wpList_load_blk rfl 395 _ rfl Ob rfl (c8 acc) _ hO Tryz.underlying395 (by rfl) (by rw [c8_len ha8]; kernel_rfl) ?_)
      refine (add8_v ha8 ha8 _).mono ?_
      rintro e wF ⟨rfl, oF⟩
      have sF := hs.quiet oF
      have hOF := sF.head
      have hq8 := ha8.add ha8
      generalize hQ : addS8 nA acc acc = q at *
      cases hbit : bitL 32 a j with
      | false =>
        rw [hbit] at hcd
        go_wp2_with (first
          | (refine wpList_store_blk rfl 395 _ _ rfl Ob (c8 q) rfl rfl hOF (by simp [c8_len ha8, c8_len hq8]) (by rw [c8_len hq8]; kernel_rfl) (c8_one _) ?_; intro wE oE hE
             have sE : Sep w wE [blk Ob (c8 q) 395, blk Rb (c8 z) 395, blk Bb (c8 b) 395, blk Ab (c8 a) 395] := sF.step (L := [Ob]) oE (fun k hk => .inl (by simpa [blk] using hk)) hE (fun k hk => .inl (by simpa [blk] using hk))
             have hA := (sE.sel 4 [3, 0, 1, 2]).head
             have hcb : wE.cell? ⟨Ab, j / 32, none⟩ = some (.int .u32 (x : Int)) := by rw [Pw.cell_in hA]; simp [c8, hx]
             clear hA))
        go_roundw
        case rel => exact ⟨j, q, rfl, by omega, hq8, sE, by
          show R = _
          rw [hr.out]
          show numGo b (bitL 32 a j :: bitsR 32 a j) acc = _
          rw [hbit, ← hQ]
          rfl⟩
        case measure => simp [intOf]
      | true =>
        rw [hbit] at hcd
        go_wp2_with (first
          | (refine wpList_store_blk rfl 395 _ _ rfl Ob (c8 q) rfl rfl hOF (by simp [c8_len ha8, c8_len hq8]) (by rw [c8_len hq8]; kernel_rfl) (c8_one _) ?_; intro wE oE hE
             have sE : Sep w wE [blk Ob (c8 q) 395, blk Rb (c8 z) 395, blk Bb (c8 b) 395, blk Ab (c8 a) 395] := sF.step (L := [Ob]) oE (fun k hk => .inl (by simpa [blk] using hk)) hE (fun k hk => .inl (by simpa [blk] using hk))
             have hA := (sE.sel 4 [3, 0, 1, 2]).head
             have hcb : wE.cell? ⟨Ab, j / 32, none⟩ = some (.int .u32 (x : Int)) := by rw [Pw.cell_in hA]; simp [c8, hx]
             clear hA
             have hB2 := (sE.sel 3 [2, 0, 1]).head)
          | (refine wpList_load_blk rfl 395 _ rfl Ob rfl (c8 q) _ hE Tryz.underlying395 (by rfl) (by rw [c8_len hq8]; kernel_rfl) ?_)
          | (refine wpList_load_blk rfl 395 _ rfl Bb rfl (c8 b) _ hB2 Tryz.underlying395 (by rfl) (by rw [c8_len hb8]; kernel_rfl) ?_))
        refine (add8_v hq8 hb8 _).mono ?_
        rintro e wG ⟨rfl, oG⟩
        have sG := sE.quiet oG
        have hOG := sG.head
        have hq9 := hq8.add hb8
        generalize hQ2 : addS8 nA q b = q2 at *
        clear hcb hcd hE hOF hB2
        go_wp2_with (first
          | (refine wpList_store_blk rfl 395 _ _ rfl Ob (c8 q2) rfl rfl hOG (by simp [c8_len hq8, c8_len hq9]) (by rw [c8_len hq9]; kernel_rfl) (c8_one _) ?_; intro wH oH hH
             have sH : Sep w wH [blk Ob (c8 q2) 395, blk Rb (c8 z) 395, blk Bb (c8 b) 395, blk Ab (c8 a) 395] := sG.step (L := [Ob]) oH (fun k hk => .inl (by simpa [blk] using hk)) hH (fun k hk => .inl (by simpa [blk] using hk))))
        go_roundw
        case rel => exact ⟨j, q2, rfl, by omega, hq9, sH, by
          show R = _
          rw [hr.out]
          show numGo b (bitL 32 a j :: bitsR 32 a j) acc = _
          rw [hbit, ← hQ2, ← hQ]
          rfl⟩
        case measure => simp [intOf]
theorem prod_any (a b : List Nat) (ha : Eight a) (hb : Eight b) (w : World) : Calls Tryz.prog 279 #[v8 a, v8 b] w fun e w' => e = .returned (v8 (numGo b (bitsR 32 a 256) zeroL)) ∧ Pw.Only w w' [] :=
  prod_gen a b zeroL ha hb zero_8 (fun w => by kernel_rfl) _ (Lib.hid rfl) w
open Go.Pw in
set_option maxHeartbeats 1600000 in
theorem number_gen (z u : List Nat) (hz8 : Eight z) (hu : Eight u) (bs : List Nat) (hlen : bs.length ≤ 64) (hb : ∀ x ∈ bs, x < 256) (B of T c : Nat) (w : World) (hrow : RowAt w B of T bs) (hz : ∀ w, (zeroValue 395).run Tryz.prog w = .ok (v8 z) w) (hbd : Tryz.prog.built 395 [(0, .int .u32 1)] = some (c8 u).toArray) (R : List Nat) (HR : Hid (R = numGo u (bitsR 8 bs (8 * bs.length)) z)) :
    Calls Tryz.prog 272 #[.slice (some ⟨B, of, none⟩) bs.length c] w fun e w' => e = .returned (v8 R) ∧ Pw.Only w w' [] := by
  obtain ⟨rcs, rfr, hr1, hr2, hr3, hr4⟩ := hrow.at_
  obtain ⟨n, hn⟩ : ∃ n, n = bs.length := ⟨_, rfl⟩
  rw [← hn] at HR hlen hr3 ⊢
  have j1 : IntKind.i64.wrap (8 * (n : Int)) = 8 * (n : Int) := IntWalk.i64_in _ (by omega)
  have j2 : IntKind.i64.wrap (8 * (n : Int) - 1) = 8 * (n : Int) - 1 := IntWalk.i64_in _ (by omega)
  go_enter Tryz.func272, Tryz.ntmps272
  go_wp2_with (first
    | (have hq := s3; refine wpList_alloc_new rfl 395 rfl (v8 z) hz ?_; intro Ob w4 o4 g4 h4
       have s4 : Sep w w4 [blk Ob (c8 z) 395, blk Rb (c8 z) 395] := s3.add o4 h4 (fun k hk => by simp [blk] at hk; omega))
    | (refine wpList_alloc_new rfl 395 rfl (v8 z) hz ?_; intro Rb w3 o3 g3 h3
       have s3 : Sep w w3 [blk Rb (c8 z) 395] := (Sep.nil w).add o3 h3 (fun k hk => by simp [blk] at hk; omega)))
  go_loopw [4] (fun i wr => ∃ (j : Nat) (acc : List Nat), i = .int .i64 ((j : Int) - 1) ∧ j ≤ (8 * n) ∧ Eight acc ∧ Sep w wr [blk Ob (c8 acc) 395, blk Rb (c8 z) 395] ∧ Hid (R = numGo u (bitsR 8 bs j) acc)) (fun i _ => (intOf i + 1).toNat)
  case atStart => exact ⟨8 * n, z, by simp [hn], by omega, hz8, s4, HR⟩
  case round =>
    clear s4 s3 HR
    obtain ⟨j, acc, rfl, hj, ha8, hs, hr⟩ := hrel
    have hO := hs.head
    rcases j with _ | j
    · rw [show ((0 : Nat) : Int) - 1 = -1 from rfl]
      have hRb := (hs.sel 2 [1, 0]).head
      go_wp2_with (first
        | (refine wpList_load_blk rfl 395 _ rfl Ob rfl (c8 acc) _ hO Tryz.underlying395 (by rfl) (by rw [c8_len ha8]; kernel_rfl) ?_)
        | (refine wpList_store_blk rfl 395 _ _ rfl Rb (c8 acc) rfl rfl hRb (by simp [c8_len hz8, c8_len ha8]) (by rw [c8_len ha8]; kernel_rfl) (c8_one _) ?_; intro wE oE hE
           have sE : Sep w wE [blk Rb (c8 acc) 395, blk Ob (c8 acc) 395] := (hs.sel 2 [1, 0]).step (L := [Rb]) oE (fun k hk => .inl (by simpa [blk] using hk)) hE (fun k hk => .inl (by simpa [blk] using hk))))
      have hr0 := hr.out
      clear hr hs hO hRb hz
      refine bodyPost_ret (results_cell Tryz.results272 _ (b := Rb) rfl (c8 acc) _ hE Tryz.underlying395 (by rfl) (by rw [c8_len ha8]; kernel_rfl)) rfl ?_
      exact ⟨by rw [hr0]; rfl, sE.only⟩
    · rw [show ((j + 1 : Nat) : Int) - 1 = (j : Int) by omega]
      have hlt : j / 8 < bs.length := by omega
      obtain ⟨x, hx⟩ : ∃ x, bs[j / 8]? = some x := ⟨_, List.getElem?_eq_getElem hlt⟩
      have hcd := bit8 hx (hb x (List.mem_of_getElem? hx))
      have hcl : ∀ w', Only w w' [] → w'.cell? ⟨B, of + j / 8, none⟩ = some (.int .u8 (x : Int)) := fun w' ho => (ho.cell_in hr1 (by simp) _).trans (hr4 _ _ hx)
      have i0 : (0 : Int) ≤ (j : Int) / 8 := by omega
      have i1 : (j : Int) / 8 < (n : Int) := by omega
      have i2 : ((j : Int) / 8).toNat = j / 8 := by omega
      go_wp2_with (refine wpList_load_blk rfl 395 _ rfl Ob rfl (c8 acc) _ hO Tryz.underlying395 (by rfl) (by rw [c8_len ha8]; kernel_rfl) ?_)
      refine (add8_v ha8 ha8 _).mono ?_
      rintro e wF ⟨rfl, oF⟩
      have sF := hs.quiet oF
      have hOF := sF.head
      have hq8 := ha8.add ha8
      generalize hQ : addS8 nA acc acc = q at *
      cases hbit : bitL 8 bs j with
      | false =>
        rw [hbit] at hcd
        go_wp2_with (first
          | (refine wpList_store_blk rfl 395 _ _ rfl Ob (c8 q) rfl rfl hOF (by simp [c8_len ha8, c8_len hq8]) (by rw [c8_len hq8]; kernel_rfl) (c8_one _) ?_; intro wE oE hE
             have sE : Sep w wE [blk Ob (c8 q) 395, blk Rb (c8 z) 395] := sF.step (L := [Ob]) oE (fun k hk => .inl (by simpa [blk] using hk)) hE (fun k hk => .inl (by simpa [blk] using hk))
             have hcb := hcl wE sE.only))
        go_roundw
        case rel => exact ⟨j, q, rfl, by omega, hq8, sE, by
          show R = _
          rw [hr.out]
          show numGo u (bitL 8 bs j :: bitsR 8 bs j) acc = _
          rw [hbit, ← hQ]
          rfl⟩
        case measure => simp [intOf]
      | true =>
        rw [hbit] at hcd
        go_wp2_with (first
          | (refine wpList_store_blk rfl 395 _ _ rfl Ob (c8 q) rfl rfl hOF (by simp [c8_len ha8, c8_len hq8]) (by rw [c8_len hq8]; kernel_rfl) (c8_one _) ?_; intro wE oE hE
             have sE : Sep w wE [blk Ob (c8 q) 395, blk Rb (c8 z) 395] := sF.step (L := [Ob]) oE (fun k hk => .inl (by simpa [blk] using hk)) hE (fun k hk => .inl (by simpa [blk] using hk))
             have hcb := hcl wE sE.only)
          | (refine wpList_load_blk rfl 395 _ rfl Ob rfl (c8 q) _ hE Tryz.underlying395 (by rfl) (by rw [c8_len hq8]; kernel_rfl) ?_)
          | (refine wpList_build_eq rfl 395 #[(0, .const (.int .u32 1))] rfl (c8 u).toArray (by simp only [List.map_toArray, List.map_cons, List.map_nil]; exact hbd) ?_))
        refine (add8_v hq8 hu _).mono ?_
        rintro e wG ⟨rfl, oG⟩
        have sG := sE.quiet oG
        have hOG := sG.head
        have hq9 := hq8.add hu
        generalize hQ2 : addS8 nA q u = q2 at *
        clear hcb hcd hE hOF
        go_wp2_with (first
          | (refine wpList_store_blk rfl 395 _ _ rfl Ob (c8 q2) rfl rfl hOG (by simp [c8_len hq8, c8_len hq9]) (by rw [c8_len hq9]; kernel_rfl) (c8_one _) ?_; intro wH oH hH
             have sH : Sep w wH [blk Ob (c8 q2) 395, blk Rb (c8 z) 395] := sG.step (L := [Ob]) oH (fun k hk => .inl (by simpa [blk] using hk)) hH (fun k hk => .inl (by simpa [blk] using hk))))
        go_roundw
        case rel => exact ⟨j, q2, rfl, by omega, hq9, sH, by
          show R = _
          rw [hr.out]
          show numGo u (bitL 8 bs j :: bitsR 8 bs j) acc = _
          rw [hbit, ← hQ2, ← hQ]
          rfl⟩
        case measure => simp [intOf]
theorem number_any (bs : List Nat) (hlen : bs.length ≤ 64) (hb : ∀ x ∈ bs, x < 256) (B of T c : Nat) (w : World) (hrow : RowAt w B of T bs) : Calls Tryz.prog 272 #[.slice (some ⟨B, of, none⟩) bs.length c] w fun e w' => e = .returned (v8 (numGo oneL (bitsR 8 bs (8 * bs.length)) zeroL)) ∧ Pw.Only w w' [] :=
  number_gen zeroL oneL zero_8 one_8 bs hlen hb B of T c w hrow (fun w => by kernel_rfl) (by kernel_rfl) _ (Lib.hid rfl)
--WALK

/-! The hooks. -/
noncomputable def gNum (args : List AV) (bs : List Nat) : Option AV := match args with
  | [_] => bif Nat.ble (lenL bs) 64 then some (.agg (back32 (numK oneL (bitsR 8 bs (Nat.mul 8 (lenL bs))) zeroL))) else none
  | _ => none
theorem number_fn : fnOf Tryz.prog 272 = some (ntOf Tryz.prog 272, bodyOf Tryz.prog 272, resultsOf Tryz.prog 272) := by kernel_rfl
theorem number_good : HkGood Tryz.prog (rdHook 272 0 [] gNum) := by
  obtain ⟨fn, h1, _, h3, _⟩ := fnOf_ok number_fn
  refine rdHook_good rfl rfl ⟨fn, _, h1, h3⟩ fun args v bs σ us w id off len cp l T E hj hg hd hl hlen hb hr ht => ?_
  unfold gNum at hg
  split at hg
  · cases h64 : Nat.ble (lenL bs) 64 with
    | false => rw [h64] at hg; cases hg
    | true =>
      rw [h64] at hg
      obtain rfl := Option.some.inj hg
      have h64 := Nat.le_of_ble_eq_true h64
      rw [lenL_eq2] at h64 ⊢
      obtain ⟨u, l1, rfl, hx, hd⟩ := denL_cons hd
      obtain rfl := denL_nil hd
      obtain rfl := Option.some.inj hj
      simp only [den, hl, Option.map_some, Option.some.injEq] at hx
      subst hx
      subst hlen
      refine ⟨v8 (numGo oneL (bitsR 8 bs (8 * bs.length)) zeroL), ?_, (number_any bs h64 hb l.blk (l.base + off) T _ w hr).mono fun e w' h => ⟨h.1, onlyB_of h.2⟩⟩
      rw [numK_eq]
      simp only [den, back32_den]
      rfl
  · cases hg
noncomputable def gProd : List AV → Option AV
  | [.agg x, .agg y] => match eight x, eight y with
    | some a, some b => some (.agg (back32 (numK b (bitsR 32 a 256) zeroL)))
    | _, _ => none
  | _ => none
theorem prod_fn : fnOf Tryz.prog 279 = some (ntOf Tryz.prog 279, bodyOf Tryz.prog 279, resultsOf Tryz.prog 279) := by kernel_rfl
theorem prod_good : HkGood Tryz.prog (pureHook 279 gProd) := by
  obtain ⟨fn, h1, _, h3, _⟩ := fnOf_ok prod_fn
  refine fHook_good ⟨fn, _, h1, h3⟩ fun args v σ us w hg hd => ?_
  unfold gProd at hg
  split at hg
  · split at hg
    · rename_i a b ha hb
      obtain rfl := Option.some.inj hg
      obtain ⟨u, l1, rfl, hx, hd⟩ := denL_cons hd
      obtain ⟨u', l2, rfl, hy, hd⟩ := denL_cons hd
      obtain rfl := denL_nil hd
      simp only [den] at hx hy
      split at hx
      · rename_i us1 hl1
        obtain rfl := Option.some.inj hx
        split at hy
        · rename_i us2 hl2
          obtain rfl := Option.some.inj hy
          obtain ⟨rfl, a0, a1, a2, a3, a4, a5, a6, a7, rfl, la⟩ := eight_den ha hl1
          obtain ⟨rfl, b0, b1, b2, b3, b4, b5, b6, b7, rfl, lb⟩ := eight_den hb hl2
          refine ⟨v8 (numGo [b0, b1, b2, b3, b4, b5, b6, b7] (bitsR 32 [a0, a1, a2, a3, a4, a5, a6, a7] 256) zeroL), ?_, (prod_any _ _ ⟨rfl, la⟩ ⟨rfl, lb⟩ w).mono fun e w' h => ⟨h.1, onlyB_of h.2⟩⟩
          rw [numK_eq]
          simp only [den, back32_den]
          rfl
        · cases hy
      · cases hx
    · cases hg
  · cases hg
/-- All of the crypto's hooks, the great loops too. -/
noncomputable def hCN : Hk := hor hC (hor (pureHook 275 gTimes) (hor (rdHook 272 0 [] gNum) (pureHook 279 gProd)))
theorem hCN_good : HkGood Tryz.prog hCN := HkGood.or hC_good (HkGood.or times_good (HkGood.or number_good prod_good))
end Go.Proofs.YtjfmelmiegnmjaaGreatDoor
