/- The operations on the heap: loads, stores, new blocks. No program. -/
import Derived.Test.YtlnekpnopjgbfaaGreatDoorXSa
import Derived.Laws.IdiomStrings
import Derived.Laws.AppendOwn
import Derived.MapKept
import Derived.OrdersIn
import Derived.RangeFuncLeaves
import Derived.RecoverIn
set_option linter.all false
namespace Go.Sx
set_option linter.unusedVariables false

def Env.put (σ : Env) (n : Nat) (l : Loc) : Env := fun i => if i = n then some l else σ i

theorem Env.put_same (σ : Env) (n : Nat) (l : Loc) : σ.put n l n = some l := by simp [Env.put]
theorem Env.put_other (σ : Env) (n : Nat) (l : Loc) {i : Nat} (h : i ≠ n) : σ.put n l i = σ i := by simp [Env.put, h]
theorem Env.le_put {σ : Env} {n : Nat} (l : Loc) (h : σ n = none) : σ.le (σ.put n l) := fun i x e => by
  have : i ≠ n := fun he => by subst he; rw [h] at e; cases e
  rw [Env.put_other σ n l this, e]

def Eff.top (n : Nat) : Eff → Nat
  | .v _ => n
  | .w _ _ _ => n
  | .n _ _ => n + 1
  | .k _ _ _ => n + 1

/-- What an operation's effect is in the world. -/
def EffOK (σ : Env) (n : Nat) (w : World) (σ' : Env) (w' : World) : Eff → Prop
  | .v _ => σ' = σ ∧ OnlyB w w' (fun _ => False)
  | .w _ id b => σ' = σ ∧ ∃ l, σ id = some l ∧ OnlyB w w' (· = l.blk) ∧ BlkOK σ w' id b
  | .n _ b => ∃ l, σ' = σ.put n l ∧ w.heap.size ≤ l.blk ∧ OnlyB w w' (fun _ => False) ∧ BlkOK σ' w' n b
  | .k _ id b => ∃ l0 l, σ id = some l0 ∧ σ' = σ.put n l ∧ (w.heap.size ≤ l.blk ∨ l.blk = l0.blk) ∧ OnlyB w w' (· = l0.blk) ∧ BlkOK σ' w' n b

def YieldsV (P : Program) (ρ : Operand → Value) (o : Oper) (w : World) (u : Value) (w' : World) : Prop :=
  (execOp ρ o).run P w = .ok (.value u) w' ∨ ((execOp ρ o).run P w = .ok .skip w' ∧ u = undef)

/-- An operation does what is said of it. -/
def ActOK (P : Program) (σ : Env) (ρ : Operand → Value) (o : Oper) (a : Act1) : Prop :=
  ∀ (w : World) (g : Nat → Option Blk) (n : Nat) (e : Eff), a.run g n = some e → (n < e.top n → σ n = none) → (∀ id ∈ a.reqs, ∀ b, g id = some b → BlkOK σ w id b) →
    ∃ u σ' w', YieldsV P ρ o w u w' ∧ den σ' e.val = some u ∧ EffOK σ n w σ' w' e

section
variable {P : Program} {okT : Nat → Bool} {σ : Env} {t : Tr AV} {ρ : Operand → Value}

theorem act_val {o : Oper} {v : AV} {u : Value} (hu : den σ v = some u) (hrun : ∀ w, (execOp ρ o).run P w = .ok (.value u) w) : ActOK P σ ρ o (.val v) := by
  intro w g n e he hn hr
  obtain rfl := Option.some.inj he
  exact ⟨u, σ, w, Or.inl (hrun w), hu, rfl, OnlyB.refl _ _⟩

theorem packAV_unrow : ∀ {vs : List AV} {x : Nat}, packAV vs = some x → unrow x vs.length = vs
  | [], x, h => rfl
  | v :: l, x, h => by
    unfold packAV at h
    split at h
    · rename_i heq; cases heq
    · rename_i b l' heq
      injection heq with h1 h2
      subst h1
      subst h2
      cases hb : Nat.blt b 256 with
      | false => rw [hb] at h; cases h
      | true =>
        rw [hb] at h
        simp only [cond_true] at h
        split at h
        · rename_i r hr
          obtain rfl := Option.some.inj h
          have hlt := blt_of hb
          have e1 : (Nat.add b (Nat.mul 256 r)) % 256 = b := by simp only [Nat.add_eq, Nat.mul_eq]; omega
          have e2 : (Nat.add b (Nat.mul 256 r)) / 256 = r := by simp only [Nat.add_eq, Nat.mul_eq]; omega
          show byteAV (Nat.add b (Nat.mul 256 r) % 256) :: unrow (Nat.add b (Nat.mul 256 r) / 256) l.length = _
          rw [e1, e2, packAV_unrow hr]
          rfl
        · cases h
    · cases h

theorem packR_toL (vs : List AV) : (packR vs).toL = vs := by
  unfold packR
  split
  · rename_i x hx; exact packAV_unrow hx
  · rfl

theorem unrow_one : ∀ (n x : Nat), (unrow x n).all AV.one = true
  | 0, _ => rfl
  | n + 1, x => by
    show (AV.one (byteAV _) && (unrow (x / 256) n).all AV.one) = true
    rw [unrow_one n]; rfl

theorem oneC_all {c : Cont} (h : oneC c = true) : c.toL.all AV.one = true := by
  cases c with
  | cells vs => exact h
  | bytes n x => exact unrow_one n x
  | map => rfl
  | txt => cases h

theorem elemOf_spec {e size bytes : Nat} {z : List AV} (h : elemOf P e = some (size, bytes, z)) :
    ∃ i zu, P.info? e = some i ∧ i.zero = some zu ∧ i.size = size ∧ i.bytes = bytes ∧ 0 < size ∧ z.length = size ∧ z.all AV.one = true ∧ (∀ σ, denL σ z = some zu.cells.toList) := by
  unfold elemOf at h
  split at h
  · rename_i i hi
    split at h
    · rename_i zu hz
      split at h
      · rename_i zv hzv
        cases hb : (Nat.blt 0 i.size && Nat.beq (cellsOf zv).length i.size && (cellsOf zv).all AV.one) with
        | false => rw [hb] at h; cases h
        | true =>
          rw [hb] at h
          obtain ⟨rfl, rfl, rfl⟩ : i.size = size ∧ i.bytes = bytes ∧ cellsOf zv = z := by simpa using h
          simp only [Bool.and_eq_true] at hb
          exact ⟨i, zu, hi, hz, rfl, rfl, blt_of hb.1.1, beqN hb.1.2, hb.2, fun σ => cells_den (ofV_den σ zu zv hzv)⟩
      · cases h
    · cases h
  · cases h

/-- A new row of cells. -/
theorem eff_new {w w' : World} {n el sl cap : Nat} {c : Cont} {cs : Array Value} {fr : Nat × Nat} {us : List Value} (hn : σ n = none) (ho : OnlyB w w' (fun _ => False))
    (hh : w'.heap[w.heap.size]? = some (.cells cs el fr)) (hf : FrS sl fr cs.size) (hc : c.isMap = false) (h1 : c.toL.all AV.one = true) (hd : denL σ c.toL = some us) (hl : us.length ≤ cs.size)
    (hu : ∀ (i : Nat) (u : Value), us[i]? = some u → cs[i]? = some u) (hs : sl ≠ 0 → cs.size = cap * sl ∧ cap ≤ 9223372036854775807) (v : AV) :
    EffOK σ n w (σ.put n ⟨w.heap.size, 0, cap⟩) w' (.n v (.mk el sl c)) :=
  ⟨⟨w.heap.size, 0, cap⟩, rfl, Nat.le_refl _, ho, _, _, Env.put_same _ _ _, hh, ((objOK_row hc).2 ⟨cs, fr, us, rfl, hf, hd, h1, by simpa using hl, fun i u h => by simpa using hu i u h, fun h => by simpa using hs h⟩ : ObjOK σ _ _ _).mono (Env.le_put _ hn)⟩

theorem alloc_only (w : World) (o : Obj) : OnlyB w (w.alloc o) (fun _ => False) := ⟨rfl, rfl, rfl, by show w.heap.size ≤ (w.heap.push o).size; simp, fun k hk _ => by show (w.heap.push o)[k]? = _; rw [Array.getElem?_push, if_neg (by omega)]⟩
theorem alloc_new (w : World) (o : Obj) : (w.alloc o).heap[w.heap.size]? = some o := by show (w.heap.push o)[w.heap.size]? = _; simp

/-- A new variable: what the symbolic machine says of it. -/
theorem act_new {o : Oper} {el : Nat} {c : Cont} {cs : Array Value} {f : Nat → AV} {g : World → Value} (hc : c.isMap = false) (hd : denL σ c.toL = some cs.toList)
    (hrun : ∀ w, (execOp ρ o).run P w = .ok (.value (g w)) (w.alloc (.cells cs el)))
    (hv : ∀ (n : Nat) (w : World), σ n = none → den (σ.put n ⟨w.heap.size, 0, 0⟩) (f n) = some (g w)) : ActOK P σ ρ o (.new (.mk el 0 c) f) := by
  intro w gg n e he hn hr
  simp only [Act1.run, runNew] at he
  cases h1 : oneC c with
  | false => rw [h1] at he; cases he
  | true =>
    rw [h1] at he
    obtain rfl := Option.some.inj he
    exact ⟨g w, _, _, Or.inl (hrun w), hv n w (hn (Nat.lt_succ_self _)), eff_new (hn (Nat.lt_succ_self _)) (alloc_only _ _) (alloc_new _ _) ⟨Or.inl rfl, fun _ => rfl⟩ hc (oneC_all h1) hd (by simp) (fun i u h => by simpa using h) (fun h => absurd rfl h) _⟩

theorem isMap_toC (r : Row) : r.toC.isMap = false := by cases r <;> rfl

theorem ptr_new {σ : Env} {n : Nat} (w : World) (cap : Nat) : den (σ.put n ⟨w.heap.size, 0, cap⟩) (.ptr n 0) = some (.pointer (some ⟨w.heap.size, 0, none⟩)) := by
  simp [den, Env.put_same]

theorem run_newVar (T : Nat) (v : Value) (w : World) : (newVar T v).run P w = .ok ⟨w.heap.size, 0, none⟩ (w.alloc (.cells v.cells T)) := rfl

theorem act_alloc (he : EvOK P σ t ρ) {o : Oper} {T : Nat} (ho : o.op = .alloc T) {f} (hf : cAlloc P T = some (.act f)) {a} (ha : f t = some a) : ActOK P σ ρ o a := by
  unfold cAlloc at hf
  split at hf
  · rename_i size bytes z hz
    simp only [Option.some.injEq, CO.act.injEq] at hf
    subst hf
    obtain rfl := Option.some.inj ha
    obtain ⟨i, zu, h1, h2, h3, h4, h5, h6, h7, h8⟩ := elemOf_spec hz
    have key : ∀ c : Cont, c.isMap = false → c.toL = z → ActOK P σ ρ o (.new (.mk T 0 c) fun id => .ptr id 0) := by
      intro c hc hl
      refine act_new (cs := zu.cells) (g := fun w => .pointer (some ⟨w.heap.size, 0, none⟩)) hc (by rw [hl]; exact h8 σ) (fun w => ?_) (fun n w _ => ptr_new w 0)
      have hz0 : (zeroValue T).run P w = .ok zu w := by simp [zeroValue, typeInfo, h1, h2]
      have : (Instr.alloc T true (.tuple #[])).run P w = .ok (.pointer (some ⟨w.heap.size, 0, none⟩)) (w.alloc (.cells zu.cells T)) := by
        unfold Instr.alloc
        simp only [Sem.run_bind, hz0, Result.andThen_ok, run_newVar, Sem.run_pure]
      simp only [execOp, ho]
      rw [Sem.run_bind, this]
      rfl
    split
    · exact key _ (isMap_toC _) (by rw [Row.toC_eq, packR_toL])
    · exact key _ rfl rfl
  · cases hf

theorem act_box (he : EvOK P σ t ρ) {o : Oper} {T : Nat} {x : Operand} (ho : o.op = .box T x) {f} (hf : cBox P T x = some (.act f)) {a} (ha : f t = some a) : ActOK P σ ρ o a := by
  unfold cBox at hf
  split at hf
  · rename_i x' hx
    simp only [a1, Option.some.injEq, CO.act.injEq] at hf
    subst hf
    have hd := he _ _ hx
    have key : ∀ c : Cont, c.isMap = false → c.toL = cellsOf (ev x' t) → ActOK P σ ρ o (.new (.mk T 0 c) fun id => .ptr id 0) := by
      intro c hc hl
      refine act_new (cs := (ρ x).cells) (g := fun w => .pointer (some ⟨w.heap.size, 0, none⟩)) hc (by rw [hl]; exact cells_den hd) (fun w => ?_) (fun n w _ => ptr_new w 0)
      simp only [execOp, ho, Instr.box]
      simp only [Sem.run_bind, run_newVar, Result.andThen_ok, Sem.run_pure]
    cases hby : isByte P T with
    | true =>
      rw [hby] at ha
      simp only [boxF] at ha
      split at ha
      · cases ha
      · obtain rfl := Option.some.inj ha
        exact key _ (isMap_toC _) (by rw [Row.toC_eq, packR_toL])
    | false =>
      rw [hby] at ha
      simp only [boxF] at ha
      split at ha
      · cases ha
      · obtain rfl := Option.some.inj ha
        exact key _ rfl rfl
  · cases hf

theorem act_load (he : EvOK P σ t ρ) {o : Oper} {T : Nat} {x : Operand} (ho : o.op = .load T x) {f} (hf : cLoad P T x = some (.act f)) {a} (ha : f t = some a) : ActOK P σ ρ o a := by
  have fin : ∀ {w : World} {u : Value}, (Instr.loadAt T (ρ x)).run P w = .ok u w → (execOp ρ o).run P w = .ok (.value u) w := by
    intro w u h
    simp only [execOp, ho]
    rw [Sem.run_bind, h]
    rfl
  unfold cLoad at hf
  split at hf
  · rename_i x' n hx hag hn
    simp only [a1, Option.some.injEq, CO.act.injEq] at hf
    subst hf
    have hd := he _ _ hx
    simp only [loadF] at ha
    split at ha
    · rename_i id off hq
      obtain rfl := Option.some.inj ha
      intro w g m e hrun hm hr
      rw [hq] at hd
      simp only [den, Option.map_eq_some_iff] at hd
      obtain ⟨l, hl, hptr⟩ := hd
      simp only [Act1.run, runLoad] at hrun
      split at hrun
      · rename_i el sl c hg
        split at hrun
        · rename_i r hcut
          obtain rfl := Option.some.inj hrun
          have hb := hr id (by simp [Act1.reqs]) _ hg
          obtain ⟨l', us, k1, k2, k3, k4, k5⟩ := hb.range hcut
          obtain rfl : l = l' := by rw [hl] at k1; exact Option.some.inj k1
          refine ⟨.agg us.toArray, σ, w, Or.inl (fin ?_), by simp only [Eff.val, den, k2], rfl, OnlyB.refl _ _⟩
          have hlc : (loadCells ⟨l.blk, l.base + off, none⟩ n).run P w = .ok us.toArray w := by
            rw [← k3]
            exact run_loadCells_list w _ us (fun j v hv => by rw [Addr.add_mid]; exact k5 j v hv)
          rw [← hptr]
          simp only [Instr.loadAt, Instr.sureAddr, Sem.run_bind, Sem.run_pure, Result.andThen_ok, loadVar, run_isAgg hag, if_true, run_sizeOf hn, hlc]
        · cases hrun
      · cases hrun
    · cases ha
  · rename_i x' n hx hag hn
    simp only [a1, Option.some.injEq, CO.act.injEq] at hf
    subst hf
    have hd := he _ _ hx
    simp only [loadF] at ha
    split at ha
    · rename_i id off hq
      obtain rfl := Option.some.inj ha
      intro w g m e hrun hm hr
      rw [hq] at hd
      simp only [den, Option.map_eq_some_iff] at hd
      obtain ⟨l, hl, hptr⟩ := hd
      simp only [Act1.run, runLoad] at hrun
      split at hrun
      · rename_i el sl c hg
        split at hrun
        · rename_i v hcut
          obtain rfl := Option.some.inj hrun
          have hb := hr id (by simp [Act1.reqs]) _ hg
          obtain ⟨l', u, k1, k2, k3, k4⟩ := hb.cell hcut
          obtain rfl : l = l' := by rw [hl] at k1; exact Option.some.inj k1
          refine ⟨u, σ, w, Or.inl (fin ?_), k2, rfl, OnlyB.refl _ _⟩
          rw [← hptr]
          simp only [Instr.loadAt, Instr.sureAddr, Sem.run_bind, Sem.run_pure, Result.andThen_ok, loadVar, run_isAgg hag, Bool.false_eq_true, if_false, run_load, k4]
        · cases hrun
      · cases hrun
    · cases ha
  · cases hf

theorem act_store (he : EvOK P σ t ρ) {o : Oper} {T : Nat} {y x : Operand} (ho : o.op = .store T y x) {f} (hf : cStore P T y x = some (.act f)) {a} (ha : f t = some a) : ActOK P σ ρ o a := by
  unfold cStore at hf
  split at hf
  · rename_i y' x' n hy hx hn
    simp only [a2, Option.some.injEq, CO.act.injEq] at hf
    subst hf
    have hdy := he _ _ hy
    have hdx := he _ _ hx
    simp only [storeF] at ha
    split at ha
    · rename_i id off hq
      cases hb : Nat.beq (cellsOf (ev x' t)).length n with
      | false => rw [hb] at ha; cases ha
      | true =>
        rw [hb] at ha
        obtain rfl := Option.some.inj ha
        have hlen := beqN hb
        rw [hq] at hdy
        simp only [den, Option.map_eq_some_iff] at hdy
        obtain ⟨l, hl, hptr⟩ := hdy
        have hcx := cells_den hdx
        have hcl := denL_length hcx
        simp only [Array.length_toList] at hcl
        intro w g m e hrun hm hr
        have fin : ∀ {c c' : Cont} {el sl : Nat}, BlkOK σ w id (.mk el sl c) → c.isMap = false → c'.isMap = false → (cellsOf (ev x' t)).all AV.one = true → off + (cellsOf (ev x' t)).length ≤ c.toL.length →
            c'.toL = c.toL.take off ++ cellsOf (ev x' t) ++ c.toL.drop (off + (cellsOf (ev x' t)).length) →
            ∃ u σ' w', YieldsV P ρ o w u w' ∧ den σ' (.tup []) = some u ∧ EffOK σ m w σ' w' (.w (.tup []) id (.mk el sl c')) := by
          intro c c' el sl hblk hc hc' h1 hfit heq
          obtain ⟨l', k1, k2, k3, k4⟩ := hblk.store (P := P) hc hc' hcx h1 hfit heq
          obtain rfl : l = l' := by rw [hl] at k1; exact Option.some.inj k1
          refine ⟨undef, σ, _, Or.inr ⟨?_, rfl⟩, rfl, rfl, l, hl, k3, k4⟩
          have hs : (storeVar T ⟨l.blk, l.base + off, none⟩ (ρ x)).run P w = .ok () (w.setCells l.blk (l.base + off) (ρ x).cells.toList) := by
            unfold storeVar
            simp only [Sem.run_bind, run_sizeOf hn, Result.andThen_ok]
            rw [if_neg (by simp; omega)]
            exact k2
          simp only [execOp, ho, ← hptr, Instr.storeAt, Instr.sureAddr]
          simp only [Sem.run_bind, Sem.run_pure, Result.andThen_ok, hs]
        simp only [Act1.run, runStore] at hrun
        split at hrun
        · rename_i el sl c hg
          have hblk := hr id (by simp [Act1.reqs]) _ hg
          split at hrun
          · rename_i cs hv
            cases h1 : cs.all AV.one with
            | false => rw [h1] at hrun; cases hrun
            | true =>
              rw [h1] at hrun
              simp only [cond_true] at hrun
              split at hrun
              · rename_i c' hlay
                obtain rfl := Option.some.inj hrun
                have hmap := isMap_of_lay hlay
                obtain ⟨k1, k2⟩ := Cont.lay_eq hlay
                have hr0 : (rowFor c cs).toL = cs := by unfold rowFor; split <;> first | exact packR_toL cs | rfl
                rw [hr0] at k1 k2
                have hcs : cellsOf (ev x' t) = cs := by rw [hv]; rfl
                have hc' : c'.isMap = false := by
                  unfold Cont.lay at hlay
                  simp only [cond_eq_ite] at hlay
                  split at hlay
                  · split at hlay
                    · obtain rfl := Option.some.inj hlay; exact isMap_toC _
                    · cases hlay
                  · cases hlay
                exact fin hblk hmap hc' (by rw [hcs]; exact h1) (by rw [hcs]; exact k1) (by rw [hcs]; exact k2)
              · cases hrun
          · cases hrun
          · rename_i v' hna hnt
            split at hrun
            · rename_i c' hset
              obtain rfl := Option.some.inj hrun
              have hmap := isMap_of_set1 hset
              obtain ⟨k1, k2⟩ := Cont.set1_eq hset
              have hcs : cellsOf (ev x' t) = [ev x' t] := by
                cases hh : ev x' t <;> first | rfl | exact absurd hh (hna _)
              have h1 : (ev x' t).one = true := by
                cases hh : ev x' t <;> first | rfl | exact absurd hh (hna _) | exact absurd hh (hnt _)
              have hc' : c'.isMap = false := by
                cases c with
                | map => cases hset
                | txt => cases hset
                | cells vs =>
                  have h' : (match setL (ev x' t) vs off with | some l => some (Cont.cells l) | none => none) = some c' := hset
                  split at h'
                  · obtain rfl := Option.some.inj h'; rfl
                  · cases h'
                | bytes n x =>
                  have key : ∀ r, (Cont.bytes n x).lay off r = some c' → c'.isMap = false := by
                    intro r hlay
                    unfold Cont.lay at hlay
                    simp only [cond_eq_ite] at hlay
                    split at hlay
                    · split at hlay
                      · obtain rfl := Option.some.inj hlay; exact isMap_toC _
                      · cases hlay
                    · cases hlay
                  unfold Cont.set1 at hset
                  simp only at hset
                  split at hset
                  · simp only [cond_eq_ite] at hset
                    split at hset <;> exact key _ hset
                  · exact key _ hset
              exact fin hblk hmap hc' (by rw [hcs]; simp [h1]) (by rw [hcs]; simp; omega) (by rw [hcs, k2, set_eq_take _ _ _ k1]; rfl)
            · cases hrun
        · cases hrun
    · cases ha
  · cases hf
end
end Go.Sx

/- New slices, conversions, slices of slices. No program. -/
namespace Go.Sx
set_option linter.unusedVariables false
section
variable {P : Program} {okT : Nat → Bool} {σ : Env} {t : Tr AV} {ρ : Operand → Value}

/-! ### Rows of zeros -/
def replV (z : List Value) : Nat → List Value
  | 0 => []
  | n + 1 => z ++ replV z n

theorem repl_den {z : List AV} {zv : List Value} (h : denL σ z = some zv) : ∀ n, denL σ (repl z n) = some (replV zv n)
  | 0 => rfl
  | n + 1 => denL_append h (repl_den h n)

theorem replV_length (z : List Value) : ∀ n, (replV z n).length = n * z.length
  | 0 => by simp [replV]
  | n + 1 => by simp [replV, replV_length z n, Nat.add_mul]; omega

theorem repl_one {z : List AV} (h : z.all AV.one = true) : ∀ n, (repl z n).all AV.one = true
  | 0 => rfl
  | n + 1 => by simp only [repl, List.all_append, h, repl_one h n, Bool.and_self]

theorem range_zero (zc : Array Value) : ∀ n, (List.range (n * zc.size)).map (fun i => zc[i % zc.size]!) = replV zc.toList n
  | 0 => by simp [replV]
  | n + 1 => by
    rw [Nat.add_mul, Nat.one_mul, Nat.add_comm, List.range_add, List.map_append, List.map_map]
    rw [replV]
    congr 1
    · apply List.ext_getElem?
      intro i
      rw [List.getElem?_map]
      by_cases hi : i < zc.size
      · rw [List.getElem?_range hi]
        simp [Nat.mod_eq_of_lt hi, hi]
      · simp [hi]
    · rw [← range_zero zc n]
      apply List.map_congr_left
      intro i _
      simp

theorem zeroCells_toList (zc : Array Value) (n : Nat) : (Builtin.zeroCells zc n).toList = replV zc.toList n := by
  unfold Builtin.zeroCells
  rw [Array.toList_map, Array.toList_range, range_zero]

/-- A new row of cells, all of them known, from a world that the draws alone may have turned. -/
theorem act_newS {o : Oper} {el : Nat} {c : Cont} {cs : Array Value} {f : Nat → AV} {g : World → Value} (hc : c.isMap = false) (hd : denL σ c.toL = some cs.toList)
    (hrun : ∀ w, (execOp ρ o).run P w = .ok (.value (g w)) (w.alloc (.cells cs el)))
    (hv : ∀ (n : Nat) (w : World), σ n = none → den (σ.put n ⟨w.heap.size, 0, 0⟩) (f n) = some (g w)) : ActOK P σ ρ o (.new (.mk el 0 c) f) := act_new hc hd hrun hv

theorem slc_new {σ : Env} {n : Nat} (w : World) (len c : Nat) : den (σ.put n ⟨w.heap.size, 0, 0⟩) (.slc n 0 len (.lit c)) = some (.slice (some ⟨w.heap.size, 0, none⟩) len c) := by
  simp [den, Env.put_same, capDen]

theorem act_buildS (he : EvOK P σ t ρ) {o : Oper} {T len : Nat} {parts : Array (Nat × Operand)} (ho : o.op = .buildSlice T len parts) {f} (hf : cBuildS P T len parts.toList = some (.act f)) {a} (ha : f t = some a) : ActOK P σ ρ o a := by
  have hmap : (parts.map fun (i, x) => (i, ρ x)).toList = parts.toList.map fun (i, x) => (i, ρ x) := by simp
  unfold cBuildS at hf
  split at hf
  · rename_i e ps hu hps
    split at hf
    · rename_i s by_ z hz
      cases hb : Nat.ble (Nat.mul len s) 16777216 with
      | false => rw [hb] at hf; cases hf
      | true =>
        rw [hb] at hf
        have hle := ble_of hb
        simp only [Nat.mul_eq] at hle
        simp only [cond_true, Option.some.injEq, CO.act.injEq] at hf
        subst hf
        obtain ⟨i, zu, h1, h2, h3, h4, h5, h6, h7, h8⟩ := elemOf_spec hz
        have hzs : zu.cells.size = s := by
          have := denL_length (h8 σ)
          simp only [Array.length_toList] at this
          omega
        unfold buildS at ha
        split at ha
        · rename_i cs hcs
          obtain rfl := Option.some.inj ha
          have hzrow : denL σ (repl z len) = some (Builtin.zeroCells zu.cells len).toList := by rw [zeroCells_toList]; exact repl_den (h8 σ) len
          obtain ⟨rs, k1, k2⟩ := fillL_run (σ := σ) _ _ _ _ hcs _ (Builtin.zeroCells zu.cells len) (evP_ok he hps) hzrow
          have hz0 : ∀ w, (zeroValue e).run P w = .ok zu w := fun w => by simp [zeroValue, typeInfo, h1, h2]
          have hsz : ∀ w, (Go.sizeOf e).run P w = .ok s w := fun w => by simp [Go.sizeOf, typeInfo, h1, h3]
          have key : ∀ c : Cont, c.isMap = false → c.toL = cs → ActOK P σ ρ o (.new (.mk e 0 c) fun id => .slc id 0 len (.lit len)) := by
            intro c hc hl
            refine act_newS (cs := rs) (g := fun w => .slice (some ⟨w.heap.size, 0, none⟩) len len) hc (by rw [hl]; exact k2) (fun w => ?_) (fun n w _ => slc_new w _ _)
            have hrow : ∀ w, (newRow e rs).run P w = .ok ⟨w.heap.size, 0, none⟩ (w.alloc (.cells rs e)) := fun w => rfl
            have : (Instr.buildSlice T len (parts.map fun (i, x) => (i, ρ x))).run P w = .ok (.slice (some ⟨w.heap.size, 0, none⟩) len len) (w.alloc (.cells rs e)) := by
              unfold Instr.buildSlice
              simp only [Sem.run_bind, run_underlying hu, Result.andThen_ok, hsz]
              rw [if_neg (by omega)]
              by_cases h0 : len * s = 0
              · have hlen : len = 0 := by
                  rcases Nat.mul_eq_zero.1 h0 with h | h
                  · exact h
                  · omega
                subst hlen
                simp only [Nat.zero_mul, if_true, Sem.run_bind, Sem.run_pure, Result.andThen_ok, hmap]
                have e0 : (Array.map (fun x => (#[] : Array Value)[x % (#[] : Array Value).size]!) (Array.range 0)) = Builtin.zeroCells zu.cells 0 := by simp [Builtin.zeroCells]
                rw [e0]
                simp only [Nat.mul_eq] at k1
                rw [k1]
                simp only [Sem.run_bind, hrow, Result.andThen_ok, Sem.run_pure]
              · rw [if_neg h0]
                simp only [Sem.run_bind, hz0, Sem.run_pure, Result.andThen_ok, hmap]
                have e0 : (Array.map (fun x => zu.cells[x % zu.cells.size]!) (Array.range (len * s))) = Builtin.zeroCells zu.cells len := by simp [Builtin.zeroCells, hzs]
                rw [e0]
                simp only [Nat.mul_eq] at k1
                rw [k1]
                simp only [Sem.run_bind, hrow, Result.andThen_ok, Sem.run_pure]
            simp only [execOp, ho]
            rw [Sem.run_bind, this]
            rfl
          split
          · exact key _ (isMap_toC _) (by rw [Row.toC_eq, packR_toL])
          · exact key _ rfl rfl
        · cases ha
    · cases hf
  · cases hf

theorem unrow_zero : ∀ n, unrow 0 n = repl [byteAV 0] n
  | 0 => rfl
  | n + 1 => by
    show byteAV (0 % 256) :: unrow (0 / 256) n = [byteAV 0] ++ repl [byteAV 0] n
    rw [← unrow_zero n]
    rfl

set_option maxRecDepth 20000 in
theorem act_makeS (he : EvOK P σ t ρ) {o : Oper} {T : Nat} {l c : Operand} (ho : o.op = .makeSlice T l c) {f} (hf : cMakeS P T l c = some (.act f)) {a} (ha : f t = some a) : ActOK P σ ρ o a := by
  unfold cMakeS at hf
  split at hf
  · rename_i e l' c' hu hl hc
    split at hf
    · rename_i size bytes z hz
      simp only [a2, Option.some.injEq, CO.act.injEq] at hf
      subst hf
      obtain ⟨i, zu, h1, h2, h3, h4, h5, h6, h7, h8⟩ := elemOf_spec hz
      have hzs : zu.cells.size = size := by
        have := denL_length (h8 σ)
        simp only [Array.length_toList] at this
        omega
      have hdl := he _ _ hl
      have hdc := he _ _ hc
      simp only [mkSlice] at ha
      split at ha
      · rename_i j1 ln j2 cp hq1 hq2
        cases hb : (Nat.ble ln cp && Nat.ble (Nat.mul cp (Nat.succ bytes)) bigRoom) with
        | false => rw [hb] at ha; cases ha
        | true =>
          rw [hb] at ha
          simp only [cond_true] at ha
          simp only [Bool.and_eq_true] at hb
          have hle := ble_of hb.1
          have hfit : cp * (bytes + 1) ≤ 140737488355328 := ble_of hb.2
          rw [hq1] at hdl
          rw [hq2] at hdc
          have hdl : Value.int j1 (Int.ofNat ln) = ρ l := Option.some.inj hdl
          have hdc : Value.int j2 (Int.ofNat cp) = ρ c := Option.some.inj hdc
          obtain rfl := Option.some.inj ha
          have hz0 : ∀ w, (zeroValue e).run P w = .ok zu w := fun w => by simp [zeroValue, typeInfo, h1, h2]
          have hsz : ∀ w, (Go.sizeOf e).run P w = .ok size w := fun w => by simp [Go.sizeOf, typeInfo, h1, h3]
          have hti : ∀ w, (typeInfo e).run P w = .ok i w := fun w => by simp [typeInfo, h1]
          have hcb : cp * bytes + cp ≤ 140737488355328 := by rw [Nat.mul_add, Nat.mul_one] at hfit; exact hfit
          have key : ∀ ct : Cont, ct.isMap = false → ct.toL = repl z cp → ActOK P σ ρ o (.new (.mk e 0 ct) fun id => .slc id 0 ln (.lit cp)) := by
            intro ct hct hl
            refine act_newS (cs := Builtin.zeroCells zu.cells cp) (g := fun w => .slice (some ⟨w.heap.size, 0, none⟩) ln cp) hct (by rw [hl, zeroCells_toList]; exact repl_den (h8 σ) cp) (fun w => ?_) (fun n w _ => slc_new w _ _)
            have hrow : ∀ w, (newRow e (Builtin.zeroCells zu.cells cp)).run P w = .ok ⟨w.heap.size, 0, none⟩ (w.alloc (.cells (Builtin.zeroCells zu.cells cp) e)) := fun w => rfl
            have w1 : IntKind.i64.wrap (ln : Int) = (ln : Int) := by
              simp only [IntKind.wrap, IntKind.bits, IntKind.signed, Bool.true_and]
              rw [if_neg (by simp; omega)]
              simp; omega
            have w2 : IntKind.i64.wrap (cp : Int) = (cp : Int) := by
              simp only [IntKind.wrap, IntKind.bits, IntKind.signed, Bool.true_and]
              rw [if_neg (by simp; omega)]
              simp; omega
            have hbc : ((i.bytes : Int) * (cp : Int)) ≤ 140737488355328 := by
              rw [h4, Int.mul_comm]
              have hn : cp * bytes ≤ 140737488355328 := by omega
              have hz := Int.ofNat_le.2 hn
              rw [Int.natCast_mul] at hz
              exact hz
            have : (Instr.makeSlice T (.int j1 (Int.ofNat ln)) (.int j2 (Int.ofNat cp))).run P w = .ok (.slice (some ⟨w.heap.size, 0, none⟩) ln cp) (w.alloc (.cells (Builtin.zeroCells zu.cells cp) e)) := by
              have ha1 : ∀ w, (asInt (.int j1 (Int.ofNat ln))).run P w = .ok (ln : Int) w := fun w => rfl
              have ha2 : ∀ w, (asInt (.int j2 (Int.ofNat cp))).run P w = .ok (cp : Int) w := fun w => rfl
              unfold Instr.makeSlice
              rw [Sem.run_bind, run_underlying hu, Result.andThen_ok, Sem.run_bind, ha1, Result.andThen_ok, Sem.run_bind, ha2, Result.andThen_ok, Sem.run_bind, hti, Result.andThen_ok]
              rw [w1, w2]
              rw [if_neg (by simp; omega)]
              have hask : ∀ w, (askRoom (cp * i.bytes)).run P w = .ok () w := fun w => by
                unfold askRoom
                rw [if_neg (by simp only [roomBytes, h4]; omega)]
                rfl
              simp only [Sem.run_bind, hask, Result.andThen_ok, hsz, Int.toNat_natCast]
              by_cases h0 : cp * size = 0
              · have hcp : cp = 0 := by
                  rcases Nat.mul_eq_zero.1 h0 with h | h
                  · exact h
                  · omega
                subst hcp
                simp only [Nat.zero_mul, if_true, Sem.run_bind, Sem.run_pure, Result.andThen_ok]
                have e0 : (Array.map (fun x => (#[] : Array Value)[x % (#[] : Array Value).size]!) (Array.range 0)) = Builtin.zeroCells zu.cells 0 := by simp [Builtin.zeroCells]
                rw [e0]
                simp only [Sem.run_bind, hrow, Result.andThen_ok, Sem.run_pure]
              · rw [if_neg h0]
                simp only [Sem.run_bind, hz0, Sem.run_pure, Result.andThen_ok]
                have e0 : (Array.map (fun x => zu.cells[x % zu.cells.size]!) (Array.range (cp * size))) = Builtin.zeroCells zu.cells cp := by simp [Builtin.zeroCells, hzs]
                rw [e0]
                simp only [Sem.run_bind, hrow, Result.andThen_ok, Sem.run_pure]
            simp only [execOp, ho, ← hdl, ← hdc]
            rw [Sem.run_bind, this]
            rfl
          split
          · rename_i hbz
            simp only [Bool.and_eq_true] at hbz
            refine key _ rfl ?_
            have hzz : z = [byteAV 0] := by
              have hz1 := hbz.2
              unfold isZ at hz1
              split at hz1
              · rw [beqN hz1]; rfl
              · cases hz1
            rw [hzz]
            exact unrow_zero cp
          · exact key _ rfl rfl
      · cases ha
    · cases hf
  · cases hf

theorem act_makeM (he : EvOK P σ t ρ) {o : Oper} {T : Nat} {r : Option Operand} (ho : o.op = .makeMap T r) {f} (hf : cMap P T r = some (.act f)) {a} (ha : f t = some a) : ActOK P σ ρ o a := by
  have key : (∀ w, (Instr.makeMap T (r.map ρ)).run P w = .ok (.map (some w.heap.size)) (w.alloc (.map #[] 0))) → ActOK P σ ρ o (.new (.mk T 0 (.map [] 0)) fun id => .map id) := by
    intro hrun w g n e hr hn _
    simp only [Act1.run, runNew, oneC, cond_true] at hr
    obtain rfl := Option.some.inj hr
    refine ⟨.map (some w.heap.size), σ.put n ⟨w.heap.size, 0, 0⟩, _, Or.inl ?_, by simp [Eff.val, den, Env.put_same], _, rfl, Nat.le_refl _, alloc_only _ _, _, _, Env.put_same _ _ _, alloc_new _ _, [], rfl, .nil⟩
    simp only [execOp, ho]
    rw [Sem.run_bind, hrun]
    rfl
  unfold cMap at hf
  split at hf
  · simp only [Option.some.injEq, CO.act.injEq] at hf
    subst hf
    obtain rfl := Option.some.inj ha
    exact key fun w => rfl
  · rename_i x
    split at hf
    · rename_i x' k v hx hu
      simp only [a1, Option.some.injEq, CO.act.injEq] at hf
      subst hf
      have hd := he _ _ hx
      simp only at ha
      split at ha
      · rename_i j n hq
        obtain rfl := Option.some.inj ha
        rw [hq] at hd
        have hd : Value.int j n = ρ x := Option.some.inj hd
        refine key fun w => ?_
        unfold Instr.makeMap
        simp only [Option.map_some, ← hd, Sem.run_bind, run_underlying hu, Result.andThen_ok, asInt, asIntOf, Sem.run_pure]
        rfl
      · cases ha
    · cases hf
end
end Go.Sx

/- Conversions of strings and bytes; slices of slices. No program. -/
namespace Go.Sx
set_option linter.unusedVariables false
section
variable {P : Program} {okT : Nat → Bool} {σ : Env} {t : Tr AV} {ρ : Operand → Value}

theorem isByte_spec {e : Nat} (h : isByte P e = true) : P.underlying e = some (.int .u8) := by
  unfold isByte at h
  split at h
  · assumption
  · cases h

theorem unrow_den : ∀ (n x : Nat), denL σ (unrow x n) = some ((unrowU x n).map fun b => Value.int .u8 b.toNat)
  | 0, _ => rfl
  | n + 1, x => by
    have ih := unrow_den n (x / 256)
    show denL σ (byteAV (x % 256) :: unrow (x / 256) n) = _
    simp only [denL, ih, unrowU, List.map_cons, toNat_low]
    rfl

theorem freeze_only (w : World) (a : Addr) (n : Nat) : OnlyB w (w.freeze a n) (· = a.block) := by
  unfold World.freeze
  split
  · exact OnlyB.refl _ _
  · refine ⟨rfl, rfl, rfl, by simp, fun k hk hn => ?_⟩
    simp only
    rw [Array.getElem?_modify]
    simp [Ne.symm hn]

theorem freeze_heap {w : World} {b : Nat} {cs : Array Value} {el : Nat} {fr : Nat × Nat} (h : w.heap[b]? = some (.cells cs el fr)) (hf : FrOK fr cs.size) :
    ∃ fr', (w.freeze ⟨b, cs.size, none⟩ 1).heap[b]? = some (.cells cs el fr') ∧ FrOK fr' cs.size := by
  refine ⟨if fr.1 == fr.2 then (cs.size, cs.size + 1) else (min fr.1 cs.size, max fr.2 (cs.size + 1)), ?_, ?_⟩
  · simp only [World.freeze, Nat.one_ne_zero, if_false]
    rw [Array.getElem?_modify]
    simp [h]
  · rcases hf with rfl | hf
    · exact Or.inr (Nat.le_refl _)
    · split
      · exact Or.inr (Nat.le_refl _)
      · exact Or.inr (by show cs.size ≤ min fr.1 cs.size; omega)

theorem act_conv (he : EvOK P σ t ρ) {o : Oper} {x : Operand} {s d : Nat} (ho : o.op = .convert s d x) {f} (hf : cConv P s d x = some (.act f)) {a} (ha : f t = some a) : ActOK P σ ρ o a := by
  have lift : ∀ {w w' : World} {u : Value}, (Go.convert s d (ρ x)).run P w = .ok u w' → (execOp ρ o).run P w = .ok (.value u) w' := by
    intro w w' u h
    simp only [execOp, ho]
    rw [Sem.run_bind, h]
    rfl
  unfold cConv at hf
  split at hf
  · rename_i x' hx
    have hd := he _ _ hx
    unfold convF at hf
    split at hf
    · cases hf
    · cases hf
    · cases hf
    · cases hf
    · -- string to bytes
      rename_i e hs hdst
      cases hby : isByte P e with
      | false => rw [hby] at hf; cases hf
      | true =>
        rw [hby] at hf
        simp only [cond_true, a1, Option.some.injEq, CO.act.injEq] at hf
        subst hf
        have hub := isByte_spec hby
        simp only [strBytes] at ha
        split at ha
        · rename_i n q hq
          cases hb : Nat.ble n bigRoom with
          | false => rw [hb] at ha; cases ha
          | true =>
            rw [hb] at ha
            obtain rfl := Option.some.inj ha
            have hle : n ≤ 140737488355328 := ble_of hb
            rw [hq] at hd
            have hd : Value.string (bytesOf n q) = ρ x := Option.some.inj hd
            intro w g m ef hrun hm hr
            simp only [Act1.run, runNew, oneC, cond_true] at hrun
            obtain rfl := Option.some.inj hrun
            have hconv := run_bytes_of_string (P := P) w s d e (bytesOf n q) hs hdst hub
            rw [hd, bytesOf_size] at hconv
            have hge := grownCap_ge w n 0 e
            have hmx := grownCap_le_maxLen w n 0 e (by simp only [maxLen]; omega)
            have hrs : (bytesRow (bytesOf n q) (grownCap w n 0 e)).size = grownCap w n 0 e := by
              simp only [bytesRow, Array.size_append, Array.size_map, Array.size_replicate, bytesOf_size]
              have : (bytesOf n q).data.size = n := bytesOf_size n q
              omega
            have hnew := alloc_new w.drew (.cells (bytesRow (bytesOf n q) (grownCap w n 0 e)) e ((bytesRow (bytesOf n q) (grownCap w n 0 e)).size, (bytesRow (bytesOf n q) (grownCap w n 0 e)).size + 1))
            have honly : OnlyB w (w.drew.alloc (.cells (bytesRow (bytesOf n q) (grownCap w n 0 e)) e ((bytesRow (bytesOf n q) (grownCap w n 0 e)).size, (bytesRow (bytesOf n q) (grownCap w n 0 e)).size + 1))) (fun _ => False) :=
              (OnlyB.drew w _).trans (alloc_only w.drew _) (fun i h => h.elim)
            refine ⟨_, _, _, Or.inl (lift hconv), ?_, eff_new (c := .bytes n q) (cap := grownCap w n 0 e) (us := (unrowU q n).map fun b => Value.int .u8 b.toNat) (hm (Nat.lt_succ_self _)) honly hnew ⟨Or.inr (Nat.le_refl _), fun h => absurd h (by decide)⟩ rfl (unrow_one n q) (unrow_den n q) ?_ ?_ ?_ _⟩
            · simp [Eff.val, den, Env.put_same, capDen]
            · simp [unrowU_length, hrs, hge]
            · intro i u hu
              have hi : i < n := by
                have := (List.getElem?_eq_some_iff.1 hu).1
                simpa [unrowU_length] using this
              simp only [bytesRow]
              rw [Array.getElem?_append_left (by simp only [Array.size_map]; have : (bytesOf n q).data.size = n := bytesOf_size n q; omega)]
              rw [← hu, ← Array.getElem?_toList]
              show ((unrowU q n).toArray.map _).toList[i]? = _
              simp
            · intro _
              refine ⟨by rw [hrs]; simp, ?_⟩
              simp only [maxLen] at hmx
              exact hmx
        · cases ha
    · -- the same slice, marked
      rename_i e0 e hs hdst
      cases hby : (isByte P e && Nat.beq s d) with
      | false => rw [hby] at hf; cases hf
      | true =>
        rw [hby] at hf
        simp only [cond_true, a1, Option.some.injEq, CO.act.injEq] at hf
        subst hf
        simp only [Bool.and_eq_true] at hby
        have hub := isByte_spec hby.1
        have hsd := beqN hby.2
        simp only [markS] at ha
        split at ha
        · rename_i id off n c hq
          obtain rfl := Option.some.inj ha
          rw [hq] at hd
          intro w g m ef hrun hm hr
          have hd0 := hd
          simp only [den, Option.map_eq_some_iff] at hd
          obtain ⟨l, hl, hsl⟩ := hd
          simp only [Act1.run, runMark] at hrun
          have key : ∀ {el sl : Nat} {ct : Cont}, sl ≤ 1 → ct.isMap = false → g id = some (.mk el sl ct) → ∃ u σ' w', YieldsV P ρ o w u w' ∧ den σ' (.slc id off n c) = some u ∧ EffOK σ m w σ' w' (.w (.slc id off n c) id (.mk el sl ct)) := by
            intro el sl ct hsl1 hct hg
            obtain ⟨l', cs, fr, us, k1, k2, k3, k4⟩ := (hr id (by simp [Act1.reqs]) _ hg).row hct
            obtain rfl : l = l' := by rw [hl] at k1; exact Option.some.inj k1
            obtain ⟨fr', f1, f2⟩ := freeze_heap k2 k3.1
            refine ⟨_, σ, w.freeze ⟨l.blk, cs.size, none⟩ 1, Or.inl (lift ?_), hd0, rfl, l, hl, freeze_only w _ _, l, _, hl, f1, (objOK_row hct).2 ⟨cs, fr', us, rfl, ⟨f2, fun h => absurd h (by omega)⟩, k4⟩⟩
            have hsh : w.shape? l.blk = some (el, cs.size) := by simp [World.shape?, k2]
            rw [run_convert hs hdst, ← hsl]
            have hmark : (markStringish ⟨l.blk, l.base + off, none⟩).run P w = .ok () (w.freeze ⟨l.blk, cs.size, none⟩ 1) := by
              unfold markStringish
              simp only [Sem.run_bind, run_shape, hsh, Result.andThen_ok, run_freeze]
            show ((do
              match s == d, ← underlying e with
              | true, .int .u8 => do markStringish ⟨l.blk, l.base + off, none⟩; pure (.slice (some ⟨l.blk, l.base + off, none⟩) n (capDen l c))
              | _, _ => unsupported (.noEntry "convert/other")) : Sem Value).run P w = _
            rw [Sem.run_bind, run_underlying hub, hsd, beq_self_eq_true, Result.andThen_ok]
            simp only
            rw [Sem.run_bind, hmark]
            rfl
          split at hrun
          · cases hrun
          · cases hrun
          · rename_i b hnm hnt hg
            obtain ⟨el, sl, ct⟩ := b
            simp only at hrun
            cases hq1 : Nat.ble sl 1 with
            | false => rw [hq1] at hrun; cases hrun
            | true =>
              rw [hq1] at hrun
              obtain rfl := Option.some.inj hrun
              refine key (Nat.le_of_ble_eq_true hq1) ?_ hg
              cases ct <;> first | rfl | exact absurd rfl (hnm _ _ _ _) | exact absurd rfl (hnt _ _ _)
          · cases hrun
        · cases ha
    · -- bytes to a string
      rename_i e hs hdst
      cases hby : isByte P e with
      | false => rw [hby] at hf; cases hf
      | true =>
        rw [hby] at hf
        simp only [cond_true, a1, Option.some.injEq, CO.act.injEq] at hf
        subst hf
        have hub := isByte_spec hby
        simp only [bytesStr] at ha
        split at ha
        · rename_i hq
          obtain rfl := Option.some.inj ha
          rw [hq] at hd
          have hd : Value.slice none 0 0 = ρ x := Option.some.inj hd
          refine act_val (u := .string (bytesOf 0 0)) rfl fun w => lift ?_
          rw [← hd]
          exact run_convert_bytes_nil w s e hs hub 0 0 d hdst
        · rename_i id off n c hq
          obtain rfl := Option.some.inj ha
          rw [hq] at hd
          simp only [den, Option.map_eq_some_iff] at hd
          obtain ⟨l, hl, hsl⟩ := hd
          intro w g m ef hrun hm hr
          simp only [Act1.run, runToStr] at hrun
          split at hrun
          · rename_i el sl ct hg
            have hb := hr id (by simp [Act1.reqs]) _ hg
            have key : ∀ q, (∃ r, ct.cut off n = some r ∧ r.toL = unrow q n) → ∃ u σ' w', YieldsV P ρ o w u w' ∧ den σ' (.str n q) = some u ∧ EffOK σ m w σ' w' (.v (.str n q)) := by
              rintro q ⟨r, hcut, hrl⟩
              obtain ⟨l', us, k1, k2, k3, k4, k5⟩ := hb.range hcut
              obtain rfl : l = l' := by rw [hl] at k1; exact Option.some.inj k1
              rw [hrl, unrow_den] at k2
              obtain rfl := Option.some.inj k2
              refine ⟨.string (bytesOf n q), σ, w, Or.inl (lift ?_), rfl, rfl, OnlyB.refl _ _⟩
              have := run_convert_bytes_back (P := P) w s d e ⟨l.blk, l.base + off, none⟩ (capDen l c) (unrowU q n) hs hub hdst (fun j hj => by
                rw [Addr.add_mid]
                refine k5 j _ ?_
                rw [List.getElem?_map, List.getElem?_eq_getElem hj]
                rfl)
              rw [unrowU_length] at this
              rw [← hsl]
              exact this
            split at hrun
            · rename_i n' q hcut
              obtain rfl := Option.some.inj hrun
              have hn : n' = n := by
                obtain ⟨h1, h2⟩ := Cont.cut_eq hcut
                have := congrArg List.length h2
                simp only [Row.toL, unrow_length, List.length_take, List.length_drop] at this
                omega
              subst hn
              exact key q ⟨_, hcut, rfl⟩
            · rename_i vs hcut
              split at hrun
              · rename_i q hq2
                obtain rfl := Option.some.inj hrun
                have hn : vs.length = n := by
                  obtain ⟨h1, h2⟩ := Cont.cut_eq hcut
                  have := congrArg List.length h2
                  simp only [Row.toL, List.length_take, List.length_drop] at this
                  omega
                rw [hn]
                exact key q ⟨_, hcut, by rw [← hn, packAV_unrow hq2]; rfl⟩
              · cases hrun
            · cases hrun
          · cases hrun
        · cases ha
    · cases hf
  · cases hf
end
end Go.Sx

/- Slices of slices. No program. -/
namespace Go.Sx
set_option linter.unusedVariables false
section
variable {P : Program} {okT : Nat → Bool} {σ : Env} {t : Tr AV} {ρ : Operand → Value}

theorem sliceBounds3 {b : Bool} {len cap h m : Nat} {l : Option Nat} {lo : Option Value} {hi mx : Value} (hl : BndOK l lo) (hh : ∃ k, hi = .int k (.ofNat h)) (hm : ∃ k, mx = .int k (.ofNat m)) (h1 : l.getD 0 ≤ h) (h2 : h ≤ m) (h3 : m ≤ cap) (w : World) :
    (Instr.sliceBounds b len cap lo (some hi) (some mx)).run P w = .ok (l.getD 0, h, m) w := by
  obtain ⟨k, rfl⟩ := hh
  obtain ⟨k', rfl⟩ := hm
  have e1 := fun c => sliceBound_run (P := P) (k := k') (c := c) h3 w
  have e2 := fun c => sliceBound_run (P := P) (k := k) (c := c) h2 w
  cases l with
  | none => cases lo with
    | some _ => exact hl.elim
    | none =>
      simp only [Instr.sliceBounds, Sem.run_bind, Sem.run_pure, Result.andThen_ok, e1, e2]
      rfl
  | some n => cases lo with
    | none => exact hl.elim
    | some v =>
      obtain ⟨k2, rfl⟩ := hl
      simp only [Option.getD_some] at h1
      have e3 := fun c => sliceBound_run (P := P) (k := k2) (c := c) h1 w
      simp only [Instr.sliceBounds, Sem.run_bind, Sem.run_pure, Result.andThen_ok, e1, e2, Option.isSome_some, if_true, e3]
      rfl

/-- What a bound list says: the model's bounds. -/
theorem bounds_run {b : Bool} {len cap : Nat} {l h m : Option Nat} {lo hi mx : Option Value} (hl : BndOK l lo) (hh : BndOK h hi) (hm : BndOK m mx) (hhm : m.isSome = true → h.isSome = true)
    (h1 : l.getD 0 ≤ h.getD len) (h2 : h.getD len ≤ m.getD cap) (h3 : m.getD cap ≤ cap) (w : World) :
    (Instr.sliceBounds b len cap lo hi mx).run P w = .ok (l.getD 0, h.getD len, m.getD cap) w := by
  cases m with
  | none => cases mx with
    | some _ => exact hm.elim
    | none => exact sliceBounds2 hl hh h1 h2 w
  | some m => cases mx with
    | none => exact hm.elim
    | some mv =>
      cases h with
      | none => exact absurd (hhm rfl) (by simp)
      | some h => cases hi with
        | none => exact hh.elim
        | some hv =>
          simp only [Option.getD_some] at h1 h2 h3 ⊢
          exact sliceBounds3 hl hh hm h1 h2 h3 w

/-- The value of a slice of a slice, by the model. -/
def slicedV (blk pos size len cap l h m : Nat) : Value := .slice (some (if m = l then ⟨blk, pos, none⟩ else ⟨blk, pos + l * size, none⟩)) (h - l) (m - l)

/-- sliceS is right, whatever runs it: the model yields slicedV at bounds in order. -/
theorem sliceS_ok {size : Nat} {v : AV} {u : Value} {l h m : Option Nat} {a : Act1} (ha : sliceS size v l h m = some a) (hu : den σ v = some u) {o : Oper}
    (hrun : ∀ ao len cap, u = .slice ao len cap → (m.isSome = true → h.isSome = true) → l.getD 0 ≤ h.getD len → h.getD len ≤ m.getD cap → m.getD cap ≤ cap →
      ∀ w, (execOp ρ o).run P w = .ok (.value (.slice (if m.getD cap = l.getD 0 then ao else ao.map (·.add (l.getD 0 * size))) (h.getD len - l.getD 0) (m.getD cap - l.getD 0))) w) : ActOK P σ ρ o a := by
  unfold sliceS at ha
  split at ha
  · -- slc
    rename_i id off len cap
    have hu0 := hu
    simp only [den, Option.map_eq_some_iff] at hu
    obtain ⟨q, hq, rfl⟩ := hu
    have at0 : ∀ k, den σ (.slc id off k (.lit 0)) = some (.slice (some ⟨q.blk, q.base + off, none⟩) k 0) := fun k => by simp [den, hq, capDen]
    have atl : ∀ x k c, den σ (.slc id (off + x * size) k (.lit c)) = some (.slice (some ⟨q.blk, q.base + off + x * size, none⟩) k c) := fun x k c => by simp [den, hq, capDen, Nat.add_assoc]
    have fitsOK : ∀ (k : Nat) (v : AV) (r : Value), den σ v = some r → (∀ w el sl c, BlkOK σ w id (.mk el sl c) → sl = size → 0 < sl → k ≤ c.toL.length → (execOp ρ o).run P w = .ok (.value r) w) → ActOK P σ ρ o (.fits id k size v) := by
      intro k v r hv hw w g n e he hn hr
      simp only [Act1.run, runFits] at he
      split at he
      · rename_i el sl c hg
        cases hb : (Nat.beq sl size && Nat.blt 0 sl && Nat.ble k c.size) with
        | false => rw [hb] at he; cases he
        | true =>
          rw [hb] at he
          obtain rfl := Option.some.inj he
          simp only [Bool.and_eq_true] at hb
          refine ⟨r, σ, w, Or.inl (hw w el sl c (hr id (by simp [Act1.reqs]) _ hg) (beqN hb.1.1) (blt_of hb.1.2) ?_), hv, rfl, OnlyB.refl _ _⟩
          have := ble_of hb.2
          rwa [Cont.size_eq] at this
      · cases he
    -- an open capacity holds what is known
    have room : ∀ {w : World} {el sl : Nat} {c : Cont} {k eo : Nat}, BlkOK σ w id (.mk el sl c) → sl = size → 0 < sl → off + k * size ≤ c.toL.length → off = eo * size → k ≤ q.cap - eo := by
      intro w el sl c k eo hb hsl h0 hk ho
      by_cases hmap : c.isMap = true
      · have : c.toL = [] := by
          cases c with
          | txt => obtain ⟨_, _, _, _, h0, _⟩ := hb; rcases h0 with h0 | ⟨_, rfl⟩ <;> first | omega | rfl
          | map => rfl
          | cells => cases hmap
          | bytes => cases hmap
        rw [this] at hk
        simp only [List.length_nil] at hk
        have : k * size = 0 := by omega
        rcases Nat.mul_eq_zero.1 this with h | h
        · omega
        · omega
      · obtain ⟨q', cs, fr, us, k1, k2, k3, k4, k5, k6, k7, k8⟩ := hb.row (by simpa using hmap)
        obtain rfl : q = q' := by rw [hq] at k1; exact Option.some.inj k1
        have hl := denL_length k4
        obtain ⟨k9, _⟩ := k8 (by omega)
        rw [hsl] at k9 h0
        have h1 : (eo + k) * size ≤ q.cap * size := by
          rw [Nat.add_mul, ← ho]
          omega
        have := Nat.le_of_mul_le_mul_right h1 h0
        omega
    split at ha
    · -- lit, none
      rename_i c
      simp only [cond_eq_ite] at ha
      split at ha
      · rename_i hb
        simp only [Bool.and_eq_true] at hb
        have h1 := ble_of hb.1
        have h2 := ble_of hb.2
        obtain rfl := Option.some.inj ha
        have hr := hrun _ _ _ rfl (by simp) h1 (by simpa [capDen] using h2) (by simp)
        simp only [capDen, Option.getD_none] at hr
        split
        · rename_i hc
          have hc := beqN hc
          refine act_val (at0 _) fun w => ?_
          rw [hr w]
          simp [hc]
        · rename_i hc
          have hne : c ≠ l.getD 0 := fun e => hc (by rw [e]; simp)
          refine act_val (atl _ _ _) fun w => ?_
          rw [hr w]
          simp [hne, Addr.add_mid]
      · cases ha
    · -- op, none
      rename_i eo
      simp only [cond_eq_ite] at ha
      split at ha
      · rename_i hoff
        have hoff := beqN hoff
        simp only [Nat.mul_eq] at hoff
        split at ha
        · rename_i hlt
          have hlt := blt_of hlt
          obtain rfl := Option.some.inj ha
          refine fitsOK _ _ (.slice (some ⟨q.blk, q.base + off + l.getD 0 * size, none⟩) (h.getD len - l.getD 0) (q.cap - (eo + l.getD 0))) (by simp [den, hq, capDen, Nat.add_assoc]) fun w el sl c hb hsl h0 hk => ?_
          have hroom := room hb hsl h0 hk hoff
          have hr := hrun _ _ _ rfl (by simp) (Nat.le_of_lt hlt) (by simpa [capDen] using hroom) (by simp)
          simp only [capDen, Option.getD_none] at hr
          rw [hr w]
          simp [show ¬ (q.cap - eo = l.getD 0) by omega, Addr.add_mid, Nat.sub_sub]
        · split at ha
          · rename_i heq
            have heq := beqN heq
            split at ha
            · rename_i hz
              have hz := beqN hz
              obtain rfl := Option.some.inj ha
              refine act_val (u := .slice (some ⟨q.blk, q.base + off, none⟩) 0 (q.cap - eo)) (by simp [den, hq, capDen]) fun w => ?_
              have hr := hrun _ _ _ rfl (by simp) (by omega) (by simp [hz]) (by simp)
              simp only [capDen, Option.getD_none] at hr
              have hl0 : l.getD 0 = 0 := by omega
              rw [hr w, hz, hl0]
              simp [Addr.add]
            · rename_i hz
              obtain rfl := Option.some.inj ha
              refine fitsOK _ _ (.slice (some ⟨q.blk, q.base + (if q.cap = eo + l.getD 0 then off else off + l.getD 0 * size), none⟩) 0 (q.cap - (eo + l.getD 0))) (by simp [den, hq]) fun w el sl c hb hsl h0 hk => ?_
              have hroom := room hb hsl h0 hk hoff
              have hpos : 0 < h.getD len := Nat.pos_of_ne_zero fun e => hz (by rw [e]; rfl)
              have hr := hrun _ _ _ rfl (by simp) (by omega) (by simpa [capDen] using hroom) (by simp)
              simp only [capDen, Option.getD_none] at hr
              rw [hr w]
              by_cases hc : q.cap = eo + l.getD 0
              · simp [show q.cap - eo = l.getD 0 by omega, hc, ← heq]
              · simp [show ¬ (q.cap - eo = l.getD 0) by omega, hc, ← heq, Addr.add_mid, Nat.sub_sub, Nat.add_assoc]
          · cases ha
      · cases ha
    · -- lit, some
      rename_i c m
      simp only [cond_eq_ite] at ha
      split at ha
      · rename_i hb
        simp only [Bool.and_eq_true] at hb
        obtain ⟨⟨⟨b1, b2⟩, b3⟩, b4⟩ := hb
        obtain ⟨hv, rfl⟩ := Option.isSome_iff_exists.1 b4
        simp only [Option.getD_some] at b1 b2
        have h1 := ble_of b1
        have h2 := ble_of b2
        have h3 := ble_of b3
        obtain rfl := Option.some.inj ha
        have hr := hrun _ _ _ rfl (by simp) (by simpa using h1) (by simpa using h2) (by simpa [capDen] using h3)
        simp only [capDen, Option.getD_some] at hr ⊢
        split
        · rename_i hc
          have hc := beqN hc
          refine act_val (at0 _) fun w => ?_
          rw [hr w]
          simp [hc]
        · rename_i hc
          have hne : m ≠ l.getD 0 := fun e => hc (by rw [e]; simp)
          refine act_val (atl _ _ _) fun w => ?_
          rw [hr w]
          simp [hne, Addr.add_mid]
      · cases ha
    · -- op, some
      rename_i eo m
      simp only [cond_eq_ite] at ha
      split at ha
      · rename_i hb
        simp only [Bool.and_eq_true] at hb
        obtain ⟨⟨⟨b1, b2⟩, b3⟩, b4⟩ := hb
        obtain ⟨hv, rfl⟩ := Option.isSome_iff_exists.1 b3
        simp only [Option.getD_some] at b1 b2
        have h1 := ble_of b1
        have h2 := ble_of b2
        have hoff := beqN b4
        simp only [Nat.mul_eq] at hoff
        obtain rfl := Option.some.inj ha
        simp only [Option.getD_some]
        split
        · rename_i hc
          have hc := beqN hc
          refine fitsOK _ _ _ (at0 _) fun w el sl c hb hsl h0 hk => ?_
          have hroom := room hb hsl h0 hk hoff
          have hr := hrun _ _ _ rfl (by simp) (by simpa using h1) (by simpa using h2) (by simpa [capDen] using hroom)
          simp only [capDen, Option.getD_some] at hr
          rw [hr w]
          simp [hc]
        · rename_i hc
          have hne : m ≠ l.getD 0 := fun e => hc (by rw [e]; simp)
          refine fitsOK _ _ _ (atl _ _ _) fun w el sl c hb hsl h0 hk => ?_
          have hroom := room hb hsl h0 hk hoff
          have hr := hrun _ _ _ rfl (by simp) (by simpa using h1) (by simpa using h2) (by simpa [capDen] using hroom)
          simp only [capDen, Option.getD_some] at hr
          rw [hr w]
          simp [hne, Addr.add_mid]
      · cases ha
  · -- nil
    simp only [cond_eq_ite] at ha
    split at ha
    · rename_i hb
      simp only [Bool.and_eq_true] at hb
      obtain ⟨⟨⟨b1, b2⟩, b3⟩, b4⟩ := hb
      obtain rfl := Option.some.inj ha
      obtain rfl := Option.some.inj hu
      have e1 := beqN b1
      have e2 := beqN b2
      have e3 := beqN b3
      refine act_val (u := .slice none 0 0) rfl fun w => ?_
      have hr := hrun _ _ _ rfl (by intro hm; cases m <;> simp_all) (by omega) (by omega) (by omega) w
      rw [hr, e1, e2, e3]
      simp
    · cases ha
  · cases ha

theorem act_slice (he : EvOK P σ t ρ) {o : Oper} {x : Operand} {T : Nat} {lo hi mx : Option Operand} (ho : o.op = .slice T x lo hi mx) {f} (hf : cSlice P T x lo hi mx = some (.act f)) {a} (ha : f t = some a) : ActOK P σ ρ o a := by
  have lift : ∀ {w : World} {u : Value}, (Instr.sliceAt T (ρ x) (lo.map ρ) (hi.map ρ) (mx.map ρ)).run P w = .ok u w → (execOp ρ o).run P w = .ok (.value u) w := by
    intro w u h
    simp only [execOp, ho]
    rw [Sem.run_bind, h]
    rfl
  unfold cSlice at hf
  split at hf
  · rename_i x' lo' hi' mx' hx hlo hhi hmx
    have hd := he _ _ hx
    unfold sliceC at hf
    split at hf
    · split at hf <;> cases hf
    · rename_i e hu
      split at hf
      · rename_i s hs
        simp only [Option.some.injEq, CO.act.injEq] at hf
        subst hf
        unfold sliceRun at ha
        split at ha
        · rename_i l h m hl hh hm
          refine sliceS_ok ha hd fun ao len cap hv k0 k1 k2 k3 w => lift ?_
          unfold Instr.sliceAt
          rw [Sem.run_bind, run_underlying hu]
          show (Instr.slice T (ρ x) (lo.map ρ) (hi.map ρ) (mx.map ρ)).run P w = _
          unfold Instr.slice
          rw [Sem.run_bind, run_underlying hu, hv]
          simp only [Result.andThen_ok, Sem.run_bind, bounds_run (optE_ok he hlo hl) (optE_ok he hhi hh) (optE_ok he hmx hm) k0 k1 k2 k3, run_sizeOf hs, Sem.run_pure]
        · cases ha
      · cases hf
    · rename_i n e hu
      split at hf
      · rename_i s hs
        simp only [Option.some.injEq, CO.act.injEq] at hf
        subst hf
        have hmn : mx = none := by
          cases mx with
          | none => rfl
          | some m =>
            simp only [optC] at hmx
            split at hmx <;> cases hmx
        subst hmn
        unfold sliceRun at ha
        split at ha
        · rename_i l h m hl hh hm
          obtain rfl : m = none := (Option.some.inj hm).symm
          cases hev : ev x' t with
          | ptr id off =>
            rw [hev] at ha hd
            simp only [den, Option.map_eq_some_iff] at hd
            obtain ⟨q, hq, hp⟩ := hd
            refine sliceS_ok (v := .slc id off n (.lit n)) (u := .slice (some ⟨q.blk, q.base + off, none⟩) n n) ha (by simp [den, hq, capDen]) fun ao len cap hv k0 k1 k2 k3 w => lift ?_
            injection hv with e1 e2 e3
            subst e1; subst e2; subst e3
            unfold Instr.sliceAt
            rw [Sem.run_bind, run_underlying hu, ← hp]
            simp only [Result.andThen_ok, Instr.sureAddr, Sem.run_bind, Sem.run_pure, Option.map_none, bounds_run (b := false) (optE_ok he hlo hl) (optE_ok he hhi hh) (m := none) (mx := none) trivial k0 k1 k2 k3, run_sizeOf hs]
            congr 1
            simp only [Option.map_some]
            split <;> rfl
          | _ => rw [hev] at ha; simp only [ptrSlc, sliceS] at ha; cases ha
        · cases ha
      · cases hf
    · cases hf
  · cases hf
end
end Go.Sx

/- append, copy, clear. No program. -/
namespace Go.Sx
set_option linter.unusedVariables false
set_option linter.unusedSimpArgs false
section
variable {P : Program} {okT : Nat → Bool} {σ : Env} {t : Tr AV} {ρ : Operand → Value}

/-- A row laid into a block. -/
theorem lay_eff {w : World} {id el sl off : Nat} {c c' : Cont} {r : Row} {vs : List Value} (hb : BlkOK σ w id (.mk el sl c)) (hlay : c.lay off r = some c') (hd : denL σ r.toL = some vs) (h1 : r.toL.all AV.one = true) :
    ∃ l, σ id = some l ∧ (storeCells ⟨l.blk, l.base + off, none⟩ vs).run P w = .ok () (w.setCells l.blk (l.base + off) vs) ∧
      OnlyB w (w.setCells l.blk (l.base + off) vs) (· = l.blk) ∧ BlkOK σ (w.setCells l.blk (l.base + off) vs) id (.mk el sl c') := by
  obtain ⟨k1, k2⟩ := Cont.lay_eq hlay
  have hc' : c'.isMap = false := by
    unfold Cont.lay at hlay
    simp only [cond_eq_ite] at hlay
    split at hlay
    · split at hlay
      · obtain rfl := Option.some.inj hlay; exact isMap_toC _
      · cases hlay
    · cases hlay
  exact hb.store (isMap_of_lay hlay) hc' hd h1 k1 k2

/-- What an append or a copy takes. -/
theorem src_run {size m : Nat} {x : AV} {u : Value} {s : Src} {g : Nat → Option Blk} {r : Row} (hs : srcOf size m x = some s) (hx : den σ x = some u) {len : Nat} (hl : slcLen x = some len) (hm : m ≤ len) (hsz : 0 < size)
    (hr : s.get g = some r) {w : World} (hb : ∀ id ∈ s.reqs, ∀ b, g id = some b → BlkOK σ w id b) :
    (∀ w, (Builtin.lenOf u).run P w = .ok len w) ∧ ∃ vs, denL σ r.toL = some vs ∧ r.toL.all AV.one = true ∧ vs.length = m * size ∧ ∀ w', w'.heap = w.heap → (Builtin.firstCells size m u).run P w' = .ok vs.toArray w' := by
  unfold srcOf at hs
  split at hs
  · rename_i id off ln cp
    obtain rfl := Option.some.inj hs
    obtain rfl := Option.some.inj hl
    simp only [den, Option.map_eq_some_iff] at hx
    obtain ⟨q, hq, rfl⟩ := hx
    refine ⟨fun w => rfl, ?_⟩
    simp only [Src.get] at hr
    split at hr
    · rename_i el sl c hg
      obtain ⟨q', us, k1, k2, k3, k4, k5⟩ := (hb id (by simp [Src.reqs]) _ hg).range hr
      obtain rfl : q = q' := by rw [hq] at k1; exact Option.some.inj k1
      refine ⟨us, k2, k4, k3, fun w' hw => ?_⟩
      exact run_firstCells_some w' size m ⟨q.blk, q.base + off, none⟩ _ _ us k3 (fun j v hv => by
        rw [Addr.add_mid]
        have := k5 j v hv
        unfold World.cell? at this ⊢
        rw [hw]
        exact this)
    · cases hr
  · obtain rfl := Option.some.inj hs
    obtain rfl := Option.some.inj hl
    obtain rfl := Option.some.inj hx
    obtain rfl := Option.some.inj hr
    obtain rfl : m = 0 := by omega
    exact ⟨fun w => rfl, [], rfl, rfl, by simp, fun w' _ => rfl⟩
  · rename_i id o0 o1 eo
    obtain rfl := Option.some.inj hs
    obtain rfl := Option.some.inj hl
    simp only [den, Option.map_eq_some_iff] at hx
    obtain ⟨q, hq, rfl⟩ := hx
    obtain rfl := Option.some.inj hr
    obtain rfl : m = 0 := by omega
    refine ⟨fun w => rfl, [], rfl, rfl, by simp, fun w' _ => ?_⟩
    exact run_firstCells_some w' size 0 _ _ _ [] (by simp) (fun j v hv => by simp at hv)
  · rename_i id
    obtain rfl := Option.some.inj hs
    obtain rfl := Option.some.inj hl
    simp only [den, Option.map_eq_some_iff] at hx
    obtain ⟨q, hq, rfl⟩ := hx
    obtain rfl := Option.some.inj hr
    obtain rfl : m = 0 := by omega
    refine ⟨fun w => rfl, [], rfl, rfl, by simp, fun w' _ => ?_⟩
    generalize q.at0 = ao
    cases ao with
    | none => rfl
    | some a => exact run_firstCells_some w' size 0 a _ _ [] (by simp) (fun j v hv => by simp at hv)
  · rename_i n y
    cases h1 : Nat.beq size 1 with
    | false => rw [h1] at hs; cases hs
    | true =>
      rw [h1] at hs
      obtain rfl := beqN h1
      obtain rfl := Option.some.inj hs
      obtain rfl := Option.some.inj hl
      obtain rfl := Option.some.inj hx
      obtain rfl := Option.some.inj hr
      refine ⟨fun w => by simp [Builtin.lenOf, bytesOf_size], (unrowU y m).map fun b => Value.int .u8 b.toNat, unrow_den m y, unrow_one m y, by simp [unrowU_length], fun w' _ => ?_⟩
      simp only [Builtin.firstCells]
      rw [bytesOf_extract n y 0 m (Nat.zero_le _) hm]
      show Result.ok (((unrowU (y / 256 ^ 0) (m - 0)).toArray).map fun b => Value.int .u8 b.toNat) w' = _
      simp
  · cases hs

/-- All that the model asks of an append's types. -/
structure AppT (P : Program) (T T' e size bytes : Nat) (zc : Array Value) : Prop where
  hT : P.underlying T = some (.slice e)
  hT' : ∃ d, P.underlying T' = some d ∧ isIntD d = false
  info : ∃ i zu, P.info? e = some i ∧ i.zero = some zu ∧ i.size = size ∧ i.bytes = bytes ∧ zu.cells = zc
  pos : 0 < size
  zsize : zc.size = size

theorem AppT.room {T T' e size bytes : Nat} {zc : Array Value} (h : AppT P T T' e size bytes zc) (ty : Nat) {a : Addr} {sLen sCap m : Nat} {x : Value} (hl : ∀ w, (Builtin.lenOf x).run P w = .ok m w) (hc : sLen + m ≤ sCap)
    {w w' : World} {vs : List Value} (hf : (Builtin.firstCells size m x).run P w = .ok vs.toArray w) (hs : (storeCells (a.add (sLen * size)) vs).run P w = .ok () w') :
    (Builtin.append_ #[T, T'] ty #[.slice (some a) sLen sCap, x]).run P w = .ok (.slice (some a) (sLen + m) sCap) w' := by
  obtain ⟨d, hd, hdi⟩ := h.hT'
  obtain ⟨i, zu, h1, h2, h3, h4, h5⟩ := h.info
  have hz0 : ∀ w, (zeroValue e).run P w = .ok zu w := fun w => by simp [zeroValue, typeInfo, h1, h2]
  have hsz : ∀ w, (Go.sizeOf e).run P w = .ok size w := fun w => by simp [Go.sizeOf, typeInfo, h1, h3]
  have hti : ∀ w, (typeInfo e).run P w = .ok i w := fun w => by simp [typeInfo, h1]
  unfold Builtin.append_
  simp only [List.getElem?_toArray, List.getElem?_cons_zero, List.getElem?_cons_succ]
  simp only [Sem.run_bind, run_underlying h.hT, Result.andThen_ok, hsz, run_underlying hd, Sem.run_pure]
  cases d <;> first
    | (cases hdi; done)
    | (simp only [Bool.false_eq_true, if_false, hl, Sem.run_bind, Sem.run_pure, Result.andThen_ok, hc, if_true, Bool.not_false, hf, hs])

theorem AppT.nil0 {T T' e size bytes : Nat} {zc : Array Value} (h : AppT P T T' e size bytes zc) (ty : Nat) {x : Value} (hl : ∀ w, (Builtin.lenOf x).run P w = .ok 0 w)
    {w : World} {vs : List Value} (hf : (Builtin.firstCells size 0 x).run P w = .ok vs.toArray w) :
    (Builtin.append_ #[T, T'] ty #[.slice none 0 0, x]).run P w = .ok (.slice none 0 0) w := by
  obtain ⟨d, hd, hdi⟩ := h.hT'
  obtain ⟨i, zu, h1, h2, h3, h4, h5⟩ := h.info
  have hz0 : ∀ w, (zeroValue e).run P w = .ok zu w := fun w => by simp [zeroValue, typeInfo, h1, h2]
  have hsz : ∀ w, (Go.sizeOf e).run P w = .ok size w := fun w => by simp [Go.sizeOf, typeInfo, h1, h3]
  have hti : ∀ w, (typeInfo e).run P w = .ok i w := fun w => by simp [typeInfo, h1]
  unfold Builtin.append_
  simp only [List.getElem?_toArray, List.getElem?_cons_zero, List.getElem?_cons_succ]
  simp only [Sem.run_bind, run_underlying h.hT, Result.andThen_ok, hsz, run_underlying hd, Sem.run_pure]
  cases d <;> first
    | (cases hdi; done)
    | (simp only [Bool.false_eq_true, if_false, hl, Sem.run_bind, Sem.run_pure, Result.andThen_ok, Nat.zero_add, Nat.le_refl, if_true, Bool.not_false, hf])

theorem AppT.grow {T T' e size bytes : Nat} {zc : Array Value} (h : AppT P T T' e size bytes zc) (ty : Nat) {base : Option Addr} {sLen sCap m : Nat} {x : Value} (hl : ∀ w, (Builtin.lenOf x).run P w = .ok m w) (hc : sCap < sLen + m)
    (hfit : (sLen + m) * (bytes + 1) ≤ 140737488355328)
    {w : World} {os vs : List Value} (ho : (Builtin.firstCells size sLen (.slice base sLen sCap)).run P w.drew = .ok os.toArray w.drew) (hf : (Builtin.firstCells size m x).run P w.drew = .ok vs.toArray w.drew) :
    (Builtin.append_ #[T, T'] ty #[.slice base sLen sCap, x]).run P w =
      .ok (.slice (some ⟨w.heap.size, 0, none⟩) (sLen + m) (grownCap w (sLen + m) sCap e)) (w.drew.alloc (.cells (os.toArray ++ vs.toArray ++ Builtin.zeroCells zc (grownCap w (sLen + m) sCap e - (sLen + m))) e)) := by
  have hb : (sLen + m) * bytes + (sLen + m) ≤ 140737488355328 := by rw [Nat.mul_add, Nat.mul_one] at hfit; exact hfit
  have g1 := growslice_fits (bytes := bytes) hc (by omega)
  have hch : ∀ w, (choose (.appendCap (sLen + m) sCap e)).run P w = .ok (grownCap w (sLen + m) sCap e) w.drew := fun w => by
    rw [run_choose]; rfl
  have hask : ∀ k (w : World), (askRoom k).run P w = .ok () w := fun k w => by
    unfold askRoom
    split <;> rfl
  have hrow : ∀ (w : World) (cs : Array Value), (newRow e cs).run P w = .ok ⟨w.heap.size, 0, none⟩ (w.alloc (.cells cs e)) := fun w cs => rfl
  obtain ⟨d, hd, hdi⟩ := h.hT'
  obtain ⟨i, zu, h1, h2, h3, h4, h5⟩ := h.info
  have hz0 : ∀ w, (zeroValue e).run P w = .ok zu w := fun w => by simp [zeroValue, typeInfo, h1, h2]
  have hsz : ∀ w, (Go.sizeOf e).run P w = .ok size w := fun w => by simp [Go.sizeOf, typeInfo, h1, h3]
  have hti : ∀ w, (typeInfo e).run P w = .ok i w := fun w => by simp [typeInfo, h1]
  have n1 : ¬ (((sLen + m : Nat) : Int) > IntKind.i64.max ∧ (False ∨ bytes = 0)) := by
    simp only [IntKind.max, IntKind.signed, IntKind.bits, if_true]; intro hh; have := hh.1; omega
  have n2 : ¬ (Builtin.nextslicecap (sLen + m) sCap * bytes > 2 ^ 48) := by omega
  have n0 : ¬ (sLen + m ≤ sCap) := by omega
  unfold Builtin.append_
  simp only [List.getElem?_toArray, List.getElem?_cons_zero, List.getElem?_cons_succ]
  simp only [Sem.run_bind, run_underlying h.hT, Result.andThen_ok, hsz, run_underlying hd, Sem.run_pure]
  cases d <;> first
    | (cases hdi; done)
    | (simp only [Bool.false_eq_true, if_false, hl, Sem.run_bind, Sem.run_pure, Result.andThen_ok, n0, Bool.not_false, if_true, hti, h4, n1, n2, hch, hask, ho, hf, hz0, h5, hrow]
       rfl)

/-- An append of m elements that x gives: all that is asked of it. -/
structure AppX (P : Program) (T T' e size bytes : Nat) (zc : Array Value) (ty : Nat) (x : Value) (m : Nat) (G : World → List Value → Prop) : Prop where
  pos : 0 < size
  zsize : zc.size = size
  room : ∀ {a : Addr} {sLen sCap : Nat} {w w' : World} {vs : List Value}, sLen + m ≤ sCap → G w vs → (storeCells (a.add (sLen * size)) vs).run P w = .ok () w' → (Builtin.append_ #[T, T'] ty #[.slice (some a) sLen sCap, x]).run P w = .ok (.slice (some a) (sLen + m) sCap) w'
  nil0 : ∀ {w : World} {vs : List Value}, m = 0 → G w vs → (Builtin.append_ #[T, T'] ty #[.slice none 0 0, x]).run P w = .ok (.slice none 0 0) w
  grow : ∀ {base : Option Addr} {sLen sCap : Nat} {w : World} {os vs : List Value}, sCap < sLen + m → (sLen + m) * (bytes + 1) ≤ 140737488355328 → (Builtin.firstCells size sLen (.slice base sLen sCap)).run P w.drew = .ok os.toArray w.drew → G w.drew vs →
    (Builtin.append_ #[T, T'] ty #[.slice base sLen sCap, x]).run P w =
      .ok (.slice (some ⟨w.heap.size, 0, none⟩) (sLen + m) (grownCap w (sLen + m) sCap e)) (w.drew.alloc (.cells (os.toArray ++ vs.toArray ++ Builtin.zeroCells zc (grownCap w (sLen + m) sCap e - (sLen + m))) e))
  none0 : m = 0 → ∀ w, G w []

theorem AppT.toX {T T' e size bytes : Nat} {zc : Array Value} (h : AppT P T T' e size bytes zc) (ty : Nat) {x : Value} {m : Nat} (hl : ∀ w, (Builtin.lenOf x).run P w = .ok m w) (h0 : m = 0 → ∀ w, (Builtin.firstCells size 0 x).run P w = .ok ([] : List Value).toArray w) :
    AppX P T T' e size bytes zc ty x m (fun w vs => (Builtin.firstCells size m x).run P w = .ok vs.toArray w) where
  pos := h.pos
  zsize := h.zsize
  room := fun hc hf hs => h.room ty hl hc hf hs
  nil0 := fun hm hf => by subst hm; exact h.nil0 ty hl hf
  grow := fun hc hfit ho hf => h.grow ty hl hc hfit ho hf
  none0 := fun hm w => by subst hm; exact h0 rfl w

theorem zeros_toX {T T' e size bytes : Nat} {zc : Array Value} {kn kq : IntKind} (hT : P.underlying T = some (.slice e)) (hT' : P.underlying T' = some (.int kn)) (info : ∃ i zu, P.info? e = some i ∧ i.zero = some zu ∧ i.size = size ∧ i.bytes = bytes ∧ zu.cells = zc) (pos : 0 < size) (zsize : zc.size = size)
    (ty : Nat) {m : Nat} (hm : m * (bytes + 1) ≤ 140737488355328) : AppX P T T' e size bytes zc ty (.int kq (m : Nat)) m (fun _ vs => vs = (Builtin.zeroCells zc m).toList) := by
  obtain ⟨i, zu, h1, h2, h3, h4, h5⟩ := info
  have hmb : m * bytes + m ≤ 140737488355328 := by rw [Nat.mul_add, Nat.mul_one] at hm; exact hm
  have hw : IntKind.i64.wrap (m : Int) = m := by rw [IntKind.wrap_i64]; omega
  have hneg : ¬ ((m : Int) < 0) := by omega
  have h48i : ¬ (281474976710656 < (m : Int) * (bytes : Int)) := by
    rw [← Int.natCast_mul]
    omega
  have hz0 : Builtin.zeroCells zc 0 = #[] := by simp [Builtin.zeroCells]
  have hw0 : IntKind.i64.wrap 0 = 0 := by rw [IntKind.wrap_i64]; omega
  refine ⟨pos, zsize, ?_, ?_, ?_, ?_⟩
  · rintro a sLen sCap w w' vs hc rfl hs
    by_cases hm0 : m = 0
    · subst hm0
      rw [hz0] at hs
      simp [Builtin.append_, run_underlying hT, run_underlying hT', Go.sizeOf, typeInfo, zeroValue, h1, h2, h3, h4, h5, asInt, asIntOf, hw0, hc, hs]
      try omega
    · have hns : ¬ (m * size = 0) := Nat.mul_ne_zero hm0 (by omega)
      simp [Builtin.append_, run_underlying hT, run_underlying hT', Go.sizeOf, typeInfo, zeroValue, h1, h2, h3, h4, h5, asInt, asIntOf, hw, hneg, h48i, hns, hc, hs]
  · rintro w vs rfl rfl
    simp [Builtin.append_, run_underlying hT, run_underlying hT', Go.sizeOf, typeInfo, zeroValue, h1, h2, h3, h4, h5, asInt, asIntOf, hw0]
  · rintro base sLen sCap w os vs hc hfit ho rfl
    have hb : (sLen + m) * bytes + (sLen + m) ≤ 140737488355328 := by rw [Nat.mul_add, Nat.mul_one] at hfit; exact hfit
    have g1 := growslice_fits (bytes := bytes) hc (by omega)
    have h48' : ¬ (281474976710656 < Builtin.nextslicecap (sLen + m) sCap * bytes) := by omega
    have h63' : ¬ (9223372036854775807 < ((sLen : Int) + (m : Int))) := by omega
    have hn : ¬ (sLen + m ≤ sCap) := by omega
    by_cases hm0 : m = 0
    · subst hm0
      simp only [Nat.add_zero] at hn h48' ⊢
      rw [hz0]
      simp [Builtin.append_, run_underlying hT, run_underlying hT', Go.sizeOf, typeInfo, zeroValue, h1, h2, h3, h4, h5, asInt, asIntOf, hw0, hn, h63', h48', Question.forced, ho, newRow, grownCap]
      try omega
    · have hns : ¬ (m * size = 0) := Nat.mul_ne_zero hm0 (by omega)
      simp [Builtin.append_, run_underlying hT, run_underlying hT', Go.sizeOf, typeInfo, zeroValue, h1, h2, h3, h4, h5, asInt, asIntOf, hw, hneg, h48i, hns, hn, h63', h48', Question.forced, ho, newRow, grownCap]
  · rintro rfl w
    rw [hz0]
end
end Go.Sx

/- append, copy, clear: what they do to blocks. No program. -/
namespace Go.Sx
set_option linter.unusedVariables false
section
variable {P : Program} {okT : Nat → Bool} {σ : Env} {t : Tr AV} {ρ : Operand → Value}

/-- The arguments of a builtin of two. -/
theorem two_args (he : EvOK P σ t ρ) {l : List Operand} {x' y' : OP} (h : cOps P l = some [x', y']) : ∃ x y, l = [x, y] ∧ den σ (ev x' t) = some (ρ x) ∧ den σ (ev y' t) = some (ρ y) := by
  cases l with
  | nil => cases h
  | cons x l =>
    simp only [cOps] at h
    split at h
    · rename_i a as ha has
      obtain ⟨rfl, rfl⟩ : a = x' ∧ as = [y'] := by simpa using h
      cases l with
      | nil => cases has
      | cons y l =>
        simp only [cOps] at has
        split at has
        · rename_i b bs hb hbs
          obtain ⟨rfl, rfl⟩ : b = y' ∧ bs = [] := by simpa using has
          cases l with
          | nil => exact ⟨x, y, rfl, he _ _ ha, he _ _ hb⟩
          | cons z l =>
            simp only [cOps] at hbs
            split at hbs <;> cases hbs
        · cases has
    · cases h

theorem one_arg (he : EvOK P σ t ρ) {l : List Operand} {x' : OP} (h : cOps P l = some [x']) : ∃ x, l = [x] ∧ den σ (ev x' t) = some (ρ x) := by
  cases l with
  | nil => cases h
  | cons x l =>
    simp only [cOps] at h
    split at h
    · rename_i a as ha has
      obtain ⟨rfl, rfl⟩ : a = x' ∧ as = [] := by simpa using h
      cases l with
      | nil => exact ⟨x, rfl, he _ _ ha⟩
      | cons y l =>
        simp only [cOps] at has
        split at has <;> cases has
    · cases h

theorem src_reqs_heap {w : World} {s : Src} {g : Nat → Option Blk} (h : ∀ id ∈ s.reqs, ∀ b, g id = some b → BlkOK σ w id b) : ∀ id ∈ s.reqs, ∀ b, g id = some b → BlkOK σ w id b := h

/-- Behind an append that takes a new block: old cells, new cells, noughts. -/
theorem eff_grown {w : World} {n el size len m cap : Nat} {o r : Row} {os vs : List Value} {zc : Array Value} (hn : σ n = none) (hpos : 0 < size) (hz : zc.size = size)
    (ho : denL σ o.toL = some os) (ho1 : o.toL.all AV.one = true) (hol : os.length = len * size) (hr : denL σ r.toL = some vs) (hr1 : r.toL.all AV.one = true) (hrl : vs.length = m * size)
    (hge : len + m ≤ cap) (hcap : cap ≤ 9223372036854775807) (v : AV) :
    EffOK σ n w (σ.put n ⟨w.heap.size, 0, cap⟩) (w.drew.alloc (.cells (os.toArray ++ vs.toArray ++ Builtin.zeroCells zc (cap - (len + m))) el)) (.n v (.mk el size (o.cat r).toC)) := by
  have hsz : (os.toArray ++ vs.toArray ++ Builtin.zeroCells zc (cap - (len + m))).size = cap * size := by
    simp only [Array.size_append, List.size_toArray, size_zeroCells, hol, hrl, hz]
    rw [← Nat.add_mul, ← Nat.add_mul]
    congr 1
    omega
  refine eff_new (c := (o.cat r).toC) (cap := cap) (us := os ++ vs) hn ((OnlyB.drew w _).trans (alloc_only w.drew _) (fun i h => h.elim)) (alloc_new w.drew _) ⟨Or.inl rfl, fun _ => rfl⟩ (isMap_toC _) ?_ ?_ ?_ ?_ (fun _ => ⟨hsz, hcap⟩) v
  · rw [Row.toC_eq, Row.cat_eq, List.all_append, ho1, hr1]; rfl
  · rw [Row.toC_eq, Row.cat_eq]; exact denL_append ho hr
  · rw [hsz, List.length_append, hol, hrl, ← Nat.add_mul]
    exact Nat.mul_le_mul_right _ hge
  · intro i u hu
    rw [Array.getElem?_append_left (by
      have := (List.getElem?_eq_some_iff.1 hu).1
      simp only [List.length_append] at this
      simp only [Array.size_append, List.size_toArray]
      exact this)]
    rw [← hu]
    simp

theorem slc_grown {w : World} {n k cap : Nat} : den (σ.put n ⟨w.heap.size, 0, cap⟩) (.slc n 0 k (.op 0)) = some (.slice (some ⟨w.heap.size, 0, none⟩) k cap) := by
  simp [den, Env.put_same, capDen]

theorem src_zero {size : Nat} {x : AV} {u : Value} (hx : den σ x = some u) (hl : slcLen x = some 0) : (∀ w, (Builtin.lenOf u).run P w = .ok 0 w) ∧ ∀ w, (Builtin.firstCells size 0 u).run P w = .ok ([] : List Value).toArray w := by
  have sl : ∀ ao c, u = .slice ao 0 c → (∀ w, (Builtin.lenOf u).run P w = .ok 0 w) ∧ ∀ w, (Builtin.firstCells size 0 u).run P w = .ok ([] : List Value).toArray w := by
    rintro ao c rfl
    refine ⟨fun w => rfl, fun w => ?_⟩
    cases ao with
    | none => rfl
    | some a => exact run_firstCells_some w size 0 a 0 c [] (by simp) (fun j v hv => by simp at hv)
  unfold slcLen at hl
  split at hl
  · obtain rfl := Option.some.inj hl
    simp only [den, Option.map_eq_some_iff] at hx
    obtain ⟨q, _, rfl⟩ := hx
    exact sl _ _ rfl
  · obtain rfl := Option.some.inj hx
    exact sl _ _ rfl
  · simp only [den, Option.map_eq_some_iff] at hx
    obtain ⟨q, _, rfl⟩ := hx
    exact sl _ _ rfl
  · simp only [den, Option.map_eq_some_iff] at hx
    obtain ⟨q, _, rfl⟩ := hx
    exact sl _ _ rfl
  · rename_i n y
    obtain rfl := Option.some.inj hl
    obtain rfl := Option.some.inj hx
    refine ⟨fun w => by simp [Builtin.lenOf, bytesOf_size], fun w => ?_⟩
    simp only [Builtin.firstCells]
    rw [bytesOf_extract 0 y 0 0 (Nat.le_refl _) (Nat.le_refl _), show (bytesOf (0 - 0) (y / 256 ^ 0)).data = #[] from rfl]
    simp
  · cases hl

/-- The open capacity of a block holds what is known of it. -/
theorem room_of {w : World} {id el sl k eo off size : Nat} {c : Cont} {q : Loc} (hq : σ id = some q) (hb : BlkOK σ w id (.mk el sl c)) (hsl : sl = size) (h0 : 0 < size) (hk : off + k * size ≤ c.toL.length) (ho : off = eo * size) (hmap : c.isMap = false) :
    eo + k ≤ q.cap := by
  obtain ⟨q', cs, fr, us, k1, k2, k3, k4, k5, k6, k7, k8⟩ := hb.row hmap
  obtain rfl : q = q' := by rw [hq] at k1; exact Option.some.inj k1
  have hl := denL_length k4
  obtain ⟨k9, _⟩ := k8 (by omega)
  rw [hsl] at k9
  have h1 : (eo + k) * size ≤ q.cap * size := by
    rw [Nat.add_mul, ← ho]
    omega
  exact Nat.le_of_mul_le_mul_right h1 h0

/-- What the cells of a source are, in the model's words. -/
def SrcG (σ : Env) (src : Src) (size m : Nat) (G : World → List Value → Prop) : Prop :=
  ∀ (g : Nat → Option Blk) (r : Row), src.get g = some r → ∀ w : World, (∀ id ∈ src.reqs, ∀ b, g id = some b → BlkOK σ w id b) → ∃ vs, denL σ r.toL = some vs ∧ r.toL.all AV.one = true ∧ vs.length = m * size ∧ ∀ w' : World, w'.heap = w.heap → G w' vs

theorem len_run {x : AV} {u : Value} {m : Nat} (hx : den σ x = some u) (hl : slcLen x = some m) : ∀ w, (Builtin.lenOf u).run P w = .ok m w := by
  unfold slcLen at hl
  split at hl
  · obtain rfl := Option.some.inj hl
    simp only [den, Option.map_eq_some_iff] at hx
    obtain ⟨q, _, rfl⟩ := hx
    exact fun w => rfl
  · obtain rfl := Option.some.inj hl
    obtain rfl := Option.some.inj hx
    exact fun w => rfl
  · obtain rfl := Option.some.inj hl
    simp only [den, Option.map_eq_some_iff] at hx
    obtain ⟨q, _, rfl⟩ := hx
    exact fun w => rfl
  · obtain rfl := Option.some.inj hl
    simp only [den, Option.map_eq_some_iff] at hx
    obtain ⟨q, _, rfl⟩ := hx
    exact fun w => rfl
  · obtain rfl := Option.some.inj hl
    obtain rfl := Option.some.inj hx
    exact fun w => by simp [Builtin.lenOf, bytesOf_size]
  · cases hl

/-- An append onto a slice of which the capacity is open, of what is at the end of what is known of its block. -/
theorem appO_ok {T T' e size bytes ty : Nat} {zc : Array Value} {us ux : Value} {m : Nat} {src : Src} {G : World → List Value → Prop} (app : AppX P T T' e size bytes zc ty ux m G) (hsrc : SrcG σ src size m G) {o : Oper}
    (lift : ∀ {w w' : World} {u : Value}, (Builtin.append_ #[T, T'] ty #[us, ux]).run P w = .ok u w' → (execOp ρ o).run P w = .ok (.value u) w')
    {id off eo len : Nat} {q : Loc} {pos : Nat} (hq : σ id = some q) (hus : us = .slice (some ⟨q.blk, q.base + pos, none⟩) len (q.cap - eo))
    (hpos : q.cap - eo = 0 ∧ len = 0 ∨ pos = off) (hm0 : 0 < m) (hoff : off = eo * size) (hfit : (len + m) * (bytes + 1) ≤ 140737488355328) :
    ActOK P σ ρ o (.appO id off eo e size len m src) := by
  intro w g n ef hrun hn hr
  simp only [Act1.run, runAppO] at hrun
  split at hrun
  · rename_i el sl c r hg hsg
    have hb := hr id (by simp [Act1.reqs]) _ hg
    obtain ⟨vs, v1, v2, v3, v4⟩ := hsrc g r hsg w (fun id' h b hb' => hr id' (by simp [Act1.reqs, h]) b hb')
    have hrl : r.toL.length = m * size := by have := denL_length v1; omega
    cases hse : (Nat.beq sl size && Nat.beq el e) with
    | false => rw [hse] at hrun; cases hrun
    | true =>
      rw [hse] at hrun
      simp only [Bool.and_eq_true] at hse
      have hsl := beqN hse.1
      obtain rfl := (beqN hse.2).symm
      simp only [cond_true] at hrun
      simp only [cond_eq_ite] at hrun
      split at hrun
      · -- in what is known
        rename_i hk
        have hk := ble_of hk
        rw [Cont.size_eq] at hk
        simp only [Nat.add_eq, Nat.mul_eq] at hk
        split at hrun
        · rename_i c' hlay
          obtain rfl := Option.some.inj hrun
          have hroom := room_of hq hb hsl app.pos hk hoff (isMap_of_lay hlay)
          have hpos : pos = off := by rcases hpos with ⟨h1, h2⟩ | h1; omega; exact h1
          obtain ⟨q', k1, k2, k3, k4⟩ := lay_eff (P := P) hb hlay v1 v2
          obtain rfl : q = q' := by rw [hq] at k1; exact Option.some.inj k1
          refine ⟨.slice (some ⟨q.blk, q.base + off, none⟩) (len + m) (q.cap - eo), σ, _, Or.inl (lift ?_), by simp [Eff.val, den, hq, capDen], rfl, q, hq, k3, k4⟩
          rw [hus, hpos]
          refine app.room (by omega) (v4 w rfl) ?_
          rw [Addr.add_mid, Nat.add_assoc]
          exact k2
        · cases hrun
      · split at hrun
        · -- behind what is known
          rename_i hk
          have hk := beqN hk
          rw [Cont.size_eq] at hk
          simp only [Nat.add_eq, Nat.mul_eq] at hk
          split at hrun
          · rename_i o' hcut
            obtain rfl := Option.some.inj hrun
            have hmap := isMap_of_cut hcut
            obtain ⟨q', cs, fr, us', k1, k2, k3, k4, k5, k6, k7, k8⟩ := hb.row hmap
            obtain rfl : q = q' := by rw [hq] at k1; exact Option.some.inj k1
            obtain ⟨k9, k10⟩ := k8 (by have := app.pos; omega)
            rw [hsl] at k9
            have hlu := denL_length k4
            obtain ⟨d1, d2⟩ := Cont.cut_eq hcut
            have hod : denL σ o'.toL = some ((us'.drop off).take (len * size)) := by rw [d2]; exact denL_take _ (denL_drop _ k4)
            have ho1 : o'.toL.all AV.one = true := by
              rw [d2, List.all_eq_true]
              rw [List.all_eq_true] at k5
              exact fun y hy => k5 y (List.mem_of_mem_drop (List.mem_of_mem_take hy))
            have hol : ((us'.drop off).take (len * size)).length = len * size := by simp; omega
            have hroom : eo + len ≤ q.cap := room_of hq hb hsl app.pos (by omega) hoff hmap
            by_cases hin : len + m ≤ q.cap - eo
            · -- in place
              have hpos : pos = off := by rcases hpos with ⟨h1, h2⟩ | h1; omega; exact h1
              have hsp : q.base + off + (len + m) * size ≤ cs.size := by
                rw [k9]
                have h1 : (eo + (len + m)) * size ≤ q.cap * size := Nat.mul_le_mul_right _ (by omega)
                rw [Nat.add_mul, ← hoff] at h1
                omega
              have hsp2 : (len + m) * size = len * size + m * size := Nat.add_mul _ _ _
              have hst := run_storeCells_cells (P := P) q.blk (q.base + off + len * size) vs 0 w
                (fun j hj => by rw [world_cell k2]; simp; omega)
                (fun j hj => world_free k2 k3.1 (by omega)) (denL_one v1 v2)
              refine ⟨.slice (some ⟨q.blk, q.base + off, none⟩) (len + m) (q.cap - eo), σ.put n ⟨q.blk, q.base + off, q.cap - eo⟩, w.setCells q.blk (q.base + off + len * size) vs, Or.inl (lift ?_), by simp [Eff.val, den, Env.put_same, capDen], q, _, hq, rfl, Or.inr rfl, setCells_only vs w _ _, _, _, Env.put_same _ _ _, setCells_heap vs k2, ObjOK.mono (σ := σ) (Env.le_put _ (hn (Nat.lt_succ_self _))) ((objOK_row (isMap_toC _)).2 ⟨setR cs (q.base + off + len * size) vs, fr, (us'.drop off).take (len * size) ++ vs, rfl, by rw [setR_size]; rw [← hsl]; exact k3, ?_, ?_, ?_, ?_, ?_⟩)⟩
              · rw [hus, hpos]
                refine app.room hin (v4 w rfl) ?_
                rw [Addr.add_mid]
                simpa using hst
              · rw [Row.toC_eq, Row.cat_eq]; exact denL_append hod v1
              · rw [Row.toC_eq, Row.cat_eq, List.all_append, ho1, v2]; rfl
              · rw [setR_size, List.length_append, hol, v3]
                simp only
                omega
              · intro i u hu
                simp only
                rcases Nat.lt_or_ge i (len * size) with hi | hi
                · rw [setR_out vs _ _ _ (Or.inl (by omega))]
                  rw [List.getElem?_append_left (by omega), List.getElem?_take, if_pos hi, List.getElem?_drop] at hu
                  rw [Nat.add_assoc]
                  exact k7 _ _ hu
                · rw [List.getElem?_append_right (by omega), hol] at hu
                  have := setR_in vs (q.base + off + len * size) cs (i - len * size) u (by omega) hu
                  rwa [show q.base + off + len * size + (i - len * size) = q.base + off + i by omega] at this
              · intro _
                rw [setR_size]
                simp only
                refine ⟨?_, by omega⟩
                rw [k9, Nat.sub_mul, ← hoff]
                have : off ≤ q.cap * size := by rw [hoff]; exact Nat.mul_le_mul_right _ (by omega)
                omega
            · -- a new block
              have hbound : len + m ≤ 9223372036854775807 := by rw [Nat.mul_add, Nat.mul_one] at hfit; omega
              have hge := grownCap_ge w (len + m) (q.cap - eo) e
              have hmx := grownCap_le_maxLen w (len + m) (q.cap - eo) e (by simp only [maxLen]; exact hbound)
              simp only [maxLen] at hmx
              have hold : (Builtin.firstCells size len (.slice (some ⟨q.blk, q.base + pos, none⟩) len (q.cap - eo))).run P w.drew = .ok ((us'.drop off).take (len * size)).toArray w.drew := by
                rcases hpos with ⟨h1, h2⟩ | h1
                · subst h2
                  have : (us'.drop off).take (0 * size) = [] := by simp
                  rw [this]
                  exact run_firstCells_some w.drew size 0 _ _ _ [] (by simp) (fun j v hv => by simp at hv)
                · subst h1
                  refine run_firstCells_some w.drew size len _ _ _ _ hol (fun j v hv => ?_)
                  rw [Addr.add_mid]
                  show w.drew.cell? _ = _
                  rw [show w.drew.cell? ⟨q.blk, q.base + pos + j, none⟩ = w.cell? ⟨q.blk, q.base + pos + j, none⟩ from rfl, world_cell k2]
                  have hj : j < len * size := by have := (List.getElem?_eq_some_iff.1 hv).1; omega
                  rw [List.getElem?_take, if_pos hj, List.getElem?_drop] at hv
                  rw [Nat.add_assoc]
                  exact k7 _ _ hv
              obtain ⟨l, g1, g2, g3, g4⟩ := eff_grown (w := w) (n := n) (el := e) (o := o') (r := r) (os := (us'.drop off).take (len * size)) (vs := vs) (zc := zc) (len := len) (m := m) (cap := grownCap w (len + m) (q.cap - eo) e) (hn (Nat.lt_succ_self _)) app.pos app.zsize hod ho1 hol v1 v2 v3 hge hmx (.slc n 0 (len + m) (.op 0))
              refine ⟨_, _, _, Or.inl (lift ?_), slc_grown, q, l, hq, g1, Or.inl g2, g3.mono (fun k _ h => h.elim), g4⟩
              rw [hus]
              exact app.grow (by omega) hfit hold (v4 w.drew rfl)
          · cases hrun
        · cases hrun
  · cases hrun

theorem appG_ok {T T' e size bytes ty : Nat} {zc : Array Value} {us ux : Value} {m : Nat} {src : Src} {G : World → List Value → Prop} (app : AppX P T T' e size bytes zc ty ux m G) (hsrc : SrcG σ src size m G) {o : Oper}
    (lift : ∀ {w w' : World} {u : Value}, (Builtin.append_ #[T, T'] ty #[us, ux]).run P w = .ok u w' → (execOp ρ o).run P w = .ok (.value u) w')
    {s : AV} (hds : den σ s = some us) {a : Act1} (ha : appG e size bytes m src s = some a) : ActOK P σ ρ o a := by
  unfold appG at ha
  have fitOf : ∀ {k : Nat}, Nat.ble (Nat.mul k (Nat.succ bytes)) bigRoom = true → k * (bytes + 1) ≤ 140737488355328 := fun h => ble_of h
  -- a new block, out of an old row
  have newN : ∀ {base : Option Addr} {len cp : Nat} {osrc : Src}, us = .slice base len cp → cp < len + m → (len + m) * (bytes + 1) ≤ 140737488355328 →
      (∀ (w : World) (g : Nat → Option Blk) (r : Row), osrc.get g = some r → (∀ id ∈ osrc.reqs, ∀ b, g id = some b → BlkOK σ w id b) → ∃ os, denL σ r.toL = some os ∧ r.toL.all AV.one = true ∧ os.length = len * size ∧ (Builtin.firstCells size len us).run P w.drew = .ok os.toArray w.drew) →
      ActOK P σ ρ o (.appN osrc e size len m src) := by
    intro base len cp osrc hus hcp hfit hold w g n ef hrun hn hr
    simp only [Act1.run, runAppN] at hrun
    split at hrun
    · rename_i o' r hog hsg
      obtain rfl := Option.some.inj hrun
      obtain ⟨vs, v1, v2, v3, v4⟩ := hsrc g r hsg w (fun id' h b hb' => hr id' (by simp [Act1.reqs, h]) b hb')
      obtain ⟨os, o1, o2, o3, o4⟩ := hold w g o' hog (fun id' h b hb' => hr id' (by simp [Act1.reqs, h]) b hb')
      have hbound : len + m ≤ 9223372036854775807 := by rw [Nat.mul_add, Nat.mul_one] at hfit; omega
      have hge := grownCap_ge w (len + m) cp e
      have hmx := grownCap_le_maxLen w (len + m) cp e (by simp only [maxLen]; exact hbound)
      simp only [maxLen] at hmx
      refine ⟨_, _, _, Or.inl (lift ?_), slc_grown (cap := grownCap w (len + m) cp e) (w := w), eff_grown (hn (Nat.lt_succ_self _)) app.pos app.zsize o1 o2 o3 v1 v2 v3 hge hmx _⟩
      rw [hus] at o4 ⊢
      exact app.grow hcp hfit o4 (v4 w.drew rfl)
    · cases hrun
  split at ha
  · -- nil
    have hus : Value.slice none 0 0 = us := Option.some.inj hds
    simp only [cond_eq_ite] at ha
    split at ha
    · rename_i hm0
      have hm0 := beqN hm0
      subst hm0
      obtain rfl := Option.some.inj ha
      refine act_val (u := .slice none 0 0) rfl fun w => lift ?_
      rw [← hus]
      exact app.nil0 rfl (app.none0 rfl w)
    · rename_i hm0
      split at ha
      · rename_i hfit
        have hfit := fitOf hfit
        obtain rfl := Option.some.inj ha
        have hpos : 0 < m := Nat.pos_of_ne_zero fun h => hm0 (by rw [h]; rfl)
        refine newN hus.symm (by omega) (by simpa using hfit) fun w g r hg _ => ?_
        obtain rfl := Option.some.inj hg
        refine ⟨[], rfl, rfl, by simp, ?_⟩
        rw [← hus]
        rfl
      · cases ha
  · -- a capacity that is known
    rename_i id off len c
    have hds0 := hds
    simp only [den, Option.map_eq_some_iff] at hds
    obtain ⟨q, hq, hus⟩ := hds
    simp only [capDen] at hus
    simp only [cond_eq_ite] at ha
    split at ha
    · rename_i hle
      have hle := ble_of hle
      simp only [Nat.add_eq] at hle
      split at ha
      · rename_i hm0
        have hm0 := beqN hm0
        subst hm0
        obtain rfl := Option.some.inj ha
        refine act_val hds0 fun w => lift ?_
        rw [← hus]
        exact app.room hle (app.none0 rfl w) rfl
      · obtain rfl := Option.some.inj ha
        intro w g n ef hrun hn hr
        simp only [Act1.run, runAppS] at hrun
        split at hrun
        · rename_i el sl ct r hg hsg
          split at hrun
          · rename_i c' hlay
            obtain rfl := Option.some.inj hrun
            obtain ⟨vs, v1, v2, v3, v4⟩ := hsrc g r hsg w (fun id' h b hb' => hr id' (by simp [Act1.reqs, h]) b hb')
            obtain ⟨q', k1, k2, k3, k4⟩ := lay_eff (P := P) (hr id (by simp [Act1.reqs]) _ hg) hlay v1 v2
            obtain rfl : q = q' := by rw [hq] at k1; exact Option.some.inj k1
            refine ⟨.slice (some ⟨q.blk, q.base + off, none⟩) (len + m) c, σ, _, Or.inl (lift ?_), by simp [Eff.val, den, hq, capDen], rfl, q, hq, k3, k4⟩
            rw [← hus]
            refine app.room hle (v4 w rfl) ?_
            rw [Addr.add_mid, Nat.add_assoc]
            exact k2
          · cases hrun
        · cases hrun
    · rename_i hnle
      have hnle : ¬ (len + m ≤ c) := fun h => hnle (Nat.ble_eq_true_of_le h)
      split at ha
      · rename_i hb
        simp only [Bool.and_eq_true] at hb
        have hfit := fitOf hb.1
        obtain rfl := Option.some.inj ha
        refine newN hus.symm (by omega) hfit fun w g r hg hreq => ?_
        simp only [Src.get] at hg
        split at hg
        · rename_i el sl ct hgid
          obtain ⟨q', us', k1, k2, k3, k4, k5⟩ := (hreq id (by simp [Src.reqs]) _ hgid).range hg
          obtain rfl : q = q' := by rw [hq] at k1; exact Option.some.inj k1
          refine ⟨us', k2, k4, k3, ?_⟩
          rw [← hus]
          exact run_firstCells_some w.drew size len _ _ _ _ k3 (fun j v hv => by rw [Addr.add_mid]; exact k5 j v hv)
        · cases hg
      · cases ha
  · -- an open one
    rename_i id off len eo
    have hds0 := hds
    simp only [den, Option.map_eq_some_iff] at hds
    obtain ⟨q, hq, hus⟩ := hds
    simp only [capDen] at hus
    simp only [cond_eq_ite] at ha
    split at ha
    · rename_i hm0
      have hm0 := beqN hm0
      subst hm0
      split at ha
      · rename_i hoff
        have hoff := beqN hoff
        obtain rfl := Option.some.inj ha
        intro w g n ef hrun hn hr
        simp only [Act1.run, runFits] at hrun
        split at hrun
        · rename_i el sl ct hg
          cases hb : (Nat.beq sl size && Nat.blt 0 sl && Nat.ble (Nat.add off (Nat.mul len size)) ct.size) with
          | false => rw [hb] at hrun; cases hrun
          | true =>
            rw [hb] at hrun
            obtain rfl := Option.some.inj hrun
            simp only [Bool.and_eq_true] at hb
            refine ⟨us, σ, w, Or.inl (lift ?_), hds0, rfl, OnlyB.refl _ _⟩
            have hk := ble_of hb.2
            rw [Cont.size_eq] at hk
            simp only [Nat.add_eq, Nat.mul_eq] at hk
            have hroom : len ≤ q.cap - eo := by
              by_cases hmap : ct.isMap = true
              · have : ct.toL = [] := by
                  cases ct with
                  | txt => obtain ⟨_, _, _, _, h0, _⟩ := hr id (by simp [Act1.reqs]) _ hg; have := blt_of hb.1.2; rcases h0 with h0 | ⟨_, rfl⟩ <;> first | omega | rfl
                  | map => rfl
                  | cells => cases hmap
                  | bytes => cases hmap
                rw [this] at hk
                simp only [List.length_nil] at hk
                have : len * size = 0 := by omega
                rcases Nat.mul_eq_zero.1 this with h | h
                · omega
                · have := app.pos; omega
              · have := room_of hq (hr id (by simp [Act1.reqs]) _ hg) (beqN hb.1.1) app.pos hk hoff (by simpa using hmap)
                omega
            rw [← hus]
            exact app.room (by omega) (app.none0 rfl w) rfl
        · cases hrun
      · cases ha
    · rename_i hm0
      have hpos : 0 < m := Nat.pos_of_ne_zero fun h => hm0 (by rw [h]; rfl)
      split at ha
      · rename_i hb
        simp only [Bool.and_eq_true] at hb
        obtain rfl := Option.some.inj ha
        exact appO_ok app hsrc lift hq hus.symm (Or.inr rfl) hpos (beqN hb.1) (fitOf hb.2)
      · cases ha
  · -- nothing, at the end of what is known
    rename_i id off0 off eo
    have hds0 := hds
    simp only [den, Option.map_eq_some_iff] at hds
    obtain ⟨q, hq, hus⟩ := hds
    simp only [cond_eq_ite] at ha
    split at ha
    · rename_i hm0
      have hm0 := beqN hm0
      subst hm0
      obtain rfl := Option.some.inj ha
      refine act_val hds0 fun w => lift ?_
      rw [← hus]
      exact app.room (Nat.zero_le _) (app.none0 rfl w) rfl
    · rename_i hm0
      have hpos : 0 < m := Nat.pos_of_ne_zero fun h => hm0 (by rw [h]; rfl)
      split at ha
      · rename_i hb
        simp only [Bool.and_eq_true] at hb
        obtain rfl := Option.some.inj ha
        refine appO_ok app hsrc lift hq hus.symm ?_ hpos (beqN hb.1) (by simpa using fitOf hb.2)
        by_cases hc : q.cap = eo
        · exact Or.inl ⟨by omega, rfl⟩
        · exact Or.inr (by simp [hc])
      · cases ha
  · cases ha

theorem appF0_ok {T T' e size bytes ty : Nat} {zc : Array Value} {us ux : Value} (app : AppT P T T' e size bytes zc) {o : Oper}
    (lift : ∀ {w w' : World} {u : Value}, (Builtin.append_ #[T, T'] ty #[us, ux]).run P w = .ok u w' → (execOp ρ o).run P w = .ok (.value u) w')
    {s x : AV} (hds : den σ s = some us) (hdx : den σ x = some ux) {a : Act1} (ha : appF0 e size bytes s x = some a) : ActOK P σ ρ o a := by
  unfold appF0 at ha
  split at ha
  · cases ha
  · rename_i m hm
    split at ha
    · cases ha
    · rename_i src hsrc
      have hl : ∀ w, (Builtin.lenOf ux).run P w = .ok m w := len_run hdx hm
      exact appG_ok (app.toX ty hl fun h w => by subst h; exact (src_zero (P := P) (size := size) hdx hm).2 w) (fun g r hg w hb => (src_run (P := P) hsrc hdx hm (Nat.le_refl _) app.pos hg (w := w) hb).2) lift hds ha

theorem packT {a b : Nat} (h : a < 18446744073709551616) (q : Loc) : (Loc.mk q.blk q.base (a + 18446744073709551616 * b)).len = a ∧ (Loc.mk q.blk q.base (a + 18446744073709551616 * b)).room = b := by
  constructor
  · show (a + 18446744073709551616 * b) % 18446744073709551616 = a
    omega
  · show (a + 18446744073709551616 * b) / 18446744073709551616 = b
    omega

/-- An append of a text onto bytes that are all known. -/
theorem appT_ok {T T' e bytes ty : Nat} {zc : Array Value} {us ux : Value} (app : AppT P T T' e 1 bytes zc) {o : Oper}
    (lift : ∀ {w w' : World} {u : Value}, (Builtin.append_ #[T, T'] ty #[us, ux]).run P w = .ok u w' → (execOp ρ o).run P w = .ok (.value u) w')
    {id off len lo hi xid : Nat} {q lx : Loc} (hq : σ id = some q) (hus : us = .slice (some ⟨q.blk, q.base + off, none⟩) len (q.cap - off)) (hx : denT σ xid lo hi = some lx) (hux : ux = .slice (some ⟨lx.blk, lx.base, none⟩) lx.len lx.room)
    (hlo : 0 < lo) (hfit : (len + hi) * (bytes + 1) ≤ 140737488355328) : ActOK P σ ρ o (.appT id off e len lo hi xid) := by
  intro w g n ef hrun hn hr
  simp only [Act1.run, runAppT] at hrun
  split at hrun
  · rename_i el sl c elx slx pre hg hgx
    simp only [cond_eq_ite] at hrun
    split at hrun
    · rename_i hb
      simp only [Bool.and_eq_true] at hb
      have hsl := beqN hb.1
      obtain rfl := (beqN hb.2.1).symm
      have hsz := beqN hb.2.2
      rw [Cont.size_eq] at hsz
      simp only [Nat.add_eq] at hsz
      split at hrun
      · rename_i m y hcut
        obtain rfl := Option.some.inj hrun
        obtain ⟨hx0, hxlo, hxhi⟩ := denT_spec hx
        -- the text's bytes
        obtain ⟨lx', ox, kx1, kx2, _, csx, frx, usx, rfl, kx3, kx4, kx5, kx6, kx7, kx8, kx9, _⟩ := hr xid (by simp [Act1.reqs]) _ hgx
        obtain rfl : lx = lx' := by rw [hx0] at kx1; exact Option.some.inj kx1
        -- the old bytes
        have hbk := hr id (by simp [Act1.reqs]) _ hg
        obtain ⟨q', cs, fr, us', k1, k2, k3, k4, k5, k6, k7, k8⟩ := hbk.row (isMap_of_cut hcut)
        obtain rfl : q = q' := by rw [hq] at k1; exact Option.some.inj k1
        obtain ⟨k9, k10⟩ := k8 (by omega)
        rw [hsl, Nat.mul_one] at k9
        have hlu := denL_length k4
        obtain ⟨d1, d2⟩ := Cont.cut_eq hcut
        have hod : denL σ (unrow y m) = some ((us'.drop off).take len) := by
          have : (Row.b m y).toL = unrow y m := rfl
          rw [← this, d2]; exact denL_take _ (denL_drop _ k4)
        have hol : ((us'.drop off).take len).length = len := by simp; omega
        have hml : m = len := by
          have := denL_length hod
          rw [hol, unrow_length] at this
          exact this.symm
        subst hml
        have hob : ∀ i, i < m → ∃ b : Nat, b < 256 ∧ ((us'.drop off).take m)[i]? = some (.int .u8 b) := by
          intro i hi
          have h1 := unrow_den (σ := σ) m y
          rw [hod] at h1
          have h1 := Option.some.inj h1
          rw [h1]
          refine ⟨((unrowU y m)[i]'(by rw [unrowU_length]; exact hi)).toNat, UInt8.toNat_lt _, ?_⟩
          rw [List.getElem?_map, List.getElem?_eq_getElem (by rw [unrowU_length]; exact hi)]
          rfl
        -- what is taken
        obtain ⟨vs, v1, v2⟩ : ∃ vs : List Value, vs.length = lx.len ∧ ∀ i, i < lx.len → vs[i]? = csx[lx.base + i]? := by
          refine ⟨(csx.toList.drop lx.base).take lx.len, by simp; omega, fun i hi => ?_⟩
          rw [List.getElem?_take, if_pos hi, List.getElem?_drop, Array.getElem?_toList]
        have v3 : ∀ i, i < lx.len → ∃ b : Nat, b < 256 ∧ vs[i]? = some (.int .u8 b) := fun i hi => by
          obtain ⟨b, h1, h2⟩ := kx9 i hi
          exact ⟨b, h1, (v2 i hi).trans h2⟩
        have hl : ∀ w, (Builtin.lenOf ux).run P w = .ok lx.len w := fun w => by rw [hux]; rfl
        have hf : ∀ w' : World, w'.heap = w.heap → (Builtin.firstCells 1 lx.len ux).run P w' = .ok vs.toArray w' := fun w' hw => by
          rw [hux]
          refine run_firstCells_some w' 1 lx.len _ _ _ vs (by simpa using v1) (fun j v hv => ?_)
          have hj : j < lx.len := by have := (List.getElem?_eq_some_iff.1 hv).1; omega
          rw [v2 j hj] at hv
          show w'.cell? _ = _
          rw [← hv]
          have : w'.heap[lx.blk]? = some (.cells csx elx frx) := by rw [hw]; exact kx2
          rw [Addr.add_mid, world_cell this]
        have hone : ∀ u ∈ vs, u.oneCell' = true := fun u hu => by
          obtain ⟨i, hi, rfl⟩ := List.getElem_of_mem hu
          obtain ⟨b, _, h2⟩ := v3 i (by omega)
          rw [List.getElem?_eq_getElem hi] at h2
          rw [Option.some.inj h2]
          rfl
        have hbound : m + lx.len ≤ 140737488355328 := by
          have h1 : m + lx.len ≤ m + hi := by omega
          have h2 : (m + hi) * 1 ≤ (m + hi) * (bytes + 1) := Nat.mul_le_mul_left _ (by omega)
          omega
        by_cases hin : m + lx.len ≤ q.cap - off
        · -- in place
          have hst := run_storeCells_cells (P := P) q.blk (q.base + off + m * 1) vs 0 w
            (fun j hj => by rw [world_cell k2]; simp; omega)
            (fun j hj => world_free k2 k3.1 (by omega)) hone
          obtain ⟨p1, p2⟩ := packT (a := m + lx.len) (b := q.cap - off) (by omega) ⟨q.blk, q.base + off, 0⟩
          refine ⟨.slice (some ⟨q.blk, q.base + off, none⟩) (m + lx.len) (q.cap - off), σ.put n ⟨q.blk, q.base + off, m + lx.len + 18446744073709551616 * (q.cap - off)⟩, w.setCells q.blk (q.base + off + m * 1) vs, Or.inl (lift ?_), ?_, q, _, hq, rfl, Or.inr rfl, setCells_only vs w _ _, _, _, Env.put_same _ _ _, setCells_heap vs k2, Or.inl rfl, setR cs (q.base + off + m * 1) vs, fr, (us'.drop off).take m, rfl, ?_, denL_mono (Env.le_put _ (hn (Nat.lt_succ_self _))) _ _ hod, unrow_one m y, ?_, ?_, ?_, ?_, ?_⟩
          · rw [hus]
            refine app.room ty hl hin (hf w rfl) ?_
            rw [Addr.add_mid]
            simpa using hst
          · have : denT (σ.put n ⟨q.blk, q.base + off, m + lx.len + 18446744073709551616 * (q.cap - off)⟩) n (m + lo) (m + hi) = some ⟨q.blk, q.base + off, m + lx.len + 18446744073709551616 * (q.cap - off)⟩ := by
              unfold denT
              rw [Env.put_same]
              simp only
              rw [p1, if_pos (by omega)]
            simp only [Eff.val, den, Nat.add_eq, this, Option.map_some, p1, p2]
          · exact fun h => by cases h
          · rw [hol]; show m ≤ Loc.len _; rw [p1]; omega
          · show q.base + off + Loc.len _ ≤ _
            rw [p1, setR_size]
            omega
          · intro i u hu
            have hi : i < m := by have := (List.getElem?_eq_some_iff.1 hu).1; omega
            show (setR cs (q.base + off + m * 1) vs)[q.base + off + i]? = some u
            rw [setR_out vs _ _ _ (Or.inl (by omega))]
            rw [List.getElem?_take, if_pos hi, List.getElem?_drop] at hu
            rw [Nat.add_assoc]
            exact k7 _ _ hu
          · intro i hi
            replace hi : i < m + lx.len := by rw [← p1]; exact hi
            show ∃ b : Nat, b < 256 ∧ (setR cs (q.base + off + m * 1) vs)[q.base + off + i]? = _
            rcases Nat.lt_or_ge i m with hi2 | hi2
            · obtain ⟨b, h1, h2⟩ := hob i hi2
              refine ⟨b, h1, ?_⟩
              rw [setR_out vs _ _ _ (Or.inl (by omega))]
              rw [List.getElem?_take, if_pos hi2, List.getElem?_drop] at h2
              rw [Nat.add_assoc]
              exact k7 _ _ h2
            · obtain ⟨b, h1, h2⟩ := v3 (i - m) (by omega)
              refine ⟨b, h1, ?_⟩
              have := setR_in vs (q.base + off + m * 1) cs (i - m) _ (by omega) h2
              rwa [show q.base + off + m * 1 + (i - m) = q.base + off + i by omega] at this
          · constructor
            · show Loc.len _ ≤ Loc.room _
              rw [p1, p2]
              exact hin
            · show Loc.room _ ≤ _
              rw [p2]
              omega
        · -- a new block
          have hge := grownCap_ge w (m + lx.len) (q.cap - off) e
          have hmx := grownCap_le_maxLen w (m + lx.len) (q.cap - off) e (by simp only [maxLen]; omega)
          simp only [maxLen] at hmx
          have hold : (Builtin.firstCells 1 m (.slice (some ⟨q.blk, q.base + off, none⟩) m (q.cap - off))).run P w.drew = .ok ((us'.drop off).take m).toArray w.drew := by
            refine run_firstCells_some w.drew 1 m _ _ _ _ (by simpa using hol) (fun j v hv => ?_)
            rw [Addr.add_mid]
            show w.drew.cell? _ = _
            rw [show w.drew.cell? ⟨q.blk, q.base + off + j, none⟩ = w.cell? ⟨q.blk, q.base + off + j, none⟩ from rfl, world_cell k2]
            have hj : j < m := by have := (List.getElem?_eq_some_iff.1 hv).1; omega
            rw [List.getElem?_take, if_pos hj, List.getElem?_drop] at hv
            rw [Nat.add_assoc]
            exact k7 _ _ hv
          have hrunB := app.grow ty (base := some ⟨q.blk, q.base + off, none⟩) (sLen := m) (sCap := q.cap - off) (m := lx.len) (x := ux) hl (by omega) (by
            have h1 : (m + lx.len) * (bytes + 1) ≤ (m + hi) * (bytes + 1) := Nat.mul_le_mul_right _ (by omega)
            omega) hold (hf w.drew rfl)
          obtain ⟨p1, p2⟩ := packT (a := m + lx.len) (b := grownCap w (m + lx.len) (q.cap - off) e) (by omega) ⟨w.heap.size, 0, 0⟩
          have hasz : (((us'.drop off).take m).toArray ++ vs.toArray ++ Builtin.zeroCells zc (grownCap w (m + lx.len) (q.cap - off) e - (m + lx.len))).size = grownCap w (m + lx.len) (q.cap - off) e := by
            simp only [Array.size_append, List.size_toArray, size_zeroCells, hol, v1, app.zsize]
            omega
          have hat : ∀ (i : Nat) (u : Value), (((us'.drop off).take m) ++ vs)[i]? = some u → (((us'.drop off).take m).toArray ++ vs.toArray ++ Builtin.zeroCells zc (grownCap w (m + lx.len) (q.cap - off) e - (m + lx.len)))[i]? = some u := fun i u hu => by
            rw [Array.getElem?_append_left (by
              have := (List.getElem?_eq_some_iff.1 hu).1
              simp only [List.length_append] at this
              simp only [Array.size_append, List.size_toArray]
              exact this)]
            rw [← hu]
            simp
          refine ⟨_, σ.put n ⟨w.heap.size, 0, m + lx.len + 18446744073709551616 * grownCap w (m + lx.len) (q.cap - off) e⟩, _, Or.inl (lift (by rw [hus]; exact hrunB)), ?_, q, _, hq, rfl, Or.inl (Nat.le_refl _), ((OnlyB.drew w _).trans (alloc_only w.drew _) (fun i h => h.elim)), _, _, Env.put_same _ _ _, alloc_new w.drew _, Or.inl rfl, _, (0, 0), (us'.drop off).take m, rfl, (fun h => by cases h), denL_mono (Env.le_put _ (hn (Nat.lt_succ_self _))) _ _ hod, unrow_one m y, ?_, ?_, ?_, ?_, ?_⟩
          · have : denT (σ.put n ⟨w.heap.size, 0, m + lx.len + 18446744073709551616 * grownCap w (m + lx.len) (q.cap - off) e⟩) n (m + lo) (m + hi) = some ⟨w.heap.size, 0, m + lx.len + 18446744073709551616 * grownCap w (m + lx.len) (q.cap - off) e⟩ := by
              unfold denT
              rw [Env.put_same]
              simp only
              rw [p1, if_pos (by omega)]
            simp only [Eff.val, den, Nat.add_eq, this, Option.map_some, p1, p2]
          · rw [hol]; show m ≤ Loc.len _; rw [p1]; omega
          · show 0 + Loc.len _ ≤ _
            rw [p1, hasz]
            omega
          · intro i u hu
            show _[0 + i]? = some u
            rw [Nat.zero_add]
            exact hat i u (by rw [List.getElem?_append_left (by have := (List.getElem?_eq_some_iff.1 hu).1; exact this)]; exact hu)
          · intro i hi
            replace hi : i < m + lx.len := by rw [← p1]; exact hi
            show ∃ b : Nat, b < 256 ∧ _[0 + i]? = _
            rw [Nat.zero_add]
            rcases Nat.lt_or_ge i m with hi2 | hi2
            · obtain ⟨b, h1, h2⟩ := hob i hi2
              exact ⟨b, h1, hat i _ (by rw [List.getElem?_append_left (by omega)]; exact h2)⟩
            · obtain ⟨b, h1, h2⟩ := v3 (i - m) (by omega)
              exact ⟨b, h1, hat i _ (by rw [List.getElem?_append_right (by omega), hol]; exact h2)⟩
          · constructor
            · show Loc.len _ ≤ Loc.room _
              rw [p1, p2]
              exact hge
            · show Loc.room _ ≤ _
              rw [p2]
              exact hmx
      · cases hrun
    · cases hrun
  · cases hrun

/-- An append of a text onto bytes behind which there is no room. -/
theorem appL_ok {T T' e bytes ty : Nat} {zc : Array Value} {us ux : Value} (app : AppT P T T' e 1 bytes zc) {o : Oper}
    (lift : ∀ {w w' : World} {u : Value}, (Builtin.append_ #[T, T'] ty #[us, ux]).run P w = .ok u w' → (execOp ρ o).run P w = .ok (.value u) w')
    {id off len lo hi xid c0 : Nat} {q lx : Loc} (hq : σ id = some q) (hus : us = .slice (some ⟨q.blk, q.base + off, none⟩) len c0) (hx : denT σ xid lo hi = some lx) (hux : ux = .slice (some ⟨lx.blk, lx.base, none⟩) lx.len lx.room)
    (hlo : c0 < len + lo) (hfit : (len + hi) * (bytes + 1) ≤ 140737488355328) : ActOK P σ ρ o (.appL id off e len lo hi xid) := by
  intro w g n ef hrun hn hr
  simp only [Act1.run, runAppL] at hrun
  split at hrun
  · rename_i el sl c elx slx pre hg hgx
    split at hrun
    · rename_i m y hcut
      obtain rfl := Option.some.inj hrun
      obtain ⟨hx0, hxlo, hxhi⟩ := denT_spec hx
      obtain ⟨lx', ox, kx1, kx2, _, csx, frx, usx, rfl, kx3, kx4, kx5, kx6, kx7, kx8, kx9, _⟩ := hr xid (by simp [Act1.reqs]) _ hgx
      obtain rfl : lx = lx' := by rw [hx0] at kx1; exact Option.some.inj kx1
      obtain ⟨q', os, k1, k2, k3, k4, k5⟩ := (hr id (by simp [Act1.reqs]) _ hg).range hcut
      obtain rfl : q = q' := by rw [hq] at k1; exact Option.some.inj k1
      have k2 : denL σ (unrow y m) = some os := k2
      have hml : m = len := by
        have := denL_length k2
        rw [k3, unrow_length] at this
        exact this.symm
      subst hml
      have hob : ∀ i, i < m → ∃ b : Nat, b < 256 ∧ os[i]? = some (.int .u8 b) := by
        intro i hi
        have h1 := unrow_den (σ := σ) m y
        rw [k2] at h1
        have h1 := Option.some.inj h1
        rw [h1]
        refine ⟨((unrowU y m)[i]'(by rw [unrowU_length]; exact hi)).toNat, UInt8.toNat_lt _, ?_⟩
        rw [List.getElem?_map, List.getElem?_eq_getElem (by rw [unrowU_length]; exact hi)]
        rfl
      obtain ⟨vs, v1, v2⟩ : ∃ vs : List Value, vs.length = lx.len ∧ ∀ i, i < lx.len → vs[i]? = csx[lx.base + i]? := by
        refine ⟨(csx.toList.drop lx.base).take lx.len, by simp; omega, fun i hi => ?_⟩
        rw [List.getElem?_take, if_pos hi, List.getElem?_drop, Array.getElem?_toList]
      have v3 : ∀ i, i < lx.len → ∃ b : Nat, b < 256 ∧ vs[i]? = some (.int .u8 b) := fun i hi => by
        obtain ⟨b, h1, h2⟩ := kx9 i hi
        exact ⟨b, h1, (v2 i hi).trans h2⟩
      have hl : ∀ w, (Builtin.lenOf ux).run P w = .ok lx.len w := fun w => by rw [hux]; rfl
      have hf : ∀ w' : World, w'.heap = w.heap → (Builtin.firstCells 1 lx.len ux).run P w' = .ok vs.toArray w' := fun w' hw => by
        rw [hux]
        refine run_firstCells_some w' 1 lx.len _ _ _ vs (by simpa using v1) (fun j v hv => ?_)
        have hj : j < lx.len := by have := (List.getElem?_eq_some_iff.1 hv).1; omega
        rw [v2 j hj] at hv
        show w'.cell? _ = _
        rw [← hv]
        have : w'.heap[lx.blk]? = some (.cells csx elx frx) := by rw [hw]; exact kx2
        rw [Addr.add_mid, world_cell this]
      have hbound : m + lx.len ≤ 140737488355328 := by
        have h1 : m + lx.len ≤ m + hi := by omega
        have h2 : (m + hi) * 1 ≤ (m + hi) * (bytes + 1) := Nat.mul_le_mul_left _ (by omega)
        omega
      have hge := grownCap_ge w (m + lx.len) c0 e
      have hmx := grownCap_le_maxLen w (m + lx.len) c0 e (by simp only [maxLen]; omega)
      simp only [maxLen] at hmx
      have hold : (Builtin.firstCells 1 m (.slice (some ⟨q.blk, q.base + off, none⟩) m c0)).run P w.drew = .ok os.toArray w.drew := by
        refine run_firstCells_some w.drew 1 m _ _ _ _ (by simpa using k3) (fun j v hv => ?_)
        rw [Addr.add_mid]
        exact k5 j v hv
      have hrunB := app.grow ty (base := some ⟨q.blk, q.base + off, none⟩) (sLen := m) (sCap := c0) (m := lx.len) (x := ux) hl (by omega) (by
        have h1 : (m + lx.len) * (bytes + 1) ≤ (m + hi) * (bytes + 1) := Nat.mul_le_mul_right _ (by omega)
        omega) hold (hf w.drew rfl)
      obtain ⟨p1, p2⟩ := packT (a := m + lx.len) (b := grownCap w (m + lx.len) c0 e) (by omega) ⟨w.heap.size, 0, 0⟩
      have hasz : (os.toArray ++ vs.toArray ++ Builtin.zeroCells zc (grownCap w (m + lx.len) c0 e - (m + lx.len))).size = grownCap w (m + lx.len) c0 e := by
        simp only [Array.size_append, List.size_toArray, size_zeroCells, k3, v1, app.zsize]
        omega
      have hat : ∀ (i : Nat) (u : Value), (os ++ vs)[i]? = some u → (os.toArray ++ vs.toArray ++ Builtin.zeroCells zc (grownCap w (m + lx.len) c0 e - (m + lx.len)))[i]? = some u := fun i u hu => by
        rw [Array.getElem?_append_left (by
          have := (List.getElem?_eq_some_iff.1 hu).1
          simp only [List.length_append] at this
          simp only [Array.size_append, List.size_toArray]
          exact this)]
        rw [← hu]
        simp
      refine ⟨_, σ.put n ⟨w.heap.size, 0, m + lx.len + 18446744073709551616 * grownCap w (m + lx.len) c0 e⟩, _, Or.inl (lift (by rw [hus]; exact hrunB)), ?_, _, rfl, Nat.le_refl _, ((OnlyB.drew w _).trans (alloc_only w.drew _) (fun i h => h.elim)), _, _, Env.put_same _ _ _, alloc_new w.drew _, Or.inl rfl, _, (0, 0), os, rfl, (fun h => by cases h), denL_mono (Env.le_put _ (hn (Nat.lt_succ_self _))) _ _ k2, unrow_one m y, ?_, ?_, ?_, ?_, ?_⟩
      · have : denT (σ.put n ⟨w.heap.size, 0, m + lx.len + 18446744073709551616 * grownCap w (m + lx.len) c0 e⟩) n (m + lo) (m + hi) = some ⟨w.heap.size, 0, m + lx.len + 18446744073709551616 * grownCap w (m + lx.len) c0 e⟩ := by
          unfold denT
          rw [Env.put_same]
          simp only
          rw [p1, if_pos (by omega)]
        simp only [Eff.val, den, Nat.add_eq, this, Option.map_some, p1, p2]
      · rw [k3]; show m ≤ Loc.len _; rw [p1]; omega
      · show 0 + Loc.len _ ≤ _
        rw [p1, hasz]
        omega
      · intro i u hu
        show _[0 + i]? = some u
        rw [Nat.zero_add]
        exact hat i u (by rw [List.getElem?_append_left (by have := (List.getElem?_eq_some_iff.1 hu).1; exact this)]; exact hu)
      · intro i hi
        replace hi : i < m + lx.len := by rw [← p1]; exact hi
        show ∃ b : Nat, b < 256 ∧ _[0 + i]? = _
        rw [Nat.zero_add]
        rcases Nat.lt_or_ge i m with hi2 | hi2
        · obtain ⟨b, h1, h2⟩ := hob i hi2
          exact ⟨b, h1, hat i _ (by rw [List.getElem?_append_left (by omega)]; exact h2)⟩
        · obtain ⟨b, h1, h2⟩ := v3 (i - m) (by omega)
          exact ⟨b, h1, hat i _ (by rw [List.getElem?_append_right (by omega), k3]; exact h2)⟩
      · constructor
        · show Loc.len _ ≤ Loc.room _
          rw [p1, p2]
          exact hge
        · show Loc.room _ ≤ _
          rw [p2]
          exact hmx
    · cases hrun
  · cases hrun

theorem appF_ok {T T' e size bytes ty : Nat} {zc : Array Value} {us ux : Value} (app : AppT P T T' e size bytes zc) {o : Oper}
    (lift : ∀ {w w' : World} {u : Value}, (Builtin.append_ #[T, T'] ty #[us, ux]).run P w = .ok u w' → (execOp ρ o).run P w = .ok (.value u) w')
    {s x : AV} (hds : den σ s = some us) (hdx : den σ x = some ux) {a : Act1} (ha : appF e size bytes s x = some a) : ActOK P σ ρ o a := by
  unfold appF at ha
  split at ha
  · rename_i xid lo hi
    simp only [den, Option.map_eq_some_iff] at hdx
    obtain ⟨lx, hlx, hux⟩ := hdx
    obtain ⟨_, h1, h2⟩ := denT_spec hlx
    unfold appT at ha
    split at ha
    · rename_i id off len eo
      simp only [cond_eq_ite] at ha
      split at ha
      · rename_i hh
        have hh := beqN hh
        have hlen : lx.len = 0 := by omega
        have hl : ∀ w, (Builtin.lenOf ux).run P w = .ok 0 w := fun w => by rw [← hux]; show Result.ok lx.len w = _; rw [hlen]
        refine appG_ok (app.toX ty hl fun _ w => by rw [← hux]; exact run_firstCells_some w size 0 _ _ _ [] (by simp) (fun j v hv => by simp at hv)) (fun g r hg w hb => ?_) lift hds ha
        obtain rfl := Option.some.inj hg
        exact ⟨[], rfl, rfl, by simp, fun w' _ => by rw [← hux]; exact run_firstCells_some w' size 0 _ _ _ [] (by simp) (fun j v hv => by simp at hv)⟩
      · split at ha
        · rename_i hb
          simp only [Bool.and_eq_true] at hb
          obtain rfl := Option.some.inj ha
          obtain rfl := beqN hb.1
          obtain rfl := beqN hb.2.1
          simp only [den, Option.map_eq_some_iff] at hds
          obtain ⟨q, hq, hus⟩ := hds
          exact appT_ok app lift hq hus.symm hlx hux.symm (blt_of hb.2.2.1) (ble_of hb.2.2.2)
        · cases ha
    · rename_i id off len c0
      simp only [cond_eq_ite] at ha
      split at ha
      · rename_i hh
        have hh := beqN hh
        have hlen : lx.len = 0 := by omega
        have hl : ∀ w, (Builtin.lenOf ux).run P w = .ok 0 w := fun w => by rw [← hux]; show Result.ok lx.len w = _; rw [hlen]
        refine appG_ok (app.toX ty hl fun _ w => by rw [← hux]; exact run_firstCells_some w size 0 _ _ _ [] (by simp) (fun j v hv => by simp at hv)) (fun g r hg w hb => ?_) lift hds ha
        obtain rfl := Option.some.inj hg
        exact ⟨[], rfl, rfl, by simp, fun w' _ => by rw [← hux]; exact run_firstCells_some w' size 0 _ _ _ [] (by simp) (fun j v hv => by simp at hv)⟩
      · split at ha
        · rename_i hb
          simp only [Bool.and_eq_true] at hb
          obtain rfl := Option.some.inj ha
          obtain rfl := beqN hb.1
          simp only [den, Option.map_eq_some_iff] at hds
          obtain ⟨q, hq, hus⟩ := hds
          exact appL_ok app lift hq hus.symm hlx hux.symm (blt_of hb.2.1) (ble_of hb.2.2)
        · cases ha
    · cases ha
  · exact appF0_ok app lift hds hdx ha

theorem appZ_ok {T T' e size bytes ty : Nat} {kn : IntKind} {zu us ux : Value} {z : List AV} (hT : P.underlying T = some (.slice e)) (hT' : P.underlying T' = some (.int kn)) (info : ∃ i, P.info? e = some i ∧ i.zero = some zu ∧ i.size = size ∧ i.bytes = bytes) (pos : 0 < size)
    (hz : denL σ z = some zu.cells.toList) (hz1 : z.all AV.one = true) (hzs : zu.cells.size = size) {o : Oper}
    (lift : ∀ {w w' : World} {u : Value}, (Builtin.append_ #[T, T'] ty #[us, ux]).run P w = .ok u w' → (execOp ρ o).run P w = .ok (.value u) w')
    {s x : AV} (hds : den σ s = some us) (hdx : den σ x = some ux) {a : Act1} (ha : appZ e size bytes z s x = some a) : ActOK P σ ρ o a := by
  unfold appZ at ha
  split at ha
  · rename_i k m
    simp only [cond_eq_ite] at ha
    split at ha
    · rename_i hfit
      obtain rfl := Option.some.inj hdx
      obtain ⟨i, h1, h2, h3, h4⟩ := info
      refine appG_ok (zeros_toX (kq := k) hT hT' ⟨i, zu, h1, h2, h3, h4, rfl⟩ pos hzs ty (ble_of hfit)) (fun g r hg w hb => ?_) lift hds ha
      obtain rfl := Option.some.inj hg
      refine ⟨_, ?_, repl_one hz1 m, ?_, fun _ _ => rfl⟩
      · show denL σ (repl z m) = _
        rw [zeroCells_toList]
        exact repl_den hz m
      · rw [Array.length_toList]
        simp [Builtin.zeroCells, hzs]
    · cases ha
  · cases ha
end
end Go.Sx

/- Maps. No program. -/
namespace Go.Sx
set_option linter.unusedVariables false
section
variable {P : Program} {okT : Nat → Bool} {σ : Env} {t : Tr AV} {ρ : Operand → Value}

theorem keyKind_spec {K kk : Nat} (h : keyKind P okT K = some kk) :
    (kk = 0 ∧ P.underlying K = some .string) ∨ (kk = 1 ∧ ∃ k, P.underlying K = some (.int k)) ∨ (kk = 2 ∧ okT K = true ∧ ∃ fs, P.underlying K = some (.struct ⟨fs⟩) ∧ fieldKinds P fs 0 = some [0, 0]) := by
  unfold keyKind at h
  split at h
  · rename_i hu
    exact Or.inl ⟨(Option.some.inj h).symm, hu⟩
  · rename_i k hu
    exact Or.inr (Or.inl ⟨(Option.some.inj h).symm, k, hu⟩)
  · rename_i fs hu
    cases ho : okT K with
    | false => rw [ho] at h; cases h
    | true =>
      rw [ho] at h
      simp only [cond_true] at h
      split at h
      · rename_i hf
        exact Or.inr (Or.inr ⟨(Option.some.inj h).symm, rfl, fs, hu, hf⟩)
      · cases h
  · cases h

/-- What the model says of two keys: asked, or seen at once; and that like ones are alike in each bit. -/
theorem key_eq (hk : OkT P okT) {K kk : Nat} (h : keyKind P okT K = some kk) {p q : AV} {b : Bool} (he : keyEq kk p q = some b) {u v : Value} (hu : den σ p = some u) (hv : den σ q = some v) :
    (∀ w, (Op.equal K u v).run P w = .ok b w) ∧ (kk = 2 ∨ ∀ d, P.underlying K = some d → Instr.sameNow d u v = some b) ∧ (kk = 2 → ∀ d, P.underlying K = some d → Instr.sameNow d u v = none) ∧ (b = true → Instr.sameBits 10000 v u = true) := by
  unfold keyEq at he
  split at he
  · rename_i n x m y
    cases h0 : Nat.beq kk 0 with
    | false => rw [h0] at he; cases he
    | true =>
      rw [h0] at he
      have h0 := beqN h0
      subst h0
      obtain rfl := Option.some.inj he
      obtain rfl := Option.some.inj hu
      obtain rfl := Option.some.inj hv
      have hK : P.underlying K = some .string := by rcases keyKind_spec h with ⟨_, h⟩ | ⟨h, _⟩ | ⟨h, _⟩; exact h; cases h; cases h
      have hb : ((bytesOf n x) == (bytesOf m y)) = strEq n x m y := by rw [beq_toListBytes, bytesOf_toList, bytesOf_toList, strEq_iff]
      refine ⟨fun w => ?_, Or.inr fun d hd => ?_, fun h2 => (by cases h2), fun hb2 => ?_⟩
      · have := run_equalIn_string (P := P) w 9999 K (bytesOf n x) (bytesOf m y) hK
        rw [bytesOf_toList, bytesOf_toList, ← strEq_iff] at this
        exact this
      · rw [hK] at hd
        obtain rfl := Option.some.inj hd
        show some ((bytesOf n x) == (bytesOf m y)) = _
        rw [hb]
      · show ((bytesOf m y) == (bytesOf n x)) = true
        have h3 := strEq_iff n x m y
        rw [hb2] at h3
        have h4 : unrowU x n = unrowU y m := by simpa using h3.symm
        rw [beq_toListBytes, bytesOf_toList, bytesOf_toList, h4]
        simp
  · rename_i j a k b'
    cases h0 : (Nat.beq kk 1 && Nat.beq (ikn j) (ikn k)) with
    | false => rw [h0] at he; cases he
    | true =>
      rw [h0] at he
      simp only [Bool.and_eq_true] at h0
      have h1 := beqN h0.1
      subst h1
      obtain rfl := ikn_inj (beqN h0.2)
      obtain rfl := Option.some.inj he
      obtain rfl := Option.some.inj hu
      obtain rfl := Option.some.inj hv
      obtain ⟨k', hK⟩ : ∃ k, P.underlying K = some (.int k) := by rcases keyKind_spec h with ⟨h, _⟩ | ⟨_, h⟩ | ⟨h, _⟩; cases h; exact h; cases h
      rw [ieq_iff]
      refine ⟨fun w => run_equalIn_int (P := P) w 9999 K j k' a b' hK, Or.inr fun d hd => ?_, fun h2 => (by cases h2), fun hb2 => ?_⟩
      · rw [hK] at hd
        obtain rfl := Option.some.inj hd
        show (if j = j then some (a == b') else none) = _
        simp
      · have hab : a = b' := by simpa using hb2
        subst hab
        show (j == j && a == a) = true
        simp
  · rename_i j a j' a' k b' k' b''
    cases h0 : (Nat.beq kk 2 && Nat.beq (ikn j) (ikn k) && Nat.beq (ikn j') (ikn k')) with
    | false => rw [h0] at he; cases he
    | true =>
      rw [h0] at he
      simp only [Bool.and_eq_true] at h0
      have h1 := beqN h0.1.1
      subst h1
      obtain rfl := ikn_inj (beqN h0.1.2)
      obtain rfl := ikn_inj (beqN h0.2)
      obtain rfl := Option.some.inj he
      obtain rfl := Option.some.inj hu
      obtain rfl := Option.some.inj hv
      obtain ⟨ho, fs, hK, hf⟩ : okT K = true ∧ ∃ fs, P.underlying K = some (.struct ⟨fs⟩) ∧ fieldKinds P fs 0 = some [0, 0] := by rcases keyKind_spec h with ⟨h, _⟩ | ⟨h, _⟩ | ⟨_, h⟩; cases h; cases h; exact h
      have hfo : P.fieldsOf K = ⟨fs⟩ := by simp [Program.fieldsOf, hK]
      refine ⟨fun w => ?_, Or.inl rfl, fun _ d hd => ?_, fun hb2 => ?_⟩
      · show (Op.equalIn 10000 K _ _).run P w = _
        rw [run_equalIn_agg w 9999 K _ _ (by rw [hfo]; exact hK) (hk K ho).1, hfo]
        refine cellsEq_run (σ := σ) 9998 fs 0 _ hf [.int j a, .int j' a'] [.int j b', .int j' b''] [.int j a, .int j' a'] [.int j b', .int j' b''] _ _ _ rfl rfl (fun i u h => by simpa using h) (fun i u h => by simpa using h) ?_ w
        simp only [cellsEq, cellEq, Nat.beq_refl, Bool.and_self, cond_true]
        cases ieq a b' <;> cases ieq a' b'' <;> rfl
      · rw [hK] at hd
        obtain rfl := Option.some.inj hd
        rfl
      · simp only [Bool.and_eq_true, ieq_iff, beq_iff_eq] at hb2
        obtain ⟨rfl, rfl⟩ := hb2
        simp [Instr.sameBits]
  · cases he

/-- What is found of a key. -/
def FindR (σ : Env) (u : Value) (mes : List MapEntry) : Option (Nat × AV × Nat) → Option (Nat × Value) → Prop
  | none, none => True
  | some (j, v, b), some (j', x) => j = j' ∧ ∃ me, mes[j]? = some me ∧ den σ v = some x ∧ me.val = x ∧ me.born = b ∧ Instr.sameBits 10000 me.key u = true
  | _, _ => False

theorem findE_now (hk : OkT P okT) {K kk : Nat} (h : keyKind P okT K = some kk) (h2 : kk ≠ 2) {d : TypeDesc} (hd : P.underlying K = some d) {p : AV} {u : Value} (hu : den σ p = some u) (all : List MapEntry) :
    ∀ (es : List (AV × AV × Nat)) (mes : List MapEntry) (i : Nat) (r : Option (Nat × AV × Nat)), EntsOK σ es mes → (∀ j m, mes[j]? = some m → all[i + j]? = some m) → findE kk p es i = some r →
    ∃ r', Instr.findNow d u mes i = some r' ∧ FindR σ u all r r'
  | [], mes, i, r, he, ha, hf => by
    cases he
    obtain rfl := Option.some.inj hf
    exact ⟨none, rfl, trivial⟩
  | (q, v, b) :: es, mes, i, r, he, ha, hf => by
    cases he with
    | cons h1 h3 =>
      rename_i m ms
      obtain ⟨e1, e2, e3⟩ := h1
      simp only [findE] at hf
      split at hf
      · rename_i hq
        obtain rfl := Option.some.inj hf
        obtain ⟨k1, k2, k3, k4⟩ := key_eq hk h hq hu e1
        have := k2.resolve_left h2 d hd
        exact ⟨some (i, m.val), by simp only [Instr.findNow, this], rfl, m, by simpa using ha 0 m (by simp), e2, rfl, e3, k4 rfl⟩
      · rename_i hq
        obtain ⟨k1, k2, k3, k4⟩ := key_eq hk h hq hu e1
        have := k2.resolve_left h2 d hd
        obtain ⟨r', h4, h5⟩ := findE_now hk h h2 hd hu all es ms (i + 1) r h3 (fun j m hj => by have := ha (j + 1) m (by simpa using hj); rwa [show i + (j + 1) = i + 1 + j by omega] at this) hf
        exact ⟨r', by simp only [Instr.findNow, this, h4], h5⟩
      · cases hf

theorem findE_asking (hk : OkT P okT) {K kk : Nat} (h : keyKind P okT K = some kk) {p : AV} {u : Value} (hu : den σ p = some u) (all : List MapEntry) :
    ∀ (es : List (AV × AV × Nat)) (mes : List MapEntry) (i : Nat) (r : Option (Nat × AV × Nat)), EntsOK σ es mes → (∀ j m, mes[j]? = some m → all[i + j]? = some m) → findE kk p es i = some r →
    ∃ r', (∀ w, (Instr.findAsking K u mes i).run P w = .ok r' w) ∧ FindR σ u all r r'
  | [], mes, i, r, he, ha, hf => by
    cases he
    obtain rfl := Option.some.inj hf
    exact ⟨none, fun w => rfl, trivial⟩
  | (q, v, b) :: es, mes, i, r, he, ha, hf => by
    cases he with
    | cons h1 h3 =>
      rename_i m ms
      obtain ⟨e1, e2, e3⟩ := h1
      simp only [findE] at hf
      split at hf
      · rename_i hq
        obtain rfl := Option.some.inj hf
        obtain ⟨k1, k2, k3, k4⟩ := key_eq hk h hq hu e1
        exact ⟨some (i, m.val), fun w => by simp only [Instr.findAsking, Sem.run_bind, k1, Result.andThen_ok, if_true, Sem.run_pure], rfl, m, by simpa using ha 0 m (by simp), e2, rfl, e3, k4 rfl⟩
      · rename_i hq
        obtain ⟨k1, k2, k3, k4⟩ := key_eq hk h hq hu e1
        obtain ⟨r', h4, h5⟩ := findE_asking hk h hu all es ms (i + 1) r h3 (fun j m hj => by have := ha (j + 1) m (by simpa using hj); rwa [show i + (j + 1) = i + 1 + j by omega] at this) hf
        exact ⟨r', fun w => by simp only [Instr.findAsking, Sem.run_bind, k1, Result.andThen_ok, Bool.false_eq_true, if_false, h4], h5⟩
      · cases hf

theorem findK_run (hk : OkT P okT) {K kk : Nat} (h : keyKind P okT K = some kk) {p : AV} {u : Value} (hu : den σ p = some u) {es : List (AV × AV × Nat)} {mes : List MapEntry} {r : Option (Nat × AV × Nat)} (he : EntsOK σ es mes) (hf : findK kk p es = some r) :
    ∃ r', (∀ w, (Instr.findKey K u mes).run P w = .ok r' w) ∧ FindR σ u mes r r' := by
  unfold findK at hf
  split at hf
  · obtain ⟨d, hd⟩ : ∃ d, P.underlying K = some d := by rcases keyKind_spec h with ⟨_, h⟩ | ⟨_, _, h⟩ | ⟨_, _, _, h, _⟩ <;> exact ⟨_, h⟩
    by_cases h2 : kk = 2
    · obtain ⟨r', h4, h5⟩ := findE_asking hk h hu mes es mes 0 r he (fun j m hj => by simpa using hj) hf
      refine ⟨r', fun w => ?_, h5⟩
      unfold Instr.findKey
      rw [Sem.run_bind, run_underlying hd, Result.andThen_ok]
      cases es with
      | nil =>
        cases he
        obtain rfl := Option.some.inj hf
        cases r' with
        | none => rfl
        | some _ => exact h5.elim
      | cons e es =>
        cases he with
        | cons h1 h3 =>
          rename_i m ms
          obtain ⟨q, v, b⟩ := e
          simp only [findE] at hf
          have : ∃ b, keyEq kk p q = some b := by
            cases hq : keyEq kk p q with
            | none => rw [hq] at hf; cases hf
            | some b => exact ⟨b, rfl⟩
          obtain ⟨b', hq⟩ := this
          have := (key_eq hk h hq hu h1.1).2.2.1 h2 d hd
          simp only [Instr.findNow, this]
          exact h4 w
    · obtain ⟨r', h4, h5⟩ := findE_now hk h h2 hd hu mes es mes 0 r he (fun j m hj => by simpa using hj) hf
      refine ⟨r', fun w => ?_, h5⟩
      unfold Instr.findKey
      rw [Sem.run_bind, run_underlying hd, Result.andThen_ok, h4]
      rfl
  · cases hf

theorem checkKey_run {K kk : Nat} (h : keyKind P okT K = some kk) {p : AV} {u : Value} (hu : den σ p = some u) {b : Bool} (hb : keyEq kk p p = some b) (em : Bool) (w : World) : (Instr.checkKey em 10000 K u).run P w = .ok () w := by
  have one : ∀ (n : Nat) (T : Nat) (k : IntKind) (v : Value), P.underlying T = some (.int k) → ∀ w, (Instr.checkKey em (n + 1) T v).run P w = .ok () w := by
    intro n T k v hT w
    unfold Instr.checkKey
    rw [Sem.run_bind, run_underlying hT]
    cases v <;> rfl
  rcases keyKind_spec h with ⟨_, hK⟩ | ⟨_, k, hK⟩ | ⟨h2, _, fs, hK, hf⟩
  · show (Instr.checkKey em (9999 + 1) K u).run P w = _
    unfold Instr.checkKey
    rw [Sem.run_bind, run_underlying hK]
    cases u <;> rfl
  · exact one 9999 K k u hK w
  · subst h2
    have hshape : ∃ j a j' a', p = .agg [.int j a, .int j' a'] := by
      unfold keyEq at hb
      split at hb
      · cases hb
      · cases hb
      · exact ⟨_, _, _, _, rfl⟩
      · cases hb
    obtain ⟨j, a, j', a', rfl⟩ := hshape
    obtain rfl := Option.some.inj hu
    show (Instr.checkKey em (9999 + 1) K _).run P w = _
    unfold Instr.checkKey
    rw [Sem.run_bind, run_underlying hK, Result.andThen_ok]
    simp only
    -- two fields of numbers
    have fld : ∀ (fs : List Field) (i : Nat) (ks : List Nat) (cs : Array Value), fieldKinds P fs i = some ks → (∀ x ∈ ks, x = 0) → (∀ m, m < ks.length → ∃ u, cs[i + m]? = some u) →
        ∀ w, (forIn fs PUnit.unit (fun f (_ : PUnit) => if f.name ≠ "_" then (do let x ← part f.type cs f.offset; Instr.checkKey em 9999 f.type x; pure (ForInStep.yield PUnit.unit) : Sem (ForInStep PUnit)) else (pure (ForInStep.yield PUnit.unit)))).run P w = .ok PUnit.unit w := by
      intro fs
      induction fs with
      | nil => intro i ks cs h _ _ w; rfl
      | cons f fs ih =>
        intro i ks cs h h0 hcs w
        unfold fieldKinds at h
        cases hc : (Nat.beq f.offset i && Bool.not (f.name == "_")) with
        | false => rw [hc] at h; cases h
        | true =>
          rw [hc] at h
          simp only [Bool.and_eq_true, Bool.not_eq_true'] at hc
          have hname : f.name ≠ "_" := by simpa using hc.2
          have ho := beqN hc.1
          simp only [cond_true] at h
          split at h
          · rename_i K' ds hu hds
            obtain rfl := Option.some.inj h
            obtain ⟨x, hx⟩ := hcs 0 (by simp)
            have hpart : ∀ w, (part f.type cs f.offset).run P w = .ok x w := by
              intro w
              have hagg : (Go.isAgg f.type).run P w = .ok false w := by
                unfold Go.isAgg
                rw [Sem.run_bind, run_underlying hu w]
                rfl
              simp only [part, Sem.run_bind, hagg, Result.andThen_ok, Bool.false_eq_true, if_false, ho]
              rw [show cs[i]? = some x by simpa using hx]
              rfl
            rw [List.forIn_cons]
            simp only [hname, ne_eq, not_false_eq_true, if_true, Sem.run_bind, hpart, Result.andThen_ok, one 9998 f.type K' x hu, Sem.run_pure]
            exact ih (i + 1) ds cs hds (fun x hx => h0 x (by simp [hx])) (fun m hm => by have := hcs (m + 1) (by simpa using hm); rwa [show i + (m + 1) = i + 1 + m by omega] at this) w
          · rename_i ds _ _
            obtain rfl := Option.some.inj h
            exact absurd (h0 1 (by simp)) (by decide)
          · rename_i ds _ _
            obtain rfl := Option.some.inj h
            exact absurd (h0 2 (by simp)) (by decide)
          · cases h
    have := fld fs 0 [0, 0] #[.int j a, .int j' a'] hf (by simp) (fun m hm => by
      simp only [List.length_cons, List.length_nil] at hm
      rcases Nat.lt_or_ge m 1 with h | h
      · obtain rfl : m = 0 := by omega
        exact ⟨_, rfl⟩
      · obtain rfl : m = 1 := by omega
        exact ⟨_, rfl⟩) w
    rw [Sem.run_bind, ← Array.forIn_toList]
    rw [this]
    rfl
end
end Go.Sx

/- Maps that are read and written; all operations on the heap. No program. -/
namespace Go.Sx
set_option linter.unusedVariables false
section
variable {P : Program} {okT : Nat → Bool} {σ : Env} {t : Tr AV} {ρ : Operand → Value}

theorem map_blk {w : World} {id el sl clock : Nat} {es : List (AV × AV × Nat)} (h : BlkOK σ w id (.mk el sl (.map es clock))) :
    ∃ l mes, σ id = some l ∧ w.heap[l.blk]? = some (.map (List.toArray mes) clock) ∧ EntsOK σ es mes := by
  obtain ⟨l, o, h1, h2, mes, rfl, h3⟩ := h
  exact ⟨l, mes, h1, h2, h3⟩

theorem run_getM {w : World} {r : Nat} {es : Array MapEntry} {clock : Nat} (hb : w.heap[r]? = some (.map es clock)) : (getObj r).run P w = .ok (.map es clock) w := by
  simp [getObj, Sem.run, hb]
theorem run_setM {w : World} {r : Nat} {es : Array MapEntry} {clock : Nat} (o : Obj) (hb : w.heap[r]? = some (.map es clock)) : (setObj r o).run P w = .ok () { w with heap := w.heap.setIfInBounds r o } := by
  simp [setObj, Sem.run, hb]

theorem findK_key {kk : Nat} {p : AV} {es : List (AV × AV × Nat)} {r} (h : findK kk p es = some r) : ∃ b, keyEq kk p p = some b := by
  unfold findK at h
  split at h
  · exact ⟨_, ‹_›⟩
  · cases h

theorem put_only (w : World) (k : Nat) (o : Obj) : OnlyB w { w with heap := w.heap.setIfInBounds k o } (· = k) :=
  ⟨rfl, rfl, rfl, by simp, fun i hi hn => by simp only; rw [Array.getElem?_setIfInBounds_ne (Ne.symm hn)]⟩
theorem put_new {w : World} {k : Nat} {o o' : Obj} (h : w.heap[k]? = some o') : ({ w with heap := w.heap.setIfInBounds k o } : World).heap[k]? = some o := by
  have := (Array.getElem?_eq_some_iff.1 h).1
  simp [this]

theorem ents_length : ∀ {es : List (AV × AV × Nat)} {mes : List MapEntry}, EntsOK σ es mes → mes.length = es.length
  | _, _, .nil => rfl
  | _, _, .cons _ k => by simp [ents_length k]

theorem ents_append {es : List (AV × AV × Nat)} {mes : List MapEntry} (h : EntsOK σ es mes) {e : AV × AV × Nat} {m : MapEntry} (k : EntOK σ e m) : EntsOK σ (es ++ [e]) (mes ++ [m]) := by
  induction h with
  | nil => exact .cons k .nil
  | cons h1 _ ih => exact .cons h1 ih

theorem ents_set {p v : AV} {u x : Value} (hp : den σ p = some u) (hv : den σ v = some x) : ∀ {es : List (AV × AV × Nat)} {mes : List MapEntry} (i : Nat), EntsOK σ es mes → EntsOK σ (setE p v es i) (mes.modify i fun e => { e with key := u, val := x })
  | _, _, i, .nil => by cases i <;> exact .nil
  | (a, y, b) :: es, m :: ms, i, .cons h k => by
    cases i with
    | zero => exact .cons ⟨hp, hv, h.2.2⟩ k
    | succ i => exact .cons h (ents_set hp hv i k)

theorem ents_born {v : AV} {x : Value} (hv : den σ v = some x) {born : Nat} : ∀ {es es' : List (AV × AV × Nat)} {mes : List MapEntry}, EntsOK σ es mes → setBorn born v es = some es' →
    ∃ i, mes.findIdx? (fun e => (e.born : Int) == (born : Int)) = some i ∧ EntsOK σ es' (mes.modify i fun e => { e with val := x })
  | _, _, _, .nil, h => by cases h
  | (a, y, b) :: es, es', m :: ms, .cons h k, hs => by
    simp only [setBorn] at hs
    cases hb : Nat.beq b born with
    | true =>
      rw [hb] at hs
      obtain rfl := Option.some.inj hs
      have hb := beqN hb
      have hm : m.born = b := h.2.2
      refine ⟨0, ?_, .cons ⟨h.1, hv, h.2.2⟩ k⟩
      rw [List.findIdx?_cons]
      simp [hm, hb]
    | false =>
      rw [hb] at hs
      simp only [cond_false] at hs
      split at hs
      · rename_i l hl
        obtain rfl := Option.some.inj hs
        obtain ⟨i, h1, h2⟩ := ents_born hv k hl
        have hm : m.born = b := h.2.2
        have hne : b ≠ born := fun e => by subst e; simp at hb
        refine ⟨i + 1, ?_, .cons h h2⟩
        rw [List.findIdx?_cons, h1]
        have : ((m.born : Int) == (born : Int)) = false := by
          rw [hm]; simp; omega
        simp [this]
      · cases hs

theorem run_keyStays {old new : Value} (h : Instr.sameBits 10000 old new = true) (w : World) : (Instr.keyThatStays old new).run P w = .ok new w := by
  simp [Instr.keyThatStays, h]

theorem act_lookup (hk : OkT P okT) (he : EvOK P σ t ρ) {o : Oper} {T : Nat} {x i : Operand} {ok : Bool} (ho : o.op = .lookup T x i ok) {f} (hf : cLookup P okT T x i ok = some (.act f)) {a} (ha : f t = some a) : ActOK P σ ρ o a := by
  unfold cLookup at hf
  split at hf
  · rename_i K e x' i' hu hx hi
    split at hf
    · rename_i z kk hz hkk
      simp only [a2, Option.some.injEq, CO.act.injEq] at hf
      subst hf
      have hdx := he _ _ hx
      have hdi := he _ _ hi
      obtain ⟨zu, hzu, hzrun⟩ := run_zeroOf hz
      simp only [lookF] at ha
      split at ha
      · rename_i id hq
        obtain rfl := Option.some.inj ha
        rw [hq] at hdx
        simp only [den, Option.map_eq_some_iff] at hdx
        obtain ⟨l, hl, hm⟩ := hdx
        intro w g n ef hrun hn hr
        simp only [Act1.run, runLook] at hrun
        split at hrun
        · rename_i el sl es clock hg
          obtain ⟨l', mes, k1, k2, k3⟩ := map_blk (hr id (by simp [Act1.reqs]) _ hg)
          obtain rfl : l = l' := by rw [hl] at k1; exact Option.some.inj k1
          have base : ∀ r r', findK kk (ev i' t) es = some r → (∀ w, (Instr.findKey K (ρ i) mes).run P w = .ok r' w) → ∀ (y : Value) (b : Bool), (match r' with | some (_, v) => v = y ∧ b = true | none => zu = y ∧ b = false) →
              (execOp ρ o).run P w = .ok (.value (if ok then .tuple #[y, .bool b] else y)) w := by
            intro r r' hfk hfind y b hyb
            obtain ⟨kb, hkb⟩ := findK_key hfk
            have hchk := fun em w => checkKey_run hkk hdi hkb em w
            have : (Instr.lookup T (.map (some l.blk)) (ρ i) ok).run P w = .ok (if ok then .tuple #[y, .bool b] else y) w := by
              unfold Instr.lookup
              rw [Sem.run_bind, run_underlying hu, Result.andThen_ok]
              simp only [Sem.run_bind, run_getM k2, Result.andThen_ok, Sem.run_pure, hchk, hfind]
              cases r' with
              | none =>
                obtain ⟨rfl, rfl⟩ := hyb
                simp only [Sem.run_bind, hzrun, Result.andThen_ok, Sem.run_pure]
              | some p =>
                obtain ⟨rfl, rfl⟩ := hyb
                rfl
            simp only [execOp, ho, ← hm]
            rw [Sem.run_bind, this]
            rfl
          split at hrun
          · rename_i j v b hfk
            obtain rfl := Option.some.inj hrun
            obtain ⟨r', h1, h2⟩ := findK_run hk hkk hdi k3 hfk
            cases r' with
            | none => exact h2.elim
            | some p =>
              obtain ⟨j', y⟩ := p
              obtain ⟨rfl, me, _, hv, _⟩ := h2
              refine ⟨_, σ, w, Or.inl (base _ _ hfk h1 y true ⟨rfl, rfl⟩), ?_, rfl, OnlyB.refl _ _⟩
              cases ok with
              | true => simp only [Eff.val, den, denL, hv]; rfl
              | false => exact hv
          · rename_i hfk
            obtain rfl := Option.some.inj hrun
            obtain ⟨r', h1, h2⟩ := findK_run hk hkk hdi k3 hfk
            cases r' with
            | some p => exact h2.elim
            | none =>
              refine ⟨_, σ, w, Or.inl (base _ _ hfk h1 zu false ⟨rfl, rfl⟩), ?_, rfl, OnlyB.refl _ _⟩
              cases ok with
              | true => simp only [Eff.val, den, denL, hzu σ]; rfl
              | false => exact hzu σ
          · cases hrun
        · cases hrun
      · cases ha
    · cases hf
  · cases hf

theorem act_upd (hk : OkT P okT) (he : EvOK P σ t ρ) {o : Oper} {T : Nat} {m k x : Operand} (ho : o.op = .mapUpdate T m k x ∨ o.op = .insert T m k x) {f} (hf : cUpd P okT T m k x = some (.act f)) {a} (ha : f t = some a) : ActOK P σ ρ o a := by
  unfold cUpd at hf
  split at hf
  · rename_i K e m' k' x' hu hm hkx hx
    split at hf
    · rename_i kk hkk
      simp only [a3, Option.some.injEq, CO.act.injEq] at hf
      subst hf
      have hdm := he _ _ hm
      have hdk := he _ _ hkx
      have hdx := he _ _ hx
      simp only [updF] at ha
      split at ha
      · rename_i id hq
        obtain rfl := Option.some.inj ha
        rw [hq] at hdm
        simp only [den, Option.map_eq_some_iff] at hdm
        obtain ⟨l, hl, hmv⟩ := hdm
        intro w g n ef hrun hn hr
        simp only [Act1.run, runUpd] at hrun
        split at hrun
        · rename_i el sl es clock hg
          obtain ⟨l', mes, k1, k2, k3⟩ := map_blk (hr id (by simp [Act1.reqs]) _ hg)
          obtain rfl : l = l' := by rw [hl] at k1; exact Option.some.inj k1
          have fin : ∀ (ob : Obj), (Instr.mapUpdate T (.map (some l.blk)) (ρ k) (ρ x)).run P w = .ok () { w with heap := w.heap.setIfInBounds l.blk ob } → YieldsV P ρ o w undef { w with heap := w.heap.setIfInBounds l.blk ob } := by
            intro ob h
            refine Or.inr ⟨?_, rfl⟩
            rcases ho with ho | ho <;> simp only [execOp, ho, ← hmv, Sem.run_bind, h, Result.andThen_ok, Sem.run_pure]
          have start : ∀ r r', findK kk (ev k' t) es = some r → (∀ w, (Instr.findKey K (ρ k) mes).run P w = .ok r' w) → (Instr.mapUpdate T (.map (some l.blk)) (ρ k) (ρ x)).run P w = ((match r' with
              | some (i, _) => do
                let key ← Instr.keyThatStays (((mes.toArray[i]?).map (·.key)).getD (ρ k)) (ρ k)
                setObj l.blk (.map (mes.toArray.modify i fun e => { e with key, val := ρ x }) clock)
              | none => setObj l.blk (.map (mes.toArray.push { key := ρ k, val := ρ x, born := clock }) (clock + 1))) : Sem Unit).run P w := by
            intro r r' hfk hfind
            obtain ⟨kb, hkb⟩ := findK_key hfk
            have hchk := fun em w => checkKey_run hkk hdk hkb em w
            unfold Instr.mapUpdate
            rw [Sem.run_bind, run_underlying hu, Result.andThen_ok]
            simp only [Sem.run_bind, run_getM k2, Result.andThen_ok, hchk, hfind]
            cases r' <;> rfl
          split at hrun
          · rename_i j v b hfk
            obtain rfl := Option.some.inj hrun
            obtain ⟨r', h1, h2⟩ := findK_run hk hkk hdk k3 hfk
            cases r' with
            | none => exact h2.elim
            | some p =>
              obtain ⟨j', y⟩ := p
              obtain ⟨rfl, me, hme, hv, _, _, hsame⟩ := h2
              refine ⟨undef, σ, _, fin _ ?_, rfl, rfl, l, hl, put_only w _ _, l, _, hl, put_new k2, _, rfl, ents_set hdk hdx j k3⟩
              rw [start _ _ hfk h1]
              have hkey : (((mes.toArray[j]?).map (·.key)).getD (ρ k)) = me.key := by simp [hme]
              simp only [hkey, Sem.run_bind, run_keyStays hsame, Result.andThen_ok, run_setM _ k2]
              congr 2
              congr 1
              congr 1
              apply Array.ext'
              simp
          · rename_i hfk
            obtain rfl := Option.some.inj hrun
            obtain ⟨r', h1, h2⟩ := findK_run hk hkk hdk k3 hfk
            cases r' with
            | some p => exact h2.elim
            | none =>
              refine ⟨undef, σ, _, fin _ ?_, rfl, rfl, l, hl, put_only w _ _, l, _, hl, put_new k2, _, rfl, ents_append k3 (m := { key := ρ k, val := ρ x, born := clock }) ⟨hdk, hdx, rfl⟩⟩
              rw [start _ _ hfk h1]
              simp only [run_setM _ k2]
              congr 2
              congr 1
              congr 1
              simp
          · cases hrun
        · cases hrun
      · cases ha
    · cases hf
  · cases hf

theorem act_entry (hk : OkT P okT) (he : EvOK P σ t ρ) {o : Oper} {T : Nat} {m k : Operand} (ho : o.op = .mapEntry T m k) {f} (hf : cEntry P okT T m k = some (.act f)) {a} (ha : f t = some a) : ActOK P σ ρ o a := by
  unfold cEntry at hf
  split at hf
  · rename_i K e m' k' hu hm hkx
    split at hf
    · rename_i z kk hz hkk
      simp only [a2, Option.some.injEq, CO.act.injEq] at hf
      subst hf
      have hdm := he _ _ hm
      have hdk := he _ _ hkx
      obtain ⟨zu, hzu, hzrun⟩ := run_zeroOf hz
      simp only [mentF] at ha
      split at ha
      · rename_i id hq
        obtain rfl := Option.some.inj ha
        rw [hq] at hdm
        simp only [den, Option.map_eq_some_iff] at hdm
        obtain ⟨l, hl, hmv⟩ := hdm
        intro w g n ef hrun hn hr
        simp only [Act1.run, runMent] at hrun
        split at hrun
        · rename_i el sl es clock hg
          obtain ⟨l', mes, k1, k2, k3⟩ := map_blk (hr id (by simp [Act1.reqs]) _ hg)
          obtain rfl : l = l' := by rw [hl] at k1; exact Option.some.inj k1
          have fin : ∀ (u : Value) (ob : Obj), (Instr.mapEntry T (.map (some l.blk)) (ρ k)).run P w = .ok u { w with heap := w.heap.setIfInBounds l.blk ob } → YieldsV P ρ o w u { w with heap := w.heap.setIfInBounds l.blk ob } := by
            intro u ob h
            refine Or.inl ?_
            simp only [execOp, ho, ← hmv, Sem.run_bind, h, Result.andThen_ok, Sem.run_pure]
          have start : ∀ r r', findK kk (ev k' t) es = some r → (∀ w, (Instr.findKey K (ρ k) mes).run P w = .ok r' w) → (Instr.mapEntry T (.map (some l.blk)) (ρ k)).run P w = ((match r' with
              | some (i, v) => do
                let key ← Instr.keyThatStays (((mes.toArray[i]?).map (·.key)).getD (ρ k)) (ρ k)
                setObj l.blk (.map (mes.toArray.modify i fun e => { e with key }) clock)
                pure (.tuple #[v, goInt (((mes.toArray[i]?).map (·.born)).getD 0)])
              | none => do
                let zero ← zeroValue e
                setObj l.blk (.map (mes.toArray.push { key := ρ k, val := zero, born := clock }) (clock + 1))
                pure (.tuple #[zero, goInt clock])) : Sem Value).run P w := by
            intro r r' hfk hfind
            obtain ⟨kb, hkb⟩ := findK_key hfk
            have hchk := fun em w => checkKey_run hkk hdk hkb em w
            unfold Instr.mapEntry
            rw [Sem.run_bind, run_underlying hu, Result.andThen_ok]
            simp only [Sem.run_bind, run_getM k2, Result.andThen_ok, hchk, hfind]
            cases r' <;> rfl
          split at hrun
          · rename_i j v b hfk
            obtain rfl := Option.some.inj hrun
            obtain ⟨r', h1, h2⟩ := findK_run hk hkk hdk k3 hfk
            cases r' with
            | none => exact h2.elim
            | some p =>
              obtain ⟨j', y⟩ := p
              obtain ⟨rfl, me, hme, hv, hmv2, hborn, hsame⟩ := h2
              refine ⟨.tuple #[y, goInt b], σ, _, fin _ _ ?_, by simp only [Eff.val, den, denL, hv]; rfl, rfl, l, hl, put_only w _ _, l, _, hl, put_new k2, _, rfl, ents_set hdk hv j k3⟩
              rw [start _ _ hfk h1]
              have hkey : (((mes.toArray[j]?).map (·.key)).getD (ρ k)) = me.key := by simp [hme]
              have hb2 : (((mes.toArray[j]?).map (fun x => (x.born : Int))).getD 0) = (b : Int) := by simp [hme, hborn]
              simp only [hkey, hb2, Sem.run_bind, run_keyStays hsame, Result.andThen_ok, run_setM _ k2, Sem.run_pure]
              congr 2
              congr 1
              congr 1
              apply Array.ext'
              simp only [Array.toList_modify]
              apply List.ext_getElem?
              intro q
              rw [List.getElem?_modify, List.getElem?_modify]
              by_cases hjq : j = q
              · subst hjq
                simp [hme, ← hmv2]
              · simp [hjq]
          · rename_i hfk
            obtain rfl := Option.some.inj hrun
            obtain ⟨r', h1, h2⟩ := findK_run hk hkk hdk k3 hfk
            cases r' with
            | some p => exact h2.elim
            | none =>
              refine ⟨.tuple #[zu, goInt clock], σ, _, fin _ _ ?_, by simp only [Eff.val, den, denL, hzu σ]; rfl, rfl, l, hl, put_only w _ _, l, _, hl, put_new k2, _, rfl, ents_append k3 (m := { key := ρ k, val := zu, born := clock }) ⟨hdk, hzu σ, rfl⟩⟩
              rw [start _ _ hfk h1]
              simp only [Sem.run_bind, hzrun, Result.andThen_ok, run_setM _ k2, Sem.run_pure]
              congr 2
              congr 1
              congr 1
              simp
          · cases hrun
        · cases hrun
      · cases ha
    · cases hf
  · cases hf

theorem act_estore (he : EvOK P σ t ρ) {o : Oper} {T : Nat} {m s x : Operand} (ho : o.op = .entryStore T m s x) {f} (hf : cEStore P m s x = some (.act f)) {a} (ha : f t = some a) : ActOK P σ ρ o a := by
  unfold cEStore at hf
  split at hf
  · rename_i m' s' x' hm hs hx
    simp only [a3, Option.some.injEq, CO.act.injEq] at hf
    subst hf
    have hdm := he _ _ hm
    have hds := he _ _ hs
    have hdx := he _ _ hx
    simp only [msetF] at ha
    split at ha
    · rename_i id j b hq1 hq2
      obtain rfl := Option.some.inj ha
      rw [hq1] at hdm
      rw [hq2] at hds
      have hds : Value.int j (Int.ofNat b) = ρ s := Option.some.inj hds
      simp only [den, Option.map_eq_some_iff] at hdm
      obtain ⟨l, hl, hmv⟩ := hdm
      intro w g n ef hrun hn hr
      simp only [Act1.run, runMset] at hrun
      split at hrun
      · rename_i el sl es clock hg
        obtain ⟨l', mes, k1, k2, k3⟩ := map_blk (hr id (by simp [Act1.reqs]) _ hg)
        obtain rfl : l = l' := by rw [hl] at k1; exact Option.some.inj k1
        split at hrun
        · rename_i es' hes
          obtain rfl := Option.some.inj hrun
          obtain ⟨i, h1, h2⟩ := ents_born hdx k3 hes
          refine ⟨undef, σ, _, Or.inr ⟨?_, rfl⟩, rfl, rfl, l, hl, put_only w _ _, l, _, hl, put_new k2, _, rfl, h2⟩
          have hfi : mes.toArray.findIdx? (fun e => (e.born : Int) == (b : Int)) = some i := by simpa using h1
          have : (Instr.entryStore T (.map (some l.blk)) (.int j (Int.ofNat b)) (ρ x)).run P w = .ok () { w with heap := w.heap.setIfInBounds l.blk (.map (mes.modify i fun e => { e with val := ρ x }).toArray clock) } := by
            unfold Instr.entryStore
            have hai : ∀ w, (asInt (.int j (Int.ofNat b))).run P w = .ok (b : Int) w := fun w => rfl
            simp only [Sem.run_bind, run_getM k2, Result.andThen_ok, hai, hfi, run_setM _ k2]
            congr 2
            congr 1
            congr 1
            apply Array.ext'
            simp
          simp only [execOp, ho, ← hmv, ← hds, Sem.run_bind, this, Result.andThen_ok, Sem.run_pure]
        · cases hrun
      · cases hrun
    · cases ha
  · cases hf

theorem act_builtin (he : EvOK P σ t ρ) {o : Oper} {c : Call} (ho : o.op = .call c) {f} (hf : cCall P c = some (.act f)) {a} (ha : f t = some a) : ActOK P σ ρ o a := by
  unfold cCall at hf
  split at hf
  · rename_i b hc
    split at hf
    · rename_i vs hvs
      have lift : ∀ {w w' : World} {u : Value}, (∀ k, (Go.builtin b c.argTypes o.type k (c.args.map ρ)).run P w = .ok (.value u) w') → (execOp ρ o).run P w = .ok (.value u) w' := by
        intro w w' u h
        rw [run_builtin ho hc]
        exact h _
      unfold builtinC at hf
      split at hf
      · -- append
        split at hf
        · rename_i s' x'
          obtain ⟨s, x, hl, hds, hdx⟩ := two_args he hvs
          have hA := args_of (ρ := ρ) hl
          unfold appC at hf
          split at hf
          · rename_i T T' hts
            have hT := ts_of hts
            split at hf
            · rename_i e d hu hu'
              split at hf
              · rename_i size bytes z hz
                obtain ⟨i, zu, h1, h2, h3, h4, h5, h6, h7, h8⟩ := elemOf_spec hz
                have hzs : zu.cells.size = size := by
                  have := denL_length (h8 σ)
                  simp only [Array.length_toList] at this
                  omega
                cases hdi : isIntD d with
                | true =>
                  rw [hdi] at hf
                  simp only [cond_true, a2, Option.some.injEq, CO.act.injEq] at hf
                  subst hf
                  cases d with
                  | int kn =>
                    refine appZ_ok (ty := o.type) hu hu' ⟨i, h1, h2, h3, h4⟩ h5 (h8 σ) h7 hzs (fun {w w' u} h => lift fun _ => ?_) hds hdx ha
                    rw [hA, hT]
                    simp only [List.map_cons, List.map_nil, Go.builtin, Sem.run_bind, h, Result.andThen_ok, Sem.run_pure]
                  | _ => cases hdi
                | false =>
                  rw [hdi] at hf
                  simp only [cond_false, a2, Option.some.injEq, CO.act.injEq] at hf
                  subst hf
                  have app : AppT P T T' e size bytes zu.cells := ⟨hu, ⟨d, hu', hdi⟩, ⟨i, zu, h1, h2, h3, h4, rfl⟩, h5, hzs⟩
                  refine appF_ok (ty := o.type) app (fun {w w' u} h => lift fun _ => ?_) hds hdx ha
                  rw [hA, hT]
                  simp only [List.map_cons, List.map_nil, Go.builtin, Sem.run_bind, h, Result.andThen_ok, Sem.run_pure]
              · cases hf
            · cases hf
          · cases hf
        · cases hf
      · -- copy
        split at hf
        · rename_i s' x'
          obtain ⟨s, x, hl, hds, hdx⟩ := two_args he hvs
          have hA := args_of (ρ := ρ) hl
          unfold copyC at hf
          split at hf
          · rename_i T ts hts
            have hT := ts_of hts
            split at hf
            · rename_i e hu
              split at hf
              · rename_i size bytes z hz
                simp only [a2, Option.some.injEq, CO.act.injEq] at hf
                subst hf
                obtain ⟨i, zu, h1, h2, h3, h4, h5, h6, h7, h8⟩ := elemOf_spec hz
                have hsz : ∀ w, (Go.sizeOf e).run P w = .ok size w := fun w => by simp [Go.sizeOf, typeInfo, h1, h3]
                -- what the model's copy is
                have run0 : ∀ {base : Option Addr} {dLen dCap : Nat} {sl : Nat} {cs : List Value} {w w' : World}, ρ s = .slice base dLen dCap → (∀ w, (Builtin.lenOf (ρ x)).run P w = .ok sl w) →
                    (Builtin.firstCells size (Nat.min sl dLen) (ρ x)).run P w = .ok cs.toArray w →
                    (match base with | some a => (storeCells a cs).run P w = .ok () w' | none => w' = w) → (execOp ρ o).run P w = .ok (.value (goInt (Nat.min sl dLen))) w' := by
                  intro base dLen dCap sl cs w w' hb hlen hfc hst
                  refine lift fun _ => ?_
                  rw [hA, hT]
                  have : (Builtin.copy_ (T :: ts).toArray o.type #[ρ s, ρ x]).run P w = .ok (goInt (Nat.min sl dLen)) w' := by
                    unfold Builtin.copy_
                    simp only [List.getElem?_toArray, List.getElem?_cons_zero, List.getElem?_cons_succ]
                    rw [Sem.run_bind, run_underlying hu, hb]
                    simp only [Result.andThen_ok, Sem.run_bind, hlen, hsz, hfc]
                    cases base with
                    | none => subst hst; rfl
                    | some a => simp only [Sem.run_bind, hst, Result.andThen_ok, Sem.run_pure]
                  simp only [List.map_cons, List.map_nil, Go.builtin, Sem.run_bind, this, Result.andThen_ok, Sem.run_pure]
                simp only [copyF] at ha
                split at ha
                · rename_i a1' b1' hla hlb
                  simp only [cond_eq_ite] at ha
                  have slD : ∃ base dCap, ρ s = .slice base a1' dCap ∨ ∃ q, ρ s = .string q := by
                    unfold slcLen at hla
                    split at hla
                    · rename_i heq
                      rw [heq] at hds
                      obtain rfl := Option.some.inj hla
                      simp only [den, Option.map_eq_some_iff] at hds
                      obtain ⟨q, _, h⟩ := hds
                      exact ⟨_, _, Or.inl h.symm⟩
                    · rename_i heq
                      rw [heq] at hds
                      obtain rfl := Option.some.inj hla
                      exact ⟨none, 0, Or.inl (Option.some.inj hds).symm⟩
                    · rename_i heq
                      rw [heq] at hds
                      obtain rfl := Option.some.inj hla
                      simp only [den, Option.map_eq_some_iff] at hds
                      obtain ⟨q, _, h⟩ := hds
                      exact ⟨_, _, Or.inl h.symm⟩
                    · rename_i heq
                      rw [heq] at hds
                      obtain rfl := Option.some.inj hla
                      simp only [den, Option.map_eq_some_iff] at hds
                      obtain ⟨q, _, h⟩ := hds
                      exact ⟨_, _, Or.inl h.symm⟩
                    · rename_i heq
                      rw [heq] at hds
                      exact ⟨none, 0, Or.inr ⟨_, (Option.some.inj hds).symm⟩⟩
                    · cases hla
                  split at ha
                  · unfold copyZ at ha
                    split at ha
                    · rename_i id off len cp hq1 hq2
                      obtain rfl := Option.some.inj ha
                      rw [hq1] at hds hla
                      rw [hq2] at hdx hlb
                      obtain rfl := Option.some.inj hla
                      obtain rfl := Option.some.inj hlb
                      simp only [den, Option.map_eq_some_iff] at hds
                      obtain ⟨q, hqid, hsv⟩ := hds
                      have hxv : ρ x = .slice none 0 0 := (Option.some.inj hdx).symm
                      refine act_val (v := .int .i64 (.ofNat 0)) (u := goInt (Nat.min 0 len)) (by rw [show Nat.min 0 len = 0 from Nat.zero_min len]; rfl) fun w => ?_
                      exact run0 (w := w) (cs := []) hsv.symm (fun w => by rw [hxv]; rfl) (by rw [hxv, show Nat.min 0 len = 0 from Nat.zero_min len]; rfl) rfl
                    · cases ha
                  · split at ha
                    · rename_i src id off len cp hsrc hq
                      obtain rfl := Option.some.inj ha
                      rw [hq] at hds hla
                      obtain rfl := Option.some.inj hla
                      simp only [den, Option.map_eq_some_iff] at hds
                      obtain ⟨q, hqid, hsv⟩ := hds
                      intro w g n ef hrun hn hr
                      simp only [Act1.run, runAppS] at hrun
                      split at hrun
                      · rename_i el sl c r hg hsg
                        split at hrun
                        · rename_i c' hlay
                          obtain rfl := Option.some.inj hrun
                          obtain ⟨hlen, vs', v1, v2, v3, v4⟩ := src_run (P := P) hsrc hdx hlb (Nat.min_le_left _ _) h5 hsg (w := w) (fun id' h b hb' => hr id' (by simp [Act1.reqs, h]) b hb')
                          obtain ⟨q', k1, k2, k3, k4⟩ := lay_eff (P := P) (hr id (by simp [Act1.reqs]) _ hg) hlay v1 v2
                          obtain rfl : q = q' := by rw [hqid] at k1; exact Option.some.inj k1
                          exact ⟨goInt (Nat.min b1' len), σ, _, Or.inl (run0 hsv.symm hlen (v4 w rfl) k2), rfl, rfl, q, hqid, k3, k4⟩
                        · cases hrun
                      · cases hrun
                    · cases ha
                · cases ha
              · cases hf
            · cases hf
          · cases hf
        · cases hf
      · -- len
        split at hf
        · rename_i x'
          obtain ⟨x, hl, hdx⟩ := one_arg he hvs
          have hA := args_of (ρ := ρ) hl
          unfold lenC at hf
          split at hf
          · rename_i T ts hts
            have hT := ts_of hts
            split at hf
            · cases hf
            · cases hf
            · cases hf
            · rename_i K V hu
              simp only [a1, Option.some.injEq, CO.act.injEq] at hf
              subst hf
              simp only [lenM] at ha
              split at ha
              · rename_i hq
                rw [hq] at hdx
                have hx : Value.map none = ρ x := Option.some.inj hdx
                obtain rfl := Option.some.inj ha
                refine act_val (u := goInt 0) rfl fun w => lift fun _ => ?_
                rw [hA, hT, List.map_cons, List.map_nil, ← hx]
                simp only [Go.builtin, Builtin.len_, List.getElem?_toArray, List.getElem?_cons_zero, Sem.run_bind, run_underlying hu, Result.andThen_ok]
                rfl
              · rename_i id hq
                rw [hq] at hdx
                simp only [den, Option.map_eq_some_iff] at hdx
                obtain ⟨l, hlq, hx⟩ := hdx
                obtain rfl := Option.some.inj ha
                intro w g n ef hrun hn hr
                simp only [Act1.run, runMlen] at hrun
                split at hrun
                · rename_i el sl es clock hg
                  obtain rfl := Option.some.inj hrun
                  obtain ⟨l', mes, k1, k2, k3⟩ := map_blk (hr id (by simp [Act1.reqs]) _ hg)
                  obtain rfl : l = l' := by rw [hlq] at k1; exact Option.some.inj k1
                  have hsz : mes.length = es.length := ents_length k3
                  refine ⟨goInt es.length, σ, w, Or.inl (lift fun _ => ?_), rfl, rfl, OnlyB.refl _ _⟩
                  rw [hA, hT, List.map_cons, List.map_nil, ← hx]
                  simp only [Go.builtin, Builtin.len_, List.getElem?_toArray, List.getElem?_cons_zero, Sem.run_bind, run_underlying hu, Result.andThen_ok, run_getM k2, Sem.run_pure, List.size_toArray, hsz]
                · cases hrun
              · cases ha
            · cases hf
          · cases hf
        · cases hf
      · split at hf
        · unfold capC at hf
          split at hf
          · split at hf <;> cases hf
          · cases hf
        · cases hf
      · -- clear
        split at hf
        · rename_i x'
          obtain ⟨x, hl, hdx⟩ := one_arg he hvs
          have hA := args_of (ρ := ρ) hl
          unfold clearC at hf
          split at hf
          · rename_i T ts hts
            have hT := ts_of hts
            split at hf
            · rename_i e hu
              split at hf
              · rename_i size bytes z hz
                simp only [a1, Option.some.injEq, CO.act.injEq] at hf
                subst hf
                obtain ⟨i, zu, h1, h2, h3, h4, h5, h6, h7, h8⟩ := elemOf_spec hz
                have hz0 : ∀ w, (zeroValue e).run P w = .ok zu w := fun w => by simp [zeroValue, typeInfo, h1, h2]
                have nothing : ∀ {ao c}, ρ x = .slice ao 0 c → ActOK P σ ρ o (.val (.tup [])) := by
                  intro ao c hx
                  refine act_val (u := .tuple #[]) rfl fun w => lift fun _ => ?_
                  rw [hA, hT, List.map_cons, List.map_nil, hx]
                  simp only [Go.builtin, Builtin.clear_, List.getElem?_toArray, List.getElem?_cons_zero, Sem.run_bind, run_underlying hu, Result.andThen_ok]
                  cases ao <;> rfl
                simp only [clearF] at ha
                split at ha
                · rename_i id off n c hq
                  rw [hq] at hdx
                  simp only [den, Option.map_eq_some_iff] at hdx
                  obtain ⟨l, hlq, hx⟩ := hdx
                  simp only [cond_eq_ite] at ha
                  split at ha
                  · rename_i hn0
                    have hn0 := beqN hn0
                    subst hn0
                    obtain rfl := Option.some.inj ha
                    exact nothing hx.symm
                  · rename_i hn0
                    have hpos : n ≠ 0 := fun h => hn0 (by rw [h]; rfl)
                    obtain rfl := Option.some.inj ha
                    intro w g m ef hrun hm hr
                    simp only [Act1.run, runStore] at hrun
                    split at hrun
                    · rename_i el sl ct hg
                      have hrun : (bif (repl z n).all AV.one then (match ct.lay off (rowFor ct (repl z n)) with | some c => some (Eff.w (.tup []) id (.mk el sl c)) | none => none) else none) = some ef := hrun
                      cases hall : (repl z n).all AV.one with
                      | false => rw [hall] at hrun; cases hrun
                      | true =>
                        rw [hall] at hrun
                        simp only [cond_true] at hrun
                        split at hrun
                        · rename_i c' hlay
                          obtain rfl := Option.some.inj hrun
                          have hrl : (rowFor ct (repl z n)).toL = repl z n := by unfold rowFor; split <;> first | exact packR_toL _ | rfl
                          have hden : denL σ (rowFor ct (repl z n)).toL = some (Builtin.zeroCells zu.cells n).toList := by rw [hrl, zeroCells_toList]; exact repl_den (h8 σ) n
                          obtain ⟨q', k1, k2, k3, k4⟩ := lay_eff (P := P) (hr id (by simp [Act1.reqs]) _ hg) hlay hden (by rw [hrl]; exact hall)
                          obtain rfl : l = q' := by rw [hlq] at k1; exact Option.some.inj k1
                          refine ⟨.tuple #[], σ, _, Or.inl (lift fun _ => ?_), rfl, rfl, l, hlq, k3, k4⟩
                          rw [hA, hT, List.map_cons, List.map_nil, ← hx]
                          obtain ⟨n', rfl⟩ : ∃ n', n = n' + 1 := ⟨n - 1, by omega⟩
                          simp only [Go.builtin, Builtin.clear_, List.getElem?_toArray, List.getElem?_cons_zero, Sem.run_bind, run_underlying hu, Result.andThen_ok, hz0, k2, Sem.run_pure]
                        · cases hrun
                    · cases hrun
                · rename_i hq
                  rw [hq] at hdx
                  obtain rfl := Option.some.inj ha
                  exact nothing (Option.some.inj hdx).symm
                · rename_i id o0 o1 eo hq
                  rw [hq] at hdx
                  simp only [den, Option.map_eq_some_iff] at hdx
                  obtain ⟨l, hlq, hx⟩ := hdx
                  obtain rfl := Option.some.inj ha
                  exact nothing hx.symm
                · cases ha
              · cases hf
            · cases hf
          · cases hf
        · cases hf
      · split at hf <;> cases hf
      · split at hf <;> cases hf
      · cases hf
    · cases hf
  · split at hf <;> cases hf
  · cases hf

/-- All operations on the heap. -/
theorem act_all (hk : OkT P okT) (he : EvOK P σ t ρ) {o : Oper} {f} (hf : opC P okT o.op = some (.act f)) {a} (ha : f t = some a) : ActOK P σ ρ o a := by
  cases hop : o.op <;> rw [hop] at hf <;> simp only [opC] at hf
  case alloc => exact act_alloc he hop hf ha
  case box => exact act_box he hop hf ha
  case buildSlice => exact act_buildS he hop hf ha
  case insert => exact act_upd hk he (Or.inr hop) hf ha
  case load => exact act_load he hop hf ha
  case store => exact act_store he hop hf ha
  case convert => exact act_conv he hop hf ha
  case makeMap => exact act_makeM he hop hf ha
  case makeSlice => exact act_makeS he hop hf ha
  case slice => exact act_slice he hop hf ha
  case lookup => exact act_lookup hk he hop hf ha
  case mapUpdate => exact act_upd hk he (Or.inl hop) hf ha
  case mapEntry => exact act_entry hk he hop hf ha
  case entryStore => exact act_estore he hop hf ha
  case call => exact act_builtin he hop hf ha
  case move => unfold cMove at hf; split at hf <;> cases hf
  case assign => unfold cMove at hf; split at hf <;> cases hf
  case pick => unfold cPick at hf; split at hf <;> cases hf
  case build => unfold cBuild at hf; split at hf <;> first | (cases hf; done) | (split at hf <;> cases hf)
  case nilCheck => unfold cNil at hf; split at hf <;> cases hf
  case sliceToArrayPointer => unfold cS2A at hf; split at hf <;> cases hf
  case binOp => unfold cBin at hf; split at hf <;> cases hf
  case unOp => unfold cUn at hf; split at hf <;> first | (cases hf; done) | (split at hf <;> cases hf)
  case makeInterface => unfold cIface at hf; split at hf <;> first | (cases hf; done) | (simp only [cond_eq_ite] at hf; split at hf <;> cases hf)
  case makeFunc => unfold cFunc at hf; split at hf <;> cases hf
  case fieldAddr => unfold cFieldA at hf; split at hf <;> first | (cases hf; done) | (split at hf <;> first | (cases hf; done) | (split at hf <;> cases hf))
  case field => unfold cField at hf; split at hf <;> first | (cases hf; done) | (split at hf <;> first | (cases hf; done) | (split at hf <;> cases hf))
  case indexAddr => unfold cIndexA at hf; split at hf <;> first | (cases hf; done) | (split at hf <;> cases hf)
  case index => unfold cIndex at hf; split at hf <;> first | (cases hf; done) | (split at hf <;> cases hf)
  case typeAssert => unfold cAssert at hf; split at hf <;> first | (cases hf; done) | (simp only [cond_eq_ite] at hf; split at hf <;> cases hf)
  case extract => unfold cExt at hf; split at hf <;> cases hf
  case defer => unfold cDefer at hf; split at hf <;> first | (cases hf; done) | (split at hf <;> cases hf)
  case panic => unfold cPanic at hf; split at hf <;> cases hf
  all_goals cases hf
end
end Go.Sx

/- A heap that stands in a world; frames of a call. No program. -/
namespace Go.Sx
set_option linter.unusedVariables false

abbrev Hp := Nat → Option Blk

/-- The named blocks are there, and apart from one another. -/
structure Rep (σ : Env) (h : Hp) (w : World) : Prop where
  ok : ∀ id b, h id = some b → BlkOK σ w id b
  inj : ∀ i j b c l m, h i = some b → h j = some c → σ i = some l → σ j = some m → l.blk = m.blk → i = j

theorem Rep.sub {σ : Env} {h h' : Hp} {w : World} (k : Rep σ h w) (hs : ∀ id b, h' id = some b → h id = some b) : Rep σ h' w :=
  ⟨fun id b e => k.ok id b (hs id b e), fun i j b c l m e1 e2 => k.inj i j b c l m (hs i b e1) (hs j c e2)⟩

/-- The blocks of a heap. -/
def InA (σ : Env) (h : Hp) (k : Nat) : Prop := ∃ id b l, h id = some b ∧ σ id = some l ∧ l.blk = k

/-- The blocks of a heap that may be written. -/
def InH (σ : Env) (h : Hp) (k : Nat) : Prop := ∃ id b l, roN ≤ id ∧ h id = some b ∧ σ id = some l ∧ l.blk = k

theorem InH.a {σ : Env} {h : Hp} {k : Nat} (x : InH σ h k) : InA σ h k := let ⟨id, b, l, _, h1, h2, h3⟩ := x; ⟨id, b, l, h1, h2, h3⟩

theorem Rep.lt {σ : Env} {h : Hp} {w : World} (k : Rep σ h w) {id : Nat} {b : Blk} {l : Loc} (e : h id = some b) (hl : σ id = some l) : l.blk < w.heap.size := by
  obtain ⟨l', o, h1, h2, _⟩ := k.ok id b e
  obtain rfl : l = l' := by rw [hl] at h1; exact Option.some.inj h1
  exact (Array.getElem?_eq_some_iff.1 h2).1

/-- From a heap to a heap: names n to n' are new. -/
structure Stp (σ : Env) (h : Hp) (n : Nat) (w : World) (σ' : Env) (h' : Hp) (n' : Nat) (w' : World) : Prop where
  nle : n ≤ n'
  le : σ.le σ'
  dom : ∀ id l, σ' id = some l → σ id = some l ∨ (n ≤ id ∧ id < n')
  rep : Rep σ' h' w'
  only : OnlyB w w' (InH σ h)
  foot : ∀ id b l, h' id = some b → σ' id = some l → w.heap.size ≤ l.blk ∨ InA σ h l.blk
  footW : ∀ id b l, roN ≤ id → h' id = some b → σ' id = some l → w.heap.size ≤ l.blk ∨ InH σ h l.blk
  ids : ∀ id b, h' id = some b → (∃ c, h id = some c) ∨ (n ≤ id ∧ id < n')

theorem Stp.refl {σ : Env} {h : Hp} {n : Nat} {w : World} (k : Rep σ h w) : Stp σ h n w σ h n w :=
  ⟨Nat.le_refl _, Env.le.refl _, fun _ _ e => Or.inl e, k, OnlyB.refl _ _, fun id b l e hl => Or.inr ⟨id, b, l, e, hl, rfl⟩, fun id b l hro e hl => Or.inr ⟨id, b, l, hro, e, hl, rfl⟩, fun id b e => Or.inl ⟨b, e⟩⟩

theorem Stp.trans {σ0 σ1 σ2 : Env} {h0 h1 h2 : Hp} {n0 n1 n2 : Nat} {w0 w1 w2 : World} (a : Stp σ0 h0 n0 w0 σ1 h1 n1 w1) (b : Stp σ1 h1 n1 w1 σ2 h2 n2 w2) : Stp σ0 h0 n0 w0 σ2 h2 n2 w2 := by
  have inA : ∀ k, InA σ1 h1 k → InA σ0 h0 k ∨ w0.heap.size ≤ k := by
    rintro k ⟨id, c, l, e1, e2, rfl⟩
    rcases a.foot id c l e1 e2 with h | h
    · exact Or.inr h
    · exact Or.inl h
  have inH : ∀ k, InH σ1 h1 k → InH σ0 h0 k ∨ w0.heap.size ≤ k := by
    rintro k ⟨id, c, l, hro, e1, e2, rfl⟩
    rcases a.footW id c l hro e1 e2 with h | h
    · exact Or.inr h
    · exact Or.inl h
  refine ⟨Nat.le_trans a.nle b.nle, a.le.trans b.le, fun id l e => ?_, b.rep, a.only.trans b.only inH, fun id c l e hl => ?_, fun id c l hro e hl => ?_, fun id c e => ?_⟩
  · rcases b.dom id l e with h | ⟨h1, h2⟩
    · rcases a.dom id l h with h | ⟨h1, h2⟩
      · exact Or.inl h
      · exact Or.inr ⟨h1, Nat.lt_of_lt_of_le h2 b.nle⟩
    · exact Or.inr ⟨Nat.le_trans a.nle h1, h2⟩
  · rcases b.foot id c l e hl with h | h
    · exact Or.inl (Nat.le_trans a.only.size h)
    · rcases inA _ h with h | h
      · exact Or.inr h
      · exact Or.inl h
  · rcases b.footW id c l hro e hl with h | h
    · exact Or.inl (Nat.le_trans a.only.size h)
    · rcases inH _ h with h | h
      · exact Or.inr h
      · exact Or.inl h
  · rcases b.ids id c e with ⟨d, hd⟩ | ⟨h1, h2⟩
    · rcases a.ids id d hd with h | ⟨h1, h2⟩
      · exact Or.inl h
      · exact Or.inr ⟨h1, Nat.lt_of_lt_of_le h2 b.nle⟩
    · exact Or.inr ⟨Nat.le_trans a.nle h1, h2⟩

/-- THE FRAME: what is beside the heap stays as it was. g: the heap with more blocks; behind the step those are still there. -/
theorem Stp.frame {σ : Env} {h : Hp} {n : Nat} {w : World} {σ' : Env} {h' : Hp} {n' : Nat} {w' : World} (a : Stp σ h n w σ' h' n' w') {g : Hp} (hg : Rep σ g w) (hs : ∀ id b, h id = some b → g id = some b)
    (hn : ∀ id, n ≤ id → id < n' → g id = none) {g' : Hp} (h1 : ∀ id b, g' id = some b → h' id = some b ∨ (h id = none ∧ g id = some b)) :
    Stp σ g n w σ' g' n' w' := by
  have old : ∀ id b l, h id = none → g id = some b → σ' id = some l → σ id = some l ∧ ¬ InA σ h l.blk := by
    intro id b l e1 e2 e3
    have hσ : σ id = some l := by
      rcases a.dom id l e3 with h | ⟨k1, k2⟩
      · exact h
      · rw [hn id k1 k2] at e2; cases e2
    refine ⟨hσ, ?_⟩
    rintro ⟨j, c, m, k1, k2, k3⟩
    have := hg.inj j id c b m l (hs j c k1) e2 k2 hσ k3
    subst this
    rw [k1] at e1; cases e1
  refine ⟨a.nle, a.le, a.dom, ⟨fun id b e => ?_, fun i j b c l m e1 e2 e3 e4 e5 => ?_⟩, a.only.mono ?_, fun id b l e hl => ?_, fun id b l hro e hl => ?_, fun id b e => ?_⟩
  · rcases h1 id b e with k | ⟨k1, k2⟩
    · exact a.rep.ok id b k
    · have hb := hg.ok id b k2
      refine (hb.only a.only fun l hl => ?_).mono a.le
      exact fun hh => (old id b l k1 k2 (a.le _ _ hl)).2 hh.a
  · rcases h1 i b e1 with k | ⟨k1, k2⟩
    · rcases h1 j c e2 with q | ⟨q1, q2⟩
      · exact a.rep.inj i j b c l m k q e3 e4 e5
      · obtain ⟨s1, s2⟩ := old j c m q1 q2 e4
        rcases a.foot i b l k e3 with f | f
        · have := hg.lt q2 s1; omega
        · rw [e5] at f; exact absurd f s2
    · rcases h1 j c e2 with q | ⟨q1, q2⟩
      · obtain ⟨s1, s2⟩ := old i b l k1 k2 e3
        rcases a.foot j c m q e4 with f | f
        · have := hg.lt k2 s1; omega
        · rw [← e5] at f; exact absurd f s2
      · exact hg.inj i j b c l m k2 q2 (old i b l k1 k2 e3).1 (old j c m q1 q2 e4).1 e5
  · rintro k _ ⟨id, b, l, hro, e1, e2, e3⟩
    exact ⟨id, b, l, hro, hs id b e1, e2, e3⟩
  · rcases h1 id b e with k | ⟨k1, k2⟩
    · rcases a.foot id b l k hl with f | ⟨j, c, m, f1, f2, f3⟩
      · exact Or.inl f
      · exact Or.inr ⟨j, c, m, hs j c f1, f2, f3⟩
    · exact Or.inr ⟨id, b, l, k2, (old id b l k1 k2 hl).1, rfl⟩
  · rcases h1 id b e with k | ⟨k1, k2⟩
    · rcases a.footW id b l hro k hl with f | ⟨j, c, m, f0, f1, f2, f3⟩
      · exact Or.inl f
      · exact Or.inr ⟨j, c, m, f0, hs j c f1, f2, f3⟩
    · exact Or.inr ⟨id, b, l, hro, k2, (old id b l k1 k2 hl).1, rfl⟩
  · rcases h1 id b e with k | ⟨k1, k2⟩
    · rcases a.ids id b k with ⟨c, hc⟩ | f
      · exact Or.inl ⟨c, hs id c hc⟩
      · exact Or.inr f
    · exact Or.inl ⟨b, k2⟩

/-! ### An operation's effect as a step -/
def appE (n : Nat) (e : Eff) (h : Hp) : Hp :=
  match e with
  | .v _ => h
  | .w _ id b => fun i => if i = id then some b else h i
  | .n _ b => fun i => if i = n then some b else h i
  | .k _ id b => fun i => if i = n then some b else if i = id then none else h i

theorem eff_get (s : St) (e : Eff) (id : Nat) : (s.eff e).get id = appE s.n e s.get id := by
  obtain ⟨h, n⟩ := s
  cases e with
  | v v => rfl
  | w v i b =>
    show getP (path id) (putP (some b) (path i) h) = if id = i then some b else getP (path id) h
    exact get_put _ _ _ _
  | n v b =>
    show getP (path id) (putP (some b) (path n) h) = if id = n then some b else getP (path id) h
    exact get_put _ _ _ _
  | k v i b =>
    show getP (path id) (putP (some b) (path n) (putP none (path i) h)) = if id = n then some b else if id = i then none else getP (path id) h
    rw [get_put, get_put]

theorem eff_n (s : St) (e : Eff) : (s.eff e).n = e.top s.n := by
  obtain ⟨h, n⟩ := s
  cases e <;> rfl

/-- The effect, on any heap that has what is asked. n itself is new there. -/
theorem EffOK.stp {σ : Env} {n : Nat} {w : World} {σ' : Env} {w' : World} {e : Eff} (k : EffOK σ n w σ' w' e) {g : Hp} (hg : Rep σ g w) (hn' : n < e.top n → σ n = none) (hW : e.okW = true) (hq : ∀ id, id ∈ e.ids n → (id = n ∧ n < e.top n) ∨ ∃ b, g id = some b) :
    Stp σ g n w σ' (appE n e g) (e.top n) w' := by
  cases e with
  | v v =>
    obtain ⟨rfl, ho⟩ := k
    refine ⟨Nat.le_refl _, Env.le.refl _, fun _ _ e => Or.inl e, ⟨fun id b e => (hg.ok id b e).only ho (fun _ _ h => h), hg.inj⟩, ho.mono (fun _ _ h => h.elim), fun id b l e hl => Or.inr ⟨id, b, l, e, hl, rfl⟩, fun id b l hro e hl => Or.inr ⟨id, b, l, hro, e, hl, rfl⟩, fun id b e => Or.inl ⟨b, e⟩⟩
  | w v i b =>
    obtain ⟨rfl, l, hl, ho, hb⟩ := k
    obtain ⟨b0, hb0⟩ : ∃ b, g i = some b := by
      rcases hq i (by simp [Eff.ids]) with h | h
      · exact absurd h.2 (Nat.lt_irrefl _)
      · exact h
    have sub : ∀ j c, appE n (.w v i b) g j = some c → ∃ c', g j = some c' := by
      intro j c e
      simp only [appE] at e
      split at e
      · rename_i h; subst h; exact ⟨b0, hb0⟩
      · exact ⟨c, e⟩
    refine ⟨Nat.le_refl _, Env.le.refl _, fun _ _ e => Or.inl e, ⟨fun id c e => ?_, fun p q c d l1 l2 e1 e2 e3 e4 e5 => ?_⟩, ho.mono (fun k _ h => ⟨i, b0, l, Nat.le_of_ble_eq_true hW, hb0, hl, h.symm⟩), fun id c l' e hl' => ?_, fun id c l' hro e hl' => ?_, fun id c e => Or.inl (sub id c e)⟩
    · simp only [appE] at e
      split at e
      · rename_i h
        subst h
        obtain rfl := Option.some.inj e
        exact hb
      · rename_i hne
        refine (hg.ok id c e).only ho fun l' hl' heq => hne ?_
        exact hg.inj id i c b0 l' l e hb0 hl' hl heq
    · obtain ⟨c', hc'⟩ := sub p c e1
      obtain ⟨d', hd'⟩ := sub q d e2
      exact hg.inj p q c' d' l1 l2 hc' hd' e3 e4 e5
    · obtain ⟨c', hc'⟩ := sub id c e
      exact Or.inr ⟨id, c', l', hc', hl', rfl⟩
    · obtain ⟨c', hc'⟩ := sub id c e
      exact Or.inr ⟨id, c', l', hro, hc', hl', rfl⟩
  | n v b =>
    have hn : σ n = none := hn' (Nat.lt_succ_self _)
    obtain ⟨l, rfl, hfr, ho, hb⟩ := k
    have other : ∀ j c, appE n (.n v b) g j = some c → j ≠ n → g j = some c := by
      intro j c e hne
      simpa [appE, hne] using e
    refine ⟨Nat.le_succ _, Env.le_put _ hn, fun id m e => ?_, ⟨fun id c e => ?_, fun p q c d l1 l2 e1 e2 e3 e4 e5 => ?_⟩, ho.mono (fun _ _ h => h.elim), fun id c m e hm => ?_, fun id c m hro e hm => ?_, fun id c e => ?_⟩
    · by_cases h : id = n
      · subst h; exact Or.inr ⟨Nat.le_refl _, Nat.lt_succ_self _⟩
      · rw [Env.put_other _ _ _ h] at e; exact Or.inl e
    · by_cases h : id = n
      · subst h
        obtain rfl : b = c := by simpa [appE] using e
        exact hb
      · exact ((hg.ok id c (other id c e h)).only ho (fun _ _ h => h)).mono (Env.le_put _ hn)
    · by_cases hp : p = n
      · by_cases hq' : q = n
        · rw [hp, hq']
        · exfalso
          have := hg.lt (other q d e2 hq') (by rwa [Env.put_other _ _ _ hq'] at e4)
          rw [hp, Env.put_same] at e3
          obtain rfl := Option.some.inj e3
          omega
      · by_cases hq' : q = n
        · exfalso
          have := hg.lt (other p c e1 hp) (by rwa [Env.put_other _ _ _ hp] at e3)
          rw [hq', Env.put_same] at e4
          obtain rfl := Option.some.inj e4
          omega
        · rw [Env.put_other _ _ _ hp] at e3
          rw [Env.put_other _ _ _ hq'] at e4
          exact hg.inj p q c d l1 l2 (other p c e1 hp) (other q d e2 hq') e3 e4 e5
    · by_cases h : id = n
      · subst h
        rw [Env.put_same] at hm
        obtain rfl := Option.some.inj hm
        exact Or.inl hfr
      · rw [Env.put_other _ _ _ h] at hm
        exact Or.inr ⟨id, c, m, other id c e h, hm, rfl⟩
    · by_cases h : id = n
      · subst h
        rw [Env.put_same] at hm
        obtain rfl := Option.some.inj hm
        exact Or.inl hfr
      · rw [Env.put_other _ _ _ h] at hm
        exact Or.inr ⟨id, c, m, hro, other id c e h, hm, rfl⟩
    · by_cases h : id = n
      · subst h; exact Or.inr ⟨Nat.le_refl _, Nat.lt_succ_self _⟩
      · exact Or.inl ⟨c, other id c e h⟩
  | k v i b =>
    have hn : σ n = none := hn' (Nat.lt_succ_self _)
    obtain ⟨l0, l, hl0, rfl, hfr, ho, hb⟩ := k
    have hin : i ≠ n := fun h => by subst h; rw [hn] at hl0; cases hl0
    obtain ⟨b0, hb0⟩ : ∃ b, g i = some b := by
      rcases hq i (by simp [Eff.ids]) with h | h
      · exact absurd h.1 hin
      · exact h
    have other : ∀ j c, appE n (.k v i b) g j = some c → j ≠ n → j ≠ i ∧ g j = some c := by
      intro j c e hne
      simp only [appE, hne, if_false] at e
      split at e
      · cases e
      · exact ⟨‹_›, e⟩
    have clash : ∀ j c m, j ≠ i → g j = some c → σ j = some m → m.blk ≠ l.blk := by
      intro j c m hji hj hm heq
      rcases hfr with f | f
      · have := hg.lt hj hm; omega
      · exact hji (hg.inj j i c b0 m l0 hj hb0 hm hl0 (heq.trans f))
    refine ⟨Nat.le_succ _, Env.le_put _ hn, fun id m e => ?_, ⟨fun id c e => ?_, fun p q c d l1 l2 e1 e2 e3 e4 e5 => ?_⟩, ho.mono (fun k _ h => ⟨i, b0, l0, Nat.le_of_ble_eq_true hW, hb0, hl0, h.symm⟩), fun id c m e hm => ?_, fun id c m hro e hm => ?_, fun id c e => ?_⟩
    · by_cases h : id = n
      · subst h; exact Or.inr ⟨Nat.le_refl _, Nat.lt_succ_self _⟩
      · rw [Env.put_other _ _ _ h] at e; exact Or.inl e
    · by_cases h : id = n
      · subst h
        obtain rfl : b = c := by simpa [appE] using e
        exact hb
      · obtain ⟨h1, h2⟩ := other id c e h
        refine ((hg.ok id c h2).only ho fun m hm heq => h1 ?_).mono (Env.le_put _ hn)
        exact hg.inj id i c b0 m l0 h2 hb0 hm hl0 heq
    · by_cases hp : p = n
      · by_cases hq' : q = n
        · rw [hp, hq']
        · exfalso
          obtain ⟨h1, h2⟩ := other q d e2 hq'
          rw [Env.put_other _ _ _ hq'] at e4
          rw [hp, Env.put_same] at e3
          obtain rfl := Option.some.inj e3
          exact clash q d l2 h1 h2 e4 e5.symm
      · obtain ⟨h1, h2⟩ := other p c e1 hp
        rw [Env.put_other _ _ _ hp] at e3
        by_cases hq' : q = n
        · exfalso
          rw [hq', Env.put_same] at e4
          obtain rfl := Option.some.inj e4
          exact clash p c l1 h1 h2 e3 e5
        · rw [Env.put_other _ _ _ hq'] at e4
          exact hg.inj p q c d l1 l2 h2 (other q d e2 hq').2 e3 e4 e5
    · by_cases h : id = n
      · subst h
        rw [Env.put_same] at hm
        obtain rfl := Option.some.inj hm
        rcases hfr with f | f
        · exact Or.inl f
        · exact Or.inr ⟨i, b0, l0, hb0, hl0, f.symm⟩
      · rw [Env.put_other _ _ _ h] at hm
        exact Or.inr ⟨id, c, m, (other id c e h).2, hm, rfl⟩
    · by_cases h : id = n
      · subst h
        rw [Env.put_same] at hm
        obtain rfl := Option.some.inj hm
        rcases hfr with f | f
        · exact Or.inl f
        · exact Or.inr ⟨i, b0, l0, Nat.le_of_ble_eq_true hW, hb0, hl0, f.symm⟩
      · rw [Env.put_other _ _ _ h] at hm
        exact Or.inr ⟨id, c, m, hro, (other id c e h).2, hm, rfl⟩
    · by_cases h : id = n
      · subst h; exact Or.inr ⟨Nat.le_refl _, Nat.lt_succ_self _⟩
      · exact Or.inl ⟨c, (other id c e h).2⟩
end Go.Sx

/- A region that draws no order. No program. -/
namespace Go.Sx
set_option linter.unusedVariables false

/-- The fence that lets all in; ro: the round's record, in a round. -/
def RF (ro : Option Nat) : Fence := { fn := fun _ => True, depth := none, alive := false, round := ro }

theorem callsIn_rf {ro : Option Nat} {n : Nat} {P : Program} {f : FuncId} {args : Array Value} {w : World} {R : Ending → World → Prop} : CallsIn (RF ro) n P f args w R ↔ Calls P f args w R := (callsIn_wide (n := n))

/-- The variables' blocks have their numbers. -/
def GlobOK (P : Program) (σ : Env) : Prop := ∀ g, g < P.globals.size → ∃ c, σ g = some ⟨g, 0, c⟩

theorem GlobOK.mono {P : Program} {σ σ' : Env} (h : GlobOK P σ) (k : σ.le σ') : GlobOK P σ' := fun g hg => let ⟨c, e⟩ := h g hg; ⟨c, k _ _ e⟩

/-- The temporaries mean what they are said to. -/
structure TmpOK (σ : Env) (t : Tr AV) (N : Nat) (a : Act) : Prop where
  val : ∀ x, den σ ((getP (path x) t).getD (.tup [])) = some (a.tmps.getD x undef)
  size : N ≤ a.tmps.size

theorem TmpOK.mono {σ σ' : Env} {t : Tr AV} {N : Nat} {a : Act} (h : TmpOK σ t N a) (k : σ.le σ') : TmpOK σ' t N a := ⟨fun x => den_mono k _ _ (h.val x), h.size⟩

section
variable {ro : Option Nat} {P : Program} {okT : Nat → Bool} {σ : Env} {t : Tr AV} {N : Nat} {a : Act}

theorem ev_t (p : List Q) (t : Tr AV) : ev (.t p) t = (getP p t).getD (.tup []) := by
  show Option.rec (motive := fun _ => AV) (.tup []) (fun v => v) (getP p t) = _
  cases getP p t <;> rfl

theorem TmpOK.ev (h : TmpOK σ t N a) (hg : GlobOK P σ) : EvOK P σ t a.eval := by
  intro x y hxy
  cases x with
  | tmp i =>
    obtain rfl := Option.some.inj hxy
    rw [ev_t]
    exact h.val i
  | const v =>
    simp only [cOp] at hxy
    split at hxy
    · rename_i q hq
      obtain rfl := Option.some.inj hxy
      exact ofV_den σ v q hq
    · cases hxy
  | global g =>
    simp only [cOp] at hxy
    cases hb : Nat.blt g P.globals.size with
    | false => rw [hb] at hxy; cases hxy
    | true =>
      rw [hb] at hxy
      obtain rfl := Option.some.inj hxy
      obtain ⟨c, hc⟩ := hg g (blt_of hb)
      show (σ g).map _ = _
      rw [hc]
      rfl
  | func f =>
    obtain rfl := Option.some.inj hxy
    rfl

theorem dstP_spec {d : Option Nat} {p : Option (List Q)} (h : dstP N d = some p) : (d = none ∧ p = none) ∨ ∃ k, d = some k ∧ p = some (path k) ∧ k < N := by
  unfold dstP at h
  split at h
  · exact Or.inl ⟨rfl, (Option.some.inj h).symm⟩
  · rename_i k
    cases hb : Nat.blt k N with
    | false => rw [hb] at h; cases h
    | true =>
      rw [hb] at h
      exact Or.inr ⟨k, rfl, (Option.some.inj h).symm, blt_of hb⟩

theorem TmpOK.put (h : TmpOK σ t N a) {d : Option Nat} {p : Option (List Q)} (hd : dstP N d = some p) {v : AV} {u : Value} (hv : den σ v = some u) : TmpOK σ (putD p v t) N (a.put d u) := by
  rcases dstP_spec hd with ⟨rfl, rfl⟩ | ⟨k, rfl, rfl, hk⟩
  · exact h
  · have hs := h.size
    refine ⟨fun x => ?_, by simp only [Act.put, Array.size_setIfInBounds]; exact hs⟩
    show den σ ((getP (path x) (putP (some v) (path k) t)).getD (.tup [])) = some ((a.tmps.setIfInBounds k u).getD x undef)
    rw [get_put]
    by_cases hx : x = k
    · subst hx
      simp only [if_true, Option.getD_some, hv]
      rw [Array.getD_eq_getD_getElem?, Array.getElem?_setIfInBounds]
      simp [show x < a.tmps.size by omega]
    · simp only [hx, if_false, h.val x]
      rw [Array.getD_eq_getD_getElem?, Array.getD_eq_getD_getElem?, Array.getElem?_setIfInBounds_ne (Ne.symm hx)]

theorem den_bool {v : AV} {b : Bool} (h : den σ v = some (.bool b)) : v = .bool b := by
  cases v <;> simp only [den, Option.map_eq_some_iff, Option.some.injEq, reduceCtorEq, and_false, exists_false] at h <;> first
    | (injection h with h; rw [h])
    | (split at h <;> cases h)

theorem wanted_eq (h : TmpOK σ t N a) {ops : Array Oper} {o : Oper} {g : Option (List Q × Bool)} (hg : guardP ops o.guard = some g) : wantedA g t = Region.wanted o (yielded ops a.tmps) := by
  unfold guardP at hg
  split at hg
  · rename_i hn
    obtain rfl := Option.some.inj hg
    simp [Region.wanted, hn]
    rfl
  · rename_i j w hn
    split at hg
    · rename_i oj hoj
      split at hg
      · rename_i x hx
        obtain rfl := Option.some.inj hg
        show isB w (getP (path x) t) = _
        have hv := h.val x
        have hy : yielded ops a.tmps j = match a.tmps[x]? with | some (.bool b) => some b | _ => none := by
          simp only [yielded, hoj, Option.bind_some, hx]
          rfl
        simp only [Region.wanted, hn, hy]
        unfold isB
        split
        · rename_i b hb
          rw [hb] at hv
          have hv : Value.bool b = a.tmps.getD x undef := Option.some.inj hv
          have hx : a.tmps[x]? = some (.bool b) := by
            rw [Array.getD_eq_getD_getElem?] at hv
            cases hq : a.tmps[x]? with
            | none => rw [hq] at hv; cases hv
            | some q => rw [hq] at hv; exact congrArg some hv.symm
          rw [hx]
          cases w <;> cases b <;> rfl
        · rename_i hnb
          cases hq : a.tmps[x]? with
          | none => simp
          | some q =>
            cases q with
            | bool b =>
              exfalso
              have : a.tmps.getD x undef = .bool b := by rw [Array.getD_eq_getD_getElem?, hq]; rfl
              rw [this] at hv
              have := den_bool hv
              cases hp : getP (path x) t with
              | none => rw [hp] at this; cases this
              | some y =>
                rw [hp] at this
                have : y = .bool b := this
                subst this
                exact hnb b hp
            | _ => simp
      · cases hg
    · cases hg

/-- Deferred calls. -/
inductive DefOK (bs : List Deferred) (σ : Env) : Ds → List Deferred → Prop where
  | nil : DefOK bs σ [] bs
  | cons {g vs d ds defs cap} (ht : d.target = .fn (.func g) cap) (hv : denL σ vs = some (d.args ++ cap).toList) (k : DefOK bs σ ds defs) : DefOK bs σ ((g, vs) :: ds) (d :: defs)

theorem DefOK.mono {bs : List Deferred} {σ σ' : Env} (h : σ.le σ') {d : Ds} {l : List Deferred} (k : DefOK bs σ d l) : DefOK bs σ' d l := by
  induction k with
  | nil => exact .nil
  | cons ht hv _ ih => exact .cons ht (denL_mono h _ _ hv) ih

/-- A call is what is said of it. -/
def CallOK (P : Program) (call : Nat → List AV → St → Ro) : Prop :=
  ∀ (f : Nat) (args : List AV) (st : St) (σ : Env) (w : World) (us : List Value), Rep σ st.get w → GlobOK P σ → denL σ args = some us →
    (∀ v st', call f args st = .ret v st' → (∀ id, st.n ≤ id → id < st'.n → σ id = none) → Calls P f us.toArray w fun e w' => ∃ σ' u, e = .returned u ∧ den σ' v = some u ∧ Stp σ st.get st.n w σ' st'.get st'.n w') ∧
    (∀ v st', call f args st = .pan v st' → (∀ id, st.n ≤ id → id < st'.n → σ id = none) → Calls P f us.toArray w fun e w' => ∃ σ' u, e = .panicked [{ v := u, recovered := false }] ∧ den σ' v = some u ∧ Stp σ st.get st.n w σ' st'.get st'.n w')

/-- What is told of an operation is true of it. -/
def PEok (P : Program) (okT : Nat → Bool) (N : Nat) (ops : Array Oper) : PE → Prop
  | .mk i dst g um co => ∃ o, ops[i]? = some o ∧ opC P okT o.op = some co ∧ dstP N o.dst = some dst ∧ guardP ops o.guard = some g

/-- No function of another name stands in a called one's place. -/
def CallsOK (P : Program) : Prop := ∀ f fn c, nthL P.funcs.toList f = some fn → fn.body = some c → ∀ args w, (callFunc f args).run P w = .ok (.enter f args) w

theorem appE_some {n : Nat} {e : Eff} {h : Hp} : True := trivial

/-- The names that an operation's effect is about are asked of the heap. -/
theorem run_ids {a : Act1} {g : Hp} {n : Nat} {e : Eff} (h : a.run g n = some e) : ∀ id ∈ e.ids n, (id = n ∧ n < e.top n) ∨ ∃ b, g id = some b := by
  intro id hid
  have put : ∀ {b : Option Blk} {i : Nat} {v : AV} {b' : Blk}, (∃ x, b = some x) → b = g i → id ∈ Eff.ids n (.w v i b') → (id = n ∧ n < e.top n) ∨ ∃ b, g id = some b := by
    rintro b i v b' ⟨x, hx⟩ hb hm
    have : id = i := by simpa [Eff.ids] using hm
    subst this
    exact Or.inr ⟨x, by rw [← hb, hx]⟩
  cases a with
  | val v => obtain rfl := Option.some.inj h; simp [Eff.ids] at hid
  | load i off k ag =>
    simp only [Act1.run, runLoad] at h
    split at h
    · split at h
      · split at h
        · obtain rfl := Option.some.inj h; simp [Eff.ids] at hid
        · cases h
      · split at h
        · obtain rfl := Option.some.inj h; simp [Eff.ids] at hid
        · cases h
    · cases h
  | store i off v =>
    simp only [Act1.run, runStore] at h
    split at h
    · rename_i el sl c hg
      split at h
      · simp only [cond_eq_ite] at h
        split at h
        · split at h
          · obtain rfl := Option.some.inj h; exact put ⟨_, hg⟩ rfl hid
          · cases h
        · cases h
      · cases h
      · split at h
        · obtain rfl := Option.some.inj h; exact put ⟨_, hg⟩ rfl hid
        · cases h
    · cases h
  | new b f =>
    obtain ⟨el, sl, c⟩ := b
    simp only [Act1.run, runNew] at h
    simp only [cond_eq_ite] at h
    split at h
    · obtain rfl := Option.some.inj h
      simp only [Eff.ids, List.mem_singleton] at hid
      exact Or.inl ⟨hid, Nat.lt_succ_self _⟩
    · cases h
  | toStr i off k =>
    simp only [Act1.run, runToStr] at h
    split at h
    · split at h
      · obtain rfl := Option.some.inj h; simp [Eff.ids] at hid
      · split at h
        · obtain rfl := Option.some.inj h; simp [Eff.ids] at hid
        · cases h
      · cases h
    · cases h
  | appS i off v s =>
    simp only [Act1.run, runAppS] at h
    split at h
    · rename_i el sl c r hg hs
      split at h
      · obtain rfl := Option.some.inj h; exact put ⟨_, hg⟩ rfl hid
      · cases h
    · cases h
  | appN o el size len m s =>
    simp only [Act1.run, runAppN] at h
    split at h
    · obtain rfl := Option.some.inj h
      simp only [Eff.ids, List.mem_singleton] at hid
      exact Or.inl ⟨hid, Nat.lt_succ_self _⟩
    · cases h
  | appL i off el len lo hi xid =>
    simp only [Act1.run, runAppL] at h
    split at h
    · split at h
      · obtain rfl := Option.some.inj h
        simp only [Eff.ids, List.mem_singleton] at hid
        exact Or.inl ⟨hid, Nat.lt_succ_self _⟩
      · cases h
    · cases h
  | appT i off el len lo hi xid =>
    simp only [Act1.run, runAppT] at h
    split at h
    · rename_i el' sl c _ _ _ hg _
      simp only [cond_eq_ite] at h
      split at h
      · split at h
        · obtain rfl := Option.some.inj h
          simp only [Eff.ids, List.mem_cons, List.not_mem_nil, or_false] at hid
          rcases hid with rfl | rfl
          · exact Or.inr ⟨_, hg⟩
          · exact Or.inl ⟨rfl, Nat.lt_succ_self _⟩
        · cases h
      · cases h
    · cases h
  | appO i off eo el size len m s =>
    simp only [Act1.run, runAppO] at h
    split at h
    · rename_i el' sl c r hg hs
      simp only [cond_eq_ite] at h
      split at h
      · split at h
        · split at h
          · obtain rfl := Option.some.inj h; exact put ⟨_, hg⟩ rfl hid
          · cases h
        · split at h
          · split at h
            · obtain rfl := Option.some.inj h
              simp only [Eff.ids, List.mem_cons, List.not_mem_nil, or_false] at hid
              rcases hid with rfl | rfl
              · exact Or.inr ⟨_, hg⟩
              · exact Or.inl ⟨rfl, Nat.lt_succ_self _⟩
            · cases h
          · cases h
      · cases h
    · cases h
  | fits i k size v =>
    simp only [Act1.run, runFits] at h
    split at h
    · simp only [cond_eq_ite] at h
      split at h
      · obtain rfl := Option.some.inj h; simp [Eff.ids] at hid
      · cases h
    · cases h
  | copy i off m s =>
    simp only [Act1.run, runAppS] at h
    split at h
    · rename_i el sl c r hg hs
      split at h
      · obtain rfl := Option.some.inj h; exact put ⟨_, hg⟩ rfl hid
      · cases h
    · cases h
  | look i kk k z ok =>
    simp only [Act1.run, runLook] at h
    split at h
    · split at h
      · obtain rfl := Option.some.inj h; simp [Eff.ids] at hid
      · obtain rfl := Option.some.inj h; simp [Eff.ids] at hid
      · cases h
    · cases h
  | upd i kk k v =>
    simp only [Act1.run, runUpd] at h
    split at h
    · rename_i el sl es clock hg
      split at h
      · obtain rfl := Option.some.inj h; exact put ⟨_, hg⟩ rfl hid
      · obtain rfl := Option.some.inj h; exact put ⟨_, hg⟩ rfl hid
      · cases h
    · cases h
  | ment i kk k z =>
    simp only [Act1.run, runMent] at h
    split at h
    · rename_i el sl es clock hg
      split at h
      · obtain rfl := Option.some.inj h; exact put ⟨_, hg⟩ rfl hid
      · obtain rfl := Option.some.inj h; exact put ⟨_, hg⟩ rfl hid
      · cases h
    · cases h
  | mset i b v =>
    simp only [Act1.run, runMset] at h
    split at h
    · rename_i el sl es clock hg
      split at h
      · obtain rfl := Option.some.inj h; exact put ⟨_, hg⟩ rfl hid
      · cases h
    · cases h
  | mlen i =>
    simp only [Act1.run, runMlen] at h
    split at h
    · obtain rfl := Option.some.inj h; simp [Eff.ids] at hid
    · cases h
  | mark i v =>
    simp only [Act1.run, runMark] at h
    split at h
    · cases h
    · cases h
    · rename_i b hnm hnt hg
      obtain ⟨el, sl, ct⟩ := b
      simp only at h
      cases hq1 : Nat.ble sl 1 with
      | false => rw [hq1] at h; cases h
      | true => rw [hq1] at h; obtain rfl := Option.some.inj h; exact put ⟨_, hg⟩ rfl hid
    · cases h

theorem semAt_ran {ρ : Operand → Value} {o : Oper} {w w' : World} {s : Next} (h : (execOp ρ o).run P w = .ok s w') (hs : ∀ d, s ≠ .defer d) : Oper.semAt ro ρ o = execOp ρ o :=
  Oper.semAt_eq _ _ _ (fun c hc => by
    simp only [execOp, hc, Sem.run_bind] at h
    cases hr : (resolve ρ c o.type).run P w with
    | ok d w1 => rw [hr] at h; simp only [Result.andThen_ok, Sem.run_pure] at h; cases h; exact hs _ rfl
    | halt x y => rw [hr] at h; cases h)

/-- A value, yielded: the operation comes up. -/
theorem wpOp_value {ops : Array Oper} {Qe : Exit → Act → World → Prop} {i : Nat} {o : Oper} (hi : ops[i]? = some o) (hw : Region.wanted o (yielded ops a.tmps) = true) {K : Act → World → Prop} {w w' : World} {u : Value}
    (hy : YieldsV P a.eval o w u w') (h : K (a.put o.dst u) w') : wpOpIn (RF ro) 0 P ops Qe i K a w := by
  unfold wpOpIn
  simp only [hi, hw, if_true]
  refine ⟨fun _ _ => trivial, ?_⟩
  rcases hy with hy | ⟨hy, rfl⟩
  · rw [semAt_ran hy (by intro d h; cases h), hy]; exact h
  · rw [semAt_ran hy (by intro d h; cases h), hy]; exact h

theorem wpOp_skip {ops : Array Oper} {Qe : Exit → Act → World → Prop} {i : Nat} {o : Oper} (hi : ops[i]? = some o) (hw : Region.wanted o (yielded ops a.tmps) = false) {K : Act → World → Prop} {w : World}
    (h : K (a.put o.dst undef) w) : wpOpIn (RF ro) 0 P ops Qe i K a w := by
  unfold wpOpIn
  simp only [hi, hw, Bool.false_eq_true, if_false]
  exact ⟨fun _ _ => trivial, h⟩

/-- A call comes up. -/
theorem wpOp_call (hc : CallsOK P) {ops : Array Oper} {Qe : Exit → Act → World → Prop} {i : Nat} {o : Oper} (hi : ops[i]? = some o) (hw : Region.wanted o (yielded ops a.tmps) = true) {K : Act → World → Prop} {w : World}
    {fo : OP} {vs : List OP} (hco : opC P okT o.op = some (.cal fo vs)) (he : EvOK P σ t a.eval) {g : Nat} {first cap : List AV} (hf : ev fo t = .fn (.func g) first cap)
    (h : ∀ us, denL σ (first ++ evs vs t ++ cap) = some us → Calls P g us.toArray w fun
      | .returned u, w' => K (a.put o.dst u) w'
      | .panicked chain, w' => Qe (.panic chain) a w'
      | .outgrown, _ => LetsOut Qe)
    (hg : ∃ fn c, nthL P.funcs.toList g = some fn ∧ fn.body = some c) : wpOpIn (RF ro) 0 P ops Qe i K a w := by
  unfold wpOpIn
  simp only [hi, hw, if_true]
  have key : ∀ c, o.op = .call c → cCall P c = some (.cal fo vs) → Oper.wpIn (RF ro) 0 P o a w K Qe := by
    intro c hop hcc
    unfold cCall at hcc
    split at hcc
    · split at hcc
      · exfalso
        rename_i b _ _ vs' _
        unfold builtinC at hcc
        split at hcc
        all_goals first
          | (cases hcc; done)
          | (split at hcc <;> first
            | (cases hcc; done)
            | (simp only [appC, copyC, lenC, capC, clearC, u2, u1, a2] at hcc
               repeat' (first | (cases hcc; done) | (split at hcc) | (simp only [cond_eq_ite, u1, a1, a2] at hcc))))
      · cases hcc
    · rename_i f' hcal
      split at hcc
      · rename_i f'' vs'' hf' hvs'
        obtain ⟨rfl, rfl⟩ : f'' = fo ∧ vs'' = vs := by simpa using hcc
        have hdf := he _ _ hf'
        rw [hf] at hdf
        simp only [den] at hdf
        split at hdf
        · rename_i fs cs hfs hcs
          have hdf : Value.func (.func g) fs.toArray cs.toArray = a.eval f' := Option.some.inj hdf
          have hda := cOps_den he hvs'
          have hall := denL_append (denL_append hfs hda) hcs
          have hC := h _ hall
          obtain ⟨fn, cd, hfn, hbody⟩ := hg
          refine ⟨fun _ _ => trivial, ?_⟩
          have hrun : (execOp a.eval o).run P w = .ok (.enter g (fs ++ (c.args.toList.map a.eval) ++ cs).toArray) w := by
            simp only [execOp, hop, resolve, hcal, Sem.run_bind, ← hdf, Deferred.ofValue, Sem.run_pure, Result.andThen_ok, invoke]
            have : (fs.toArray ++ c.args.map a.eval ++ cs.toArray) = (fs ++ (c.args.toList.map a.eval) ++ cs).toArray := by
              apply Array.ext'
              simp
            rw [this]
            exact hc g fn cd hfn hbody _ w
          rw [semAt_ran hrun (by intro d h; cases h), hrun]
          refine ⟨fun h => absurd h (by simp [RF]), callsIn_rf.2 ?_⟩
          exact hC
        · cases hdf
      · cases hcc
    · cases hcc
  cases hop : o.op <;> rw [hop] at hco <;> simp only [opC] at hco
  case call c => exact key c hop hco
  all_goals exfalso
  all_goals first
    | (cases hco; done)
    | (simp only [cMove, cPick, cAlloc, cBox, cBuild, cBuildS, cLoad, cStore, cNil, cBin, cUn, cConv, convF, cIface, cFunc, cMap, cMakeS, cSlice, sliceC, cFieldA, cS2A, cField, cIndexA, cIndex, cLookup, cUpd, cEntry, cEStore, cAssert, cExt, cDefer, cPanic, u1, u2, a1, a2, a3] at hco
       repeat' (first | (cases hco; done) | (split at hco) | (simp only [cond_eq_ite, u1, a1, a2] at hco)))
end
end Go.Sx

/- A region's operations, one by one; a region that draws no order. No program. -/
namespace Go.Sx
set_option linter.unusedVariables false

/-! ### The run, told by cases -/
section
variable {call : Nat → List AV → St → Ro} {draw : Bool} {k : List (Nat × Rec) → Tr AV → Ds → St → Rs} {i um : Nat} {dst : Option (List Q)} {g : Option (List Q × Bool)} {co : CO} {recs : List (Nat × Rec)} {t : Tr AV} {d : Ds} {st : St}

theorem xregL_nil : xregL call draw [] recs t d st = .norm t d st := rfl
theorem xregL_cons {pe : PE} {l : List PE} : xregL call draw (pe :: l) recs t d st = xop call draw (xregL call draw l) pe recs t d st := rfl

theorem xop_skip (h : wantedA g t = false) : xop call draw k (.mk i dst g um co) recs t d st = k recs (putD dst (.tup []) t) d st := by
  show Bool.rec (motive := fun _ => Rs) _ _ (wantedA g t) = _
  rw [h]
theorem xop_pur (h : wantedA g t = true) {f} : xop call draw k (.mk i dst g um (.pur f)) recs t d st = xpur k dst (f t) recs t d st := by
  show Bool.rec (motive := fun _ => Rs) _ _ (wantedA g t) = _
  rw [h]
theorem xop_act (h : wantedA g t = true) {f} : xop call draw k (.mk i dst g um (.act f)) recs t d st = xactO draw k i dst um (f t) recs t d st := by
  show Bool.rec (motive := fun _ => Rs) _ _ (wantedA g t) = _
  rw [h]
theorem xop_cal (h : wantedA g t = true) {f vs} : xop call draw k (.mk i dst g um (.cal f vs)) recs t d st = xcal call draw k i dst um (ev f t) (evs vs t) recs t d st := by
  show Bool.rec (motive := fun _ => Rs) _ _ (wantedA g t) = _
  rw [h]
theorem xop_dfr (h : wantedA g t = true) {f vs} : xop call draw k (.mk i dst g um (.dfr f vs)) recs t d st = xdfr draw k dst (ev f t) (evs vs t) recs t d st := by
  show Bool.rec (motive := fun _ => Rs) _ _ (wantedA g t) = _
  rw [h]
theorem xop_pan (h : wantedA g t = true) {x} : xop call draw k (.mk i dst g um (.pan x)) recs t d st = xpan draw (ev x t) t d st := by
  show Bool.rec (motive := fun _ => Rs) _ _ (wantedA g t) = _
  rw [h]

theorem xpur_none : xpur k dst none recs t d st = .no := rfl
theorem xpur_some {v : AV} : xpur k dst (some v) recs t d st = k recs (putD dst v t) d st := rfl
theorem xactO_none : xactO draw k i dst um none recs t d st = .no := rfl
theorem xactO_some {a : Act1} : xactO draw k i dst um (some a) recs t d st = xact draw k i dst um a recs t d st.h st.n := by cases st; rfl

/-- An operation on the heap that did not fail. -/
theorem xact_ok {a : Act1} {h : Tr Blk} {n : Nat} (hne : xact draw k i dst um a recs t d h n ≠ .no) : ∃ e, a.run (fun id => getP (path id) h) n = some e ∧ (um = 0 ∨ okSmall um a.reqs (e.ids n) e.writes recs = true) ∧ e.okW = true ∧
    xact draw k i dst um a recs t d h n = k (cons draw (i, .small a.reqs (e.ids n)) recs) (putD dst e.val t) d (St.eff (.mk h n) e) := by
  unfold xact at hne ⊢
  cases ha : a.run (fun id => getP (path id) h) n with
  | none => rw [ha] at hne; exact absurd rfl hne
  | some e =>
    rw [ha] at hne
    simp only at hne ⊢
    cases hb : (bif e.okW then (bif Nat.beq um 0 then true else okSmall um a.reqs (e.ids n) e.writes recs) else false) with
    | false => rw [hb] at hne; exact absurd rfl hne
    | true =>
      cases hW : e.okW with
      | false => rw [hW] at hb; cases hb
      | true =>
        rw [hW] at hb
        refine ⟨e, rfl, ?_, hW, rfl⟩
        cases hu : Nat.beq um 0 with
        | true => exact Or.inl (Nat.eq_of_beq_eq_true hu)
        | false => rw [hu] at hb; exact Or.inr hb

noncomputable def hidOf (um : Nat) (h : Tr Blk) (recs : List (Nat × Rec)) : List Nat := bif Nat.beq um 0 then [] else hidden um h recs

theorem xcal_ok {f : AV} {vs : List AV} (hne : xcal call draw k i dst um f vs recs t d st ≠ .no) : ∃ g first cap, f = .fn (.func g) first cap ∧
    xcal call draw k i dst um f vs recs t d st = xret draw k i dst um (hidOf um st.h recs) recs t d st.h (call g (first ++ vs ++ cap) (st.hide (hidOf um st.h recs))) := by
  unfold xcal at hne ⊢
  split at hne
  · rename_i g first cap
    refine ⟨g, first, cap, rfl, ?_⟩
    have : argsOf first vs cap = first ++ vs ++ cap := by
      unfold argsOf
      split
      · simp
      · rfl
    simp only [this]
    rfl
  · exact absurd rfl hne

theorem xret_ret {hid : List Nat} {h : Tr Blk} {v : AV} {st1 : St} (hne : xret draw k i dst um hid recs t d h (.ret v st1) ≠ .no) : (um = 0 ∨ okBig um h st1.h hid recs = true) ∧
    xret draw k i dst um hid recs t d h (.ret v st1) = k (cons draw (i, .big h st1.h) recs) (putD dst v t) d (st1.back h hid) := by
  unfold xret at hne ⊢
  simp only at hne ⊢
  cases hb : (bif Nat.beq um 0 then true else okBig um h st1.h hid recs) with
  | false => rw [hb] at hne; exact absurd rfl hne
  | true =>
    refine ⟨?_, rfl⟩
    cases hu : Nat.beq um 0 with
    | true => exact Or.inl (Nat.eq_of_beq_eq_true hu)
    | false => rw [hu] at hb; exact Or.inr hb
end

/-! ### Numbers only grow -/
def Rs.ge (n : Nat) : Rs → Prop
  | .no => True
  | .norm _ _ st => n ≤ st.n
  | .exit _ _ _ st => n ≤ st.n
  | .ret _ _ st => n ≤ st.n
  | .pan _ _ _ st => n ≤ st.n

def Ro.ge (n : Nat) : Ro → Prop
  | .no => True
  | .ret _ st => n ≤ st.n
  | .pan _ st => n ≤ st.n

theorem Rs.ge.trans {n m : Nat} (h : n ≤ m) {r : Rs} (k : r.ge m) : r.ge n := by
  cases r with
  | no => trivial
  | norm _ _ st => exact Nat.le_trans h k
  | exit _ _ _ st => exact Nat.le_trans h k
  | ret _ _ st => exact Nat.le_trans h k
  | pan _ _ _ st => exact Nat.le_trans h k

theorem Ro.ge.trans {n m : Nat} (h : n ≤ m) {r : Ro} (k : r.ge m) : r.ge n := by
  cases r with
  | no => trivial
  | ret _ st => exact Nat.le_trans h k
  | pan _ st => exact Nat.le_trans h k

def CallMono (call : Nat → List AV → St → Ro) : Prop := ∀ f args st, (call f args st).ge st.n

theorem hide_n (st : St) (l : List Nat) : (st.hide l).n = st.n := by cases st; cases l <;> rfl
theorem back_n (st : St) (h : Tr Blk) (l : List Nat) : (st.back h l).n = st.n := by cases st; cases l <;> rfl

theorem top_ge (e : Eff) (n : Nat) : n ≤ e.top n := by cases e <;> simp [Eff.top]

theorem regL_mono {call : Nat → List AV → St → Ro} (hc : CallMono call) {draw : Bool} : ∀ (l : List PE) recs t d st, (xregL call draw l recs t d st).ge st.n
  | [], recs, t, d, st => Nat.le_refl _
  | .mk i dst g um co :: l, recs, t, d, st => by
    rw [xregL_cons]
    have ih := regL_mono hc (draw := draw) l
    cases hw : wantedA g t with
    | false => rw [xop_skip hw]; exact ih _ _ _ _
    | true =>
      cases co with
      | pur f =>
        rw [xop_pur hw]
        cases f t with
        | none => trivial
        | some v => exact ih _ _ _ _
      | act f =>
        rw [xop_act hw]
        cases f t with
        | none => trivial
        | some a =>
          rw [xactO_some]
          by_cases hne : xact draw (xregL call draw l) i dst um a recs t d st.h st.n = .no
          · rw [hne]; trivial
          · obtain ⟨e, _, _, _, he⟩ := xact_ok hne
            rw [he]
            refine Rs.ge.trans ?_ (ih _ _ _ _)
            rw [eff_n]
            exact top_ge _ _
      | cal f vs =>
        rw [xop_cal hw]
        by_cases hne : xcal call draw (xregL call draw l) i dst um (ev f t) (evs vs t) recs t d st = .no
        · rw [hne]; trivial
        · obtain ⟨g', first, cap, hf, he⟩ := xcal_ok hne
          rw [he] at hne ⊢
          have hm := hc g' (first ++ evs vs t ++ cap) (st.hide (hidOf um st.h recs))
          rw [hide_n] at hm
          cases hr : call g' (first ++ evs vs t ++ cap) (st.hide (hidOf um st.h recs)) with
          | no => trivial
          | ret v st1 =>
            rw [hr] at hne hm
            obtain ⟨_, he⟩ := xret_ret hne
            rw [he]
            refine Rs.ge.trans ?_ (ih _ _ _ _)
            rw [back_n]
            exact hm
          | pan v st1 =>
            rw [hr] at hm
            unfold xret
            cases draw
            · exact hm
            · trivial
      | dfr f vs =>
        rw [xop_dfr hw]
        unfold xdfr
        cases draw
        · simp only
          split
          · cases dst
            · exact ih _ _ _ _
            · trivial
          · trivial
        · trivial
      | pan x =>
        rw [xop_pan hw]
        unfold xpan
        cases draw
        · simp only
          split
          · exact Nat.le_refl _
          · trivial
        · trivial

/-! ### What stands behind a piece of code -/
def Behind (bs : List Deferred) (σ : Env) (h : Hp) (n : Nat) (w : World) (N : Nat) : Rs → Exit → Act → World → Prop
  | .no, _, _, _ => True
  | .norm t d st, e, a, w' => e = .normal ∧ ∃ σ', Stp σ h n w σ' st.get st.n w' ∧ TmpOK σ' t N a ∧ DefOK bs σ' d a.defers
  | .exit id t d st, e, a, w' => e = .exit id ∧ ∃ σ', Stp σ h n w σ' st.get st.n w' ∧ TmpOK σ' t N a ∧ DefOK bs σ' d a.defers
  | .ret t d st, e, a, w' => e = .ret ∧ ∃ σ', Stp σ h n w σ' st.get st.n w' ∧ TmpOK σ' t N a ∧ DefOK bs σ' d a.defers
  | .pan v t d st, e, a, w' => ∃ σ' u, e = .panic [{ v := u, recovered := false }] ∧ den σ' v = some u ∧ Stp σ h n w σ' st.get st.n w' ∧ TmpOK σ' t N a ∧ DefOK bs σ' d a.defers

theorem Behind.trans {bs : List Deferred} {σ σ1 : Env} {h h1 : Hp} {n n1 : Nat} {w w1 : World} {N : Nat} (s : Stp σ h n w σ1 h1 n1 w1) : ∀ {r : Rs} {e : Exit} {a : Act} {w' : World}, Behind bs σ1 h1 n1 w1 N r e a w' → Behind bs σ h n w N r e a w'
  | .no, _, _, _, _ => trivial
  | .norm t d st, e, a, w', ⟨h1, σ', h2, h3, h4⟩ => ⟨h1, σ', s.trans h2, h3, h4⟩
  | .exit id t d st, e, a, w', ⟨h1, σ', h2, h3, h4⟩ => ⟨h1, σ', s.trans h2, h3, h4⟩
  | .ret t d st, e, a, w', ⟨h1, σ', h2, h3, h4⟩ => ⟨h1, σ', s.trans h2, h3, h4⟩
  | .pan v t d st, e, a, w', ⟨σ', u, h1, h2, h3, h4, h5⟩ => ⟨σ', u, h1, h2, s.trans h3, h4, h5⟩

/-- The names that a piece of code will give are free. -/
def Free (σ : Env) (n : Nat) : Rs → Prop
  | .no => True
  | .norm _ _ st => ∀ id, n ≤ id → id < st.n → σ id = none
  | .exit _ _ _ st => ∀ id, n ≤ id → id < st.n → σ id = none
  | .ret _ _ st => ∀ id, n ≤ id → id < st.n → σ id = none
  | .pan _ _ _ st => ∀ id, n ≤ id → id < st.n → σ id = none

theorem Free.step {σ σ1 : Env} {h h1 : Hp} {n n1 : Nat} {w w1 : World} (s : Stp σ h n w σ1 h1 n1 w1) {r : Rs} (k : Free σ n r) : Free σ1 n1 r := by
  have key : ∀ m, (∀ id, n ≤ id → id < m → σ id = none) → ∀ id, n1 ≤ id → id < m → σ1 id = none := by
    intro m hm id h1 h2
    cases hq : σ1 id with
    | none => rfl
    | some l =>
      rcases s.dom id l hq with h | ⟨h3, h4⟩
      · rw [hm id (Nat.le_trans s.nle h1) h2] at h; cases h
      · omega
  cases r with
  | no => trivial
  | norm _ _ st => exact key _ k
  | exit _ _ _ st => exact key _ k
  | ret _ _ st => exact key _ k
  | pan _ _ _ st => exact key _ k

theorem Free.below {σ : Env} {n m : Nat} {r : Rs} (k : Free σ n r) (hne : r ≠ .no) (hm : r.ge m) : ∀ id, n ≤ id → id < m → σ id = none := by
  cases r with
  | no => exact absurd rfl hne
  | norm _ _ st => exact fun id h1 h2 => k id h1 (Nat.lt_of_lt_of_le h2 hm)
  | exit _ _ _ st => exact fun id h1 h2 => k id h1 (Nat.lt_of_lt_of_le h2 hm)
  | ret _ _ st => exact fun id h1 h2 => k id h1 (Nat.lt_of_lt_of_le h2 hm)
  | pan _ _ _ st => exact fun id h1 h2 => k id h1 (Nat.lt_of_lt_of_le h2 hm)

/-- What is asked of the calls. -/
structure CallGood (P : Program) (call : Nat → List AV → St → Ro) : Prop where
  ok : CallOK P call
  mono : CallMono call
  has : ∀ f args st, call f args st ≠ .no → ∃ fn c, nthL P.funcs.toList f = some fn ∧ fn.body = some c

/-! ### One operation -/
section
variable {ro : Option Nat} {P : Program} {okT : Nat → Bool} {σ : Env} {t : Tr AV} {N : Nat} {a : Act} {ops : Array Oper} {Qe : Exit → Act → World → Prop} {i : Nat} {o : Oper} {dst : Option (List Q)} {w : World}

theorem put_defers {a : Act} {d : Option Nat} {u : Value} : (a.put d u).defers = a.defers := by cases d <;> rfl

theorem op_pur (hk : OkT P okT) (hg : GlobOK P σ) (ht : TmpOK σ t N a) (hi : ops[i]? = some o) (hw : Region.wanted o (yielded ops a.tmps) = true) {f} (hco : opC P okT o.op = some (.pur f)) {v : AV} (hv : f t = some v)
    (hd : dstP N o.dst = some dst) {K : Act → World → Prop} (h : ∀ a', TmpOK σ (putD dst v t) N a' → a'.defers = a.defers → K a' w) : wpOpIn (RF ro) 0 P ops Qe i K a w := by
  obtain ⟨u, h1, h2⟩ := pur_all hk (ht.ev hg) hco hv
  exact wpOp_value hi hw (Or.inl (h2 w)) (h _ (ht.put hd h1) put_defers)

theorem op_skip (ht : TmpOK σ t N a) (hi : ops[i]? = some o) (hw : Region.wanted o (yielded ops a.tmps) = false) (hd : dstP N o.dst = some dst) {K : Act → World → Prop}
    (h : ∀ a', TmpOK σ (putD dst (.tup []) t) N a' → a'.defers = a.defers → K a' w) : wpOpIn (RF ro) 0 P ops Qe i K a w :=
  wpOp_skip hi hw (h _ (ht.put hd rfl) put_defers)

theorem op_act (hk : OkT P okT) (hg : GlobOK P σ) (ht : TmpOK σ t N a) (hi : ops[i]? = some o) (hw : Region.wanted o (yielded ops a.tmps) = true) {f} (hco : opC P okT o.op = some (.act f)) {a1 : Act1} (hv : f t = some a1)
    {g : Hp} (hr : Rep σ g w) {n : Nat} {e : Eff} (he : a1.run g n = some e) (hn : n < e.top n → σ n = none) (hW : e.okW = true) (hd : dstP N o.dst = some dst) {K : Act → World → Prop}
    (h : ∀ σ' a' w', Stp σ g n w σ' (appE n e g) (e.top n) w' → TmpOK σ' (putD dst e.val t) N a' → a'.defers = a.defers → K a' w') : wpOpIn (RF ro) 0 P ops Qe i K a w := by
  obtain ⟨u, σ', w', h1, h2, h3⟩ := act_all hk (ht.ev hg) hco hv w g n e he hn (fun id _ b hb => hr.ok id b hb)
  have hs := h3.stp hr hn hW (run_ids he)
  exact wpOp_value hi hw h1 (h σ' _ w' hs ((ht.mono hs.le).put hd h2) put_defers)
end
end Go.Sx
