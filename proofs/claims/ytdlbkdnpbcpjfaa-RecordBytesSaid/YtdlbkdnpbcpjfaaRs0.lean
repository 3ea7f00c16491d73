/- The law's step: what all acts begin with. Printed by gen_rs.py. -/
import Derived.Test.YtdlbkdnpbcpjfaaRp
set_option linter.unusedSimpArgs false
set_option linter.unusedVariables false
namespace Go.Proofs.Ytdlbkdnpbcpjfaa
open Go.RowKit Go.Pw Go.Pw.Fl
set_option linter.unusedVariables false

theorem who_any (a : Int) (h0 : 0 ≤ a) (h1 : a < 256) (w : World) : Calls Try.prog 39 #[.int .u8 a] w fun e w' => e = .returned (.agg #[.int .i64 (a % 3), .int .i64 (1 + a / 3 % 3)]) ∧ Only w w' [] := by
  have e1 : a.tmod 3 = a % 3 := Int.tmod_eq_emod_of_nonneg h0
  have e2 : a.tdiv 3 = a / 3 := Int.tdiv_eq_ediv_of_nonneg h0
  have e3 : (a / 3).tmod 3 = a / 3 % 3 := Int.tmod_eq_emod_of_nonneg (by omega)
  have e4 : IntKind.u8.wrap (a % 3) = a % 3 := by rw [IntKind.wrap_u8]; omega
  have e5 : IntKind.u8.wrap (a / 3) = a / 3 := by rw [IntKind.wrap_u8]; omega
  have e6 : IntKind.i64.wrap (a % 3) = a % 3 := by rw [IntKind.wrap_i64]; omega
  have e7 : IntKind.i64.wrap (a / 3) = a / 3 := by rw [IntKind.wrap_i64]; omega
  have e8 : IntKind.i64.wrap (a / 3 % 3) = a / 3 % 3 := by rw [IntKind.wrap_i64]; omega
  have e9 : IntKind.i64.wrap (1 + a / 3 % 3) = 1 + a / 3 % 3 := by rw [IntKind.wrap_i64]; omega
  obtain ⟨x, hx⟩ : ∃ x, x = a % 3 := ⟨_, rfl⟩
  obtain ⟨y, hy⟩ : ∃ y, y = a / 3 := ⟨_, rfl⟩
  obtain ⟨z, hz⟩ : ∃ z, z = y % 3 := ⟨_, rfl⟩
  rw [← hx, ← hy, ← hz]
  rw [← hx] at e1 e4 e6
  rw [← hy] at e2 e3 e5 e7 e8 e9
  rw [← hz] at e3 e8 e9
  clear hx hy hz h0 h1
  go_enter Try.func39, Try.ntmps39
  go_wp2_with fail
  refine bodyPost_ret (v := .agg #[.int .i64 x, .int .i64 (1 + z)]) (by simp [results, Try.results39, go_sem]) rfl ?_
  exact ⟨rfl, Only.alloc _ _ _⟩
/-- What a step of ours leaves. -/
def StepP (w0 : World) (rs : List Res) (B i : Nat) (e : Ending) (w' : World) : Prop := ∃ v L mv M, e = .returned (.tuple #[mv, .bool true]) ∧ Sep w0 w' (row 36 7 v (L.map re).length (fl rc (L.map re)) :: blk B [v] 68 :: many (L.map recR) :: row 86 6 mv M.length (fl lnc M) :: rs) ∧ Inv (i + 1) L M
theorem fl_put {α : Type} {enc : α → List Value} {k : Nat} (hk : ∀ x, (enc x).length = k) {l : List α} {i : Nat} (hi : i < l.length) {o : Nat} (ho : o < k) {v : Value} {y : α} (hy : enc y = (enc l[i]).set o v) : setL (fl enc l) (i * k + o) [v] = fl enc (l.set i y) := by
  have e1 : fl enc l = fl enc (l.take i) ++ (enc l[i] ++ fl enc (l.drop (i + 1))) := by
    rw [← fl_cons, ← fl_app, List.getElem_cons_drop, List.take_append_drop]
  have e2 : fl enc (l.set i y) = fl enc (l.take i) ++ (enc y ++ fl enc (l.drop (i + 1))) := by
    rw [List.set_eq_take_append_cons_drop, if_pos hi, fl_app, fl_cons]
  have e3 : (fl enc (l.take i)).length = i * k := by rw [fl_len hk, List.length_take, Nat.min_eq_left (by omega)]
  show (fl enc l).set (i * k + o) v = _
  rw [e1, e2, hy, List.set_append_right _ _ (by omega), e3, Nat.add_sub_cancel_left, List.set_append_left _ _ (by rw [hk]; exact ho)]
theorem map_set_same {α β : Type} {f : α → β} {l : List α} {k : Nat} (hk : k < l.length) {r : α} (e : f r = f l[k]) : (l.set k r).map f = l.map f := by
  rw [List.map_set, e]
  have : f l[k] = (l.map f)[k]'(by simpa using hk) := by simp
  rw [this, List.set_getElem_self]
theorem Inv.at {i : Nat} {L : List Rcd} {M : List Ln} (h : Inv i L M) {j : Nat} (hj : j < M.length) {u d : Int} (e : M[j].u = u ∧ M[j].d = d) : ∃ k, ∃ hk : k < L.length, entR L[k] = entL M[j] ∧ L[k].u = u ∧ L[k].d = d ∧ placeL (L.map re) u d = k ∧ foundL (L.map re) u d = true := by
  obtain ⟨k, hk, ek⟩ := h.key_of hj
  have e1 : L[k].u = M[j].u := congrArg Ent.u ek
  have e2 : L[k].d = M[j].d := congrArg Ent.d ek
  obtain ⟨rfl, rfl⟩ := e
  refine ⟨k, hk, ek, e1, e2, ?_, ?_⟩
  · rw [← e1, ← e2]; exact place_self h.asc hk
  · rw [← e1, ← e2]; exact found_self h.asc hk
theorem mark_on {L : List Rcd} {u d : Int} {T k : Nat} (hk : k < L.length) (hp : placeL (L.map re) u d = k) (hf : foundL (L.map re) u d = true) (hs : L[k].st = true) : markL (L.map re) u d T = L.map re := by
  rw [mark_set T hf (by rw [hp]; simpa using hk)]
  simp only [hp, List.getElem_map]
  rw [if_pos (show (re L[k]).st = true from hs)]
  have : re L[k] = (L.map re)[k]'(by simpa using hk) := by simp
  rw [this, List.set_getElem_self]
def mkR (r : Rcd) (T : Nat) : Rcd := ⟨r.u, r.d, r.A1, r.A2, r.x, r.Q, r.v, r.ss, true, T⟩
def mkL (y : Ln) (T : Nat) : Ln := ⟨y.u, y.d, y.i, true, T, y.n⟩
def mkL1 (y : Ln) : Ln := ⟨y.u, y.d, y.i, true, y.t, y.n⟩
theorem line_info : (Try.prog.info? 86).map (fun i => (i.zero, i.size, i.bytes)) = some (some (.agg #[.int .i64 0, .int .i64 0, .int .u8 0, .bool false, .float .f64 0, .int .i64 0]), 6, 40) := by kernel_rfl
def kpM (now long : Nat) (M : List Ln) : List Ln := M.filter fun y => keepE now long (entL y)
theorem kpM_snoc (now long : Nat) (M : List Ln) (y : Ln) : kpM now long (M ++ [y]) = kpM now long M ++ (if keepE now long (entL y) = true then [y] else []) := by
  unfold kpM
  rw [List.filter_append]
  cases h : keepE now long (entL y) <;> simp [h]
theorem kpM_len (now long : Nat) (M : List Ln) : (kpM now long M).length ≤ M.length := List.length_filter_le _ _
theorem got_re {L : List Rcd} {u d : Int} {k : Nat} (hk : k < L.length) (hp : placeL (L.map re) u d = k) (hf : foundL (L.map re) u d = true) : gotL (L.map re) u d = .agg (rc (re L[k])).toArray := by
  unfold gotL
  rw [if_pos hf, hp, List.getElem?_eq_getElem (by simpa using hk)]
  simp only [List.getElem_map]
  rfl
def pqR (r : Rcd) (v : Value) (Y : Nat) (i : Int) : Rcd := ⟨r.u, r.d, r.A1, r.A2, r.x, r.Q, v, ((Y, i) :: r.ss).take 4, r.st, r.t⟩
def pqL (y : Ln) : Ln := ⟨y.u, y.d, y.i, y.st, y.t, y.n + 1⟩
/-- A record's resource, apart. -/
theorem rec_open {w0 w : World} {L : List Rcd} {rs : List Res} (h : Sep w0 w (many (L.map recR) :: rs)) {k : Nat} (hk : k < L.length) : Sep w0 w (row 97 18 L[k].v L[k].ss.length (fl sc L[k].ss) :: blk L[k].Q [L[k].v] 74 :: many (L[k].ss.map idR) :: cst L[k].A1 5 (0, 0) [.int .u8 L[k].x] :: cst L[k].A2 5 (1, 2) [.int .u8 115] :: many ((L.map recR).eraseIdx k) :: rs) := by
  have h1 := h.pick k (r := recR L[k]) (by rw [List.getElem?_map, List.getElem?_eq_getElem hk]; rfl)
  have h2 : Sep w0 w (cst L[k].A1 5 (0, 0) [.int .u8 L[k].x] :: cst L[k].A2 5 (1, 2) [.int .u8 115] :: row 97 18 L[k].v L[k].ss.length (fl sc L[k].ss) :: blk L[k].Q [L[k].v] 74 :: many (L[k].ss.map idR) :: many ((L.map recR).eraseIdx k) :: rs) := Sep.splice h1
  exact h2.sel 5 [2, 3, 4, 0, 1]
/-- .. and back, turned. -/
theorem rec_shut {w0 w : World} {L : List Rcd} {rs : List Res} {k : Nat} (hk : k < L.length) (r : Rcd) (h : Sep w0 w (row 97 18 r.v r.ss.length (fl sc r.ss) :: blk r.Q [r.v] 74 :: many (r.ss.map idR) :: cst r.A1 5 (0, 0) [.int .u8 r.x] :: cst r.A2 5 (1, 2) [.int .u8 115] :: many ((L.map recR).eraseIdx k) :: rs)) : Sep w0 w (many ((L.set k r).map recR) :: rs) := by
  have h1 : Sep w0 w (cst r.A1 5 (0, 0) [.int .u8 r.x] :: cst r.A2 5 (1, 2) [.int .u8 115] :: row 97 18 r.v r.ss.length (fl sc r.ss) :: blk r.Q [r.v] 74 :: many (r.ss.map idR) :: many ((L.map recR).eraseIdx k) :: rs) := h.sel 5 [3, 4, 0, 1, 2]
  have h2 : Sep w0 w (recR r :: many ((L.map recR).eraseIdx k) :: rs) := Sep.gather (L := [cst r.A1 5 (0, 0) [.int .u8 r.x], cst r.A2 5 (1, 2) [.int .u8 115], row 97 18 r.v r.ss.length (fl sc r.ss), blk r.Q [r.v] 74, many (r.ss.map idR)]) h1
  rw [List.map_set]
  exact Sep.putk k (by simpa using hk) h2
/-- A record comes, its resource with it. -/
def nwR (u d : Int) (A1 A2 : Nat) (x : Int) (X : Nat) : Rcd := ⟨u, d, A1, A2, x, X, .slice none 0 0, [], false, 0⟩
theorem rec_new {w0 w : World} {L : List Rcd} {rs : List Res} (p : Nat) (u d : Int) (A1 A2 : Nat) (x : Int) (X : Nat) (h : Sep w0 w (cst A1 5 (0, 0) [.int .u8 x] :: cst A2 5 (1, 2) [.int .u8 115] :: blk X [.slice none 0 0] 74 :: many (L.map recR) :: rs)) : Sep w0 w (many ((L.take p ++ nwR u d A1 A2 x X :: L.drop p).map recR) :: rs) := by
  have h1 := (h.rown 97 18).many_nil
  have h2 : Sep w0 w (cst A1 5 (0, 0) [.int .u8 x] :: cst A2 5 (1, 2) [.int .u8 115] :: row 97 18 (.slice none 0 0) 0 [] :: blk X [.slice none 0 0] 74 :: many [] :: many (L.map recR) :: rs) := h1.sel 5 [2, 3, 1, 4, 0]
  have h3 : Sep w0 w (recR (nwR u d A1 A2 x X) :: many (L.map recR) :: rs) := Sep.gather (L := [cst A1 5 (0, 0) [.int .u8 x], cst A2 5 (1, 2) [.int .u8 115], row 97 18 (.slice none 0 0) 0 [], blk X [.slice none 0 0] 74, many []]) h2
  have h4 := h3.many_ins p
  rw [List.map_append, List.map_cons, List.map_take, List.map_drop]
  exact h4
theorem rec_other {w0 w : World} {L : List Rcd} {rs : List Res} {k : Nat} (hk : k < L.length) (u d : Int) (A1 A2 : Nat) (x : Int) (X : Nat) (h : Sep w0 w (cst A1 5 (0, 0) [.int .u8 x] :: cst A2 5 (1, 2) [.int .u8 115] :: blk X [.slice none 0 0] 74 :: many (L.map recR) :: rs)) : Sep w0 w (many ((L.set k (nwR u d A1 A2 x X)).map recR) :: rs) := by
  have h0 : Sep w0 w (many (L.map recR) :: cst A1 5 (0, 0) [.int .u8 x] :: cst A2 5 (1, 2) [.int .u8 115] :: blk X [.slice none 0 0] 74 :: rs) := h.sel 4 [3, 0, 1, 2]
  have h1 := (h0.pick k (r := recR L[k]) (by rw [List.getElem?_map, List.getElem?_eq_getElem hk]; rfl)).tail
  have h2 := (h1.rown 97 18).many_nil
  have h3 : Sep w0 w (cst A1 5 (0, 0) [.int .u8 x] :: cst A2 5 (1, 2) [.int .u8 115] :: row 97 18 (.slice none 0 0) 0 [] :: blk X [.slice none 0 0] 74 :: many [] :: many ((L.map recR).eraseIdx k) :: rs) := h2.sel 6 [3, 4, 1, 5, 0, 2]
  have h4 : Sep w0 w (recR (nwR u d A1 A2 x X) :: many ((L.map recR).eraseIdx k) :: rs) := Sep.gather (L := [cst A1 5 (0, 0) [.int .u8 x], cst A2 5 (1, 2) [.int .u8 115], row 97 18 (.slice none 0 0) 0 [], blk X [.slice none 0 0] 74, many []]) h3
  rw [List.map_set]
  exact Sep.putk k (by simpa using hk) h4
def psR (r : Rcd) : Rcd := ⟨r.u, r.d, r.A1, r.A2, r.x, r.Q, r.v, r.ss, false, r.t⟩
def psL (y : Ln) : Ln := ⟨y.u, y.d, y.i, false, y.t, y.n⟩
def nwL (u d i : Int) : Ln := ⟨u, d, i, false, 0, 0⟩
theorem mark_off {L : List Rcd} {u d : Int} {T k : Nat} (hk : k < L.length) (hp : placeL (L.map re) u d = k) (hf : foundL (L.map re) u d = true) (hs : L[k].st = false) : markL (L.map re) u d T = (L.set k (mkR L[k] T)).map re := by
  rw [mark_set T hf (by rw [hp]; simpa using hk)]
  simp only [hp, List.getElem_map]
  rw [if_neg (show ¬ (re L[k]).st = true from by show ¬ L[k].st = true; rw [hs]; simp), List.map_set]
  rfl
theorem two_eq2 (a b u d : Int) (w : World) : (if a = u then if b = d then Result.ok (Next.value (Value.bool true)) w else Result.ok (Next.value (Value.bool false)) w else Result.ok (Next.value (Value.bool false)) w) = Result.ok (Next.value (Value.bool (decide (a = u) && decide (b = d)))) w := by
  by_cases h1 : a = u
  · by_cases h2 : b = d
    · simp [h1, h2]
    · simp [h1, h2]
  · simp [h1]
end Go.Proofs.Ytdlbkdnpbcpjfaa
