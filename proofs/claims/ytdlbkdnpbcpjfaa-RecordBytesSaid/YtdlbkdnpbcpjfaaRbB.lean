/- Our records as a book's, and what was read of them (RecordBytes). No walk. -/
import Derived.Test.YtdlbkdnpbcpjfaaRbA
import Derived.Test.YtdlbkdnpbcpjfaaRbT0
set_option linter.unusedSimpArgs false
set_option linter.unusedVariables false
namespace Go.Proofs.Ytdlbkdnpbcpjfaa
open Go.RowKit Go.Pw Go.Pw.Fl
set_option linter.unusedVariables false

def nS : Value := .slice none 0 0
def staO : Sta := ⟨t0, nS, nS, nS, nS, nS, none, [], ⟨rfl, rfl, rfl, rfl, rfl⟩⟩
def seO (p : Nat × Int) : Se := ⟨e0 [p.2], .slice (some ⟨p.1, 0, none⟩) 1 1, nS, nS, nS, nS, staO, ⟨rfl, rfl, rfl, rfl, rfl⟩⟩
theorem sec_seO (p : Nat × Int) : sec (seO p) = sc p := rfl
theorem fl_seO : ∀ l : List (Nat × Int), fl sec (l.map seO) = fl sc l
  | [] => rfl
  | p :: l => by rw [List.map_cons, fl_cons, fl_cons, fl_seO l, sec_seO]
def idsO (r : Rcd) : List (List Int) := r.ss.map fun p => [p.2]
def cO (r : Rcd) : RD := ⟨r.u, r.d, [r.x], [115], r.st, kKey r.t, (idsO r).map e0⟩
def rvO (r : Rcd) : Rv := ⟨re r, cO r, r.Q, r.ss.map seO⟩
theorem rvO_r (L : List Rcd) : (L.map rvO).map Rv.r = L.map re := by simp [List.map_map, rvO, Function.comp_def]
theorem rvO_c (L : List Rcd) : (L.map rvO).map Rv.c = L.map cO := by simp [List.map_map, rvO, Function.comp_def]
theorem u32_i {n : Int} (h0 : 0 ≤ n) (h1 : n < 65536) : U32 n := ⟨h0, by omega⟩
theorem byt_one {x : Int} (h : 0 ≤ x ∧ x < 256) : Byt [x] := fun y hy => by
  obtain rfl : y = x := by simpa using hy
  exact h
theorem cst_rdI {w : World} {A T : Nat} {g : Nat × Nat} {x : Int} (h : (cst A T g [.int .u8 x]).ok w) (hx : 0 ≤ x ∧ x < 256) : RdI 0 w.heap.size w (.slice (some ⟨A, 0, none⟩) 1 1) [x] :=
  ⟨cst_src h, fun _ k hk => by
    obtain rfl : A = k := by simpa [Value.ownBlock] using hk
    exact ⟨Nat.zero_le _, (cst A T g [.int .u8 x]).lt w h A (by simp [cst])⟩, by simp, byt_one hx⟩
theorem seI_O {w : World} {p : Nat × Int} (h : (idR p).ok w) (hp : 0 ≤ p.2 ∧ p.2 < 256) : SeI 0 w.heap.size w (seO p) where
  i := cst_rdI h hp
  y := rdI_nil _ _ _
  g := rdI_nil _ _ _
  s := rdI_nil _ _ _
  k := rdI_nil _ _ _
  l := by simp [seO, e0, h0D]
  us := u32_0
  uo := u32_0
  t := ⟨rdI_nil _ _ _, rdI_nil _ _ _, rdI_nil _ _ _, rdI_nil _ _ _, rdI_nil _ _ _, u32_0, u32_0, u32_0, rfl, rfl⟩
  e := rfl
theorem rvi_O {w0 w : World} {L : List Rcd} {M : List Ln} {rs : List Res} {i : Nat} (h : Sep w0 w (many (L.map recR) :: rs)) (hV : Inv i L M) (hi : i ≤ 60) : ∀ x ∈ L.map rvO, RvI 0 w.heap.size w x := by
  intro x hx
  obtain ⟨r, hr, rfl⟩ := List.mem_map.1 hx
  obtain ⟨k, hk, rfl⟩ := List.mem_iff_getElem.1 hr
  have ho := rec_open h hk
  have h1 := (show (row 97 18 L[k].v L[k].ss.length (fl sc L[k].ss)).ok w from ho.head)
  have h2 := (show w.heap[L[k].Q]? = some (.cells #[L[k].v] 74 (0, 0)) from (ho.sel 2 [1]).head)
  have h3 := (show (many (L[k].ss.map idR)).ok w from (ho.sel 3 [2]).head)
  have h4 := (show (cst L[k].A1 5 (0, 0) [.int .u8 L[k].x]).ok w from (ho.sel 4 [3]).head)
  have h5 := (show (cst L[k].A2 5 (1, 2) [.int .u8 115]).ok w from (ho.sel 5 [4]).head)
  have hx := hV.rx _ hr
  have hn := hV.nx _ hr
  exact {
    u := rfl
    d := rfl
    uu := u32_i hn.2.1.1 hn.2.1.2
    ud := u32_i hn.2.2.1 hn.2.2.2
    ag := cst_rdI h4 hx.1
    sg := cst_rdI h5 (by decide)
    st := rfl
    k := rfl
    t := hx.2.1
    q := rfl
    l := by
      refine ⟨Nat.zero_le _, (Array.getElem?_eq_some_iff.1 h2).1, L[k].v, h2, ⟨?_, fun j hj => ⟨Nat.zero_le _, (row 97 18 L[k].v L[k].ss.length (fl sc L[k].ss)).lt w h1 j (by simpa [row] using hj)⟩⟩, fun y hy => ?_⟩
      · have := own_src (show w.ownsRow 0 97 18 L[k].v L[k].ss.length (fl sc L[k].ss) from h1)
        rw [← fl_seO] at this
        simpa [rvO] using this
      · obtain ⟨p, hp, rfl⟩ := List.mem_map.1 hy
        have := hx.2.2.2 p hp
        exact seI_O (many_ok h3 (List.mem_map.2 ⟨p, hp, rfl⟩)) (by omega)
    e := by simp [rvO, cO, idsO, List.map_map, Function.comp_def, seO]
    n := by have := hx.2.2.1; simp [rvO]; omega
    ns := fun s hs => by
      obtain ⟨p, hp, rfl⟩ := List.mem_map.1 hs
      simp [seO, staO] }
theorem gd_O {i : Nat} {L : List Rcd} {M : List Ln} (hV : Inv i L M) : ∀ x ∈ L.map cO, ∃ es, Gd x es := by
  intro x hx
  obtain ⟨r, hr, rfl⟩ := List.mem_map.1 hx
  have hx := hV.rx _ hr
  have hn := hV.nx _ hr
  have hb := kKey_bd hx.2.1
  refine ⟨idsO r, ⟨u32_i hn.2.1.1 hn.2.1.2, u32_i hn.2.2.1 hn.2.2.2, by simp [cO], by simp [cO], hb.1, hb.2, time_key hx.2.1, rfl, fun y hy => ?_, ?_, by simpa [idsO] using hx.2.2.1⟩⟩
  · obtain ⟨p, hp, rfl⟩ := List.mem_map.1 hy
    simp
  · have e : idsO r = (r.ss.map (·.2)).map fun n => [n] := by simp [idsO, List.map_map, Function.comp_def]
    rw [e]
    exact List.pairwise_map.2 (List.Pairwise.imp (fun h e => h (by simpa using e)) hn.1)
theorem asc_O {i : Nat} {L : List Rcd} {M : List Ln} (hV : Inv i L M) : (L.map cO).Pairwise fun a b => cmpW a.u a.d b.u b.d < 0 := by
  rw [List.pairwise_map]
  exact hV.asc.imp fun h => (cmpW_neg _ _ _ _).2 h
theorem read_O {i : Nat} {L : List Rcd} {M : List Ln} (hV : Inv i L M) (hi : i ≤ 60) : pBk (bkB (L.map cO)) = some (L.map cO) :=
  fBk (gd_O hV) (asc_O hV) (by have := hV.len; rw [List.length_map]; omega)
theorem flat_le {α : Type} {f : α → List Int} {n : Nat} : ∀ {l : List α}, (∀ x ∈ l, (f x).length ≤ n) → (l.flatMap f).length ≤ l.length * n
  | [], _ => by simp
  | x :: l, h => by
    rw [List.flatMap_cons, List.length_append, List.length_cons, Nat.succ_mul]
    have := h x (by simp)
    have := flat_le (l := l) (fun y hy => h y (by simp [hy]))
    omega
theorem seB_O (id : List Int) (h : id.length = 1) : (seB (e0 id)).length ≤ 200 := by
  simp only [seB, e0, List.length_append, lb_len, h]
  have h1 : (hB h0D).length ≤ 60 := by decide
  have h2 : (staB t0).length ≤ 60 := by decide
  simp
  omega
theorem rcB_O {r : Rcd} (h : r.ss.length ≤ 4) : (rcB (cO r)).length ≤ 1000 := by
  have h1 : (((idsO r).map e0).flatMap seB).length ≤ ((idsO r).map e0).length * 200 := flat_le fun x hx => by
    obtain ⟨id, hid, rfl⟩ := List.mem_map.1 hx
    obtain ⟨p, hp, rfl⟩ := List.mem_map.1 hid
    exact seB_O _ rfl
  have h2 : ((idsO r).map e0).length ≤ 4 := by simpa [idsO] using h
  simp only [rcB, cO, quB, List.length_append, lb_len, be_len, List.length_cons, List.length_nil]
  omega
theorem bkB_O {i : Nat} {L : List Rcd} {M : List Ln} (hV : Inv i L M) (hi : i ≤ 30) : (bkB (L.map cO)).length ≤ 30100 := by
  have h1 : ((L.map cO).flatMap rcB).length ≤ (L.map cO).length * 1000 := flat_le fun x hx => by
    obtain ⟨r, hr, rfl⟩ := List.mem_map.1 hx
    exact rcB_O (hV.rx _ hr).2.2.1
  have h2 := hV.len
  rw [List.length_map] at h1
  simp only [bkB, List.length_append, be_len]
  omega
theorem bkB_pos (l : List RD) : 2 ≤ (bkB l).length := by simp only [bkB, List.length_append, be_len]; omega

/-- What was read, record for record. -/
def rgV (x : Rv) (r : Rcd) : Rg := ⟨r.u, r.d, r.x, x.r.a1, x.r.c1, x.r.a2, x.r.n2, x.r.c2, x.Q, r.ss.length, r.st, x.r.t⟩
def rgL (l : List Rv) (L : List Rcd) : List Rg := List.zipWith rgV l L
theorem rd_len1 {w : World} {a : Option Addr} {n c : Nat} {xs : List Int} (h : Rd w (.slice a n c) xs) : n = xs.length := by
  obtain ⟨a', c', e, _⟩ := h
  injection e
theorem back_len {l : List Rv} {L : List Rcd} (e : l.map Rv.c = L.map cO) : l.length = L.length := by simpa using congrArg List.length e
theorem back_at {l : List Rv} {L : List Rcd} (e : l.map Rv.c = L.map cO) {k : Nat} (hk : k < l.length) (hk' : k < L.length) : l[k].c = cO L[k] := by
  have h1 : (l.map Rv.c)[k]'(by simpa using hk) = (L.map cO)[k]'(by simpa using hk') := by simp only [e]
  simpa using h1
theorem rgL_len {l : List Rv} {L : List Rcd} (e : l.map Rv.c = L.map cO) : (rgL l L).length = L.length := by
  rw [rgL, List.length_zipWith, back_len e, Nat.min_self]
theorem reg_rgV {a b : Nat} {w : World} {x : Rv} {r : Rcd} (h : RvI a b w x) (e : x.c = cO r) : reg (rgV x r) = x.r := by
  have hu : x.r.u = r.u := by rw [h.u, e]; rfl
  have hd : x.r.d = r.d := by rw [h.d, e]; rfl
  have hs : x.r.st = r.st := by rw [h.st, e]; rfl
  have h1 : x.r.n1 = 1 := by have := rd_len1 h.ag.1; rw [this, e]; rfl
  have hq := h.q
  obtain ⟨R, C, Q, ss⟩ := x
  obtain ⟨u, d, a1, n1, c1, a2, n2, c2, q, st, t⟩ := R
  simp only at hu hd hs h1 hq
  subst hu hd hs h1 hq
  rfl
theorem reg_rgL {a b : Nat} {w : World} {l : List Rv} {L : List Rcd} (h : ∀ x ∈ l, RvI a b w x) (e : l.map Rv.c = L.map cO) : (rgL l L).map reg = l.map Rv.r := by
  apply List.ext_getElem
  · rw [List.length_map, List.length_map, rgL_len e, back_len e]
  · intro k h1 h2
    have hl : k < l.length := by simpa using h2
    have hL : k < L.length := by rw [← back_len e]; exact hl
    simp only [List.getElem_map, rgL, List.getElem_zipWith]
    exact reg_rgV (h _ (List.getElem_mem hl)) (back_at e hl hL)
theorem ent_rgL {a b : Nat} {w : World} {l : List Rv} {L : List Rcd} (h : ∀ x ∈ l, RvI a b w x) (e : l.map Rv.c = L.map cO) : (rgL l L).map entG = (L.map entR).map fun y => ⟨y.u, y.d, y.x, y.st, kKey y.t, y.n⟩ := by
  apply List.ext_getElem
  · rw [List.length_map, List.length_map, List.length_map, rgL_len e]
  · intro k h1 h2
    have hL : k < L.length := by simpa using h2
    have hl : k < l.length := by rw [back_len e]; exact hL
    simp only [List.getElem_map, rgL, List.getElem_zipWith, entG, entR, rgV]
    have := (h _ (List.getElem_mem hl)).k
    rw [this, back_at e hl hL]
    rfl
theorem invG_O {i : Nat} {a b : Nat} {w : World} {l : List Rv} {L : List Rcd} {M : List Ln} (hV : Inv i L M) (h : ∀ x ∈ l, RvI a b w x) (e : l.map Rv.c = L.map cO) : InvG i (rgL l L) M where
  perm := by
    rw [ent_rgL h e]
    have := hV.perm.map fun y : Ent => (⟨y.u, y.d, y.x, y.st, kKey y.t, y.n⟩ : EnK)
    rw [List.map_map (l := M)] at this
    exact this
  asc := by
    refine List.pairwise_iff_getElem.2 fun p q hp hq hlt => ?_
    rw [rgL_len e] at hp hq
    simp only [rgL, List.getElem_zipWith, rgV]
    exact List.pairwise_iff_getElem.1 hV.asc p q hp hq hlt
  len := by rw [rgL_len e]; exact hV.len
  rx := fun r hr => by
    obtain ⟨k, hk, rfl⟩ := List.mem_iff_getElem.1 hr
    have hL : k < L.length := by rw [← rgL_len e]; exact hk
    have hl : k < l.length := by rw [back_len e]; exact hL
    simp only [rgL, List.getElem_zipWith, rgV]
    exact ⟨(hV.rx _ (List.getElem_mem hL)).1, (h _ (List.getElem_mem hl)).t⟩
  lx := hV.lx
theorem hQ0_O {a b : Nat} {w : World} {l : List Rv} {L : List Rcd} (h : ∀ x ∈ l, RvI a b w x) (e : l.map Rv.c = L.map cO) : ∀ k (hk : k < (rgL l L).length), ∃ ao c, w.heap[(rgL l L)[k].Q]? = some (.cells #[.slice ao (rgL l L)[k].n c] 74 (0, 0)) := fun k hk => by
  have hL : k < L.length := by rw [← rgL_len e]; exact hk
  have hl : k < l.length := by rw [back_len e]; exact hL
  have hx := h _ (List.getElem_mem hl)
  obtain ⟨_, _, v, hv, ⟨hs, _⟩, _⟩ := hx.l
  obtain ⟨ao, c, rfl, _⟩ := hs
  have hn : l[k].ss.length = L[k].ss.length := by
    have h1 := hx.e
    rw [back_at e hl hL] at h1
    have h2 := congrArg List.length h1
    simpa [cO, idsO] using h2.symm
  refine ⟨ao, c, ?_⟩
  simp only [rgL, List.getElem_zipWith, rgV]
  rw [← hn]
  exact hv
theorem hA0_O {a b : Nat} {w : World} {l : List Rv} {L : List Rcd} (h : ∀ x ∈ l, RvI a b w x) (e : l.map Rv.c = L.map cO) : ∀ k (hk : k < (rgL l L).length), Pw.Src w (.slice (rgL l L)[k].a1 1 (rgL l L)[k].c1) 1 ([(rgL l L)[k].x] : List Int).length (([(rgL l L)[k].x] : List Int).map (Value.int .u8)) := fun k hk => by
  have hL : k < L.length := by rw [← rgL_len e]; exact hk
  have hl : k < l.length := by rw [back_len e]; exact hL
  have hx := (h _ (List.getElem_mem hl)).ag
  have h1 : l[k].r.n1 = 1 := by have := rd_len1 hx.1; rw [this, back_at e hl hL]; rfl
  have h2 : l[k].c.ag = [L[k].x] := by rw [back_at e hl hL]; rfl
  rw [h1, h2] at hx
  simp only [rgL, List.getElem_zipWith, rgV]
  exact hx.1
end Go.Proofs.Ytdlbkdnpbcpjfaa
