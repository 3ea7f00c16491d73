/- Each act of layer 17's law, on the registry and on the reference: both answer the same. No walk. Printed by gen_rfk.py. -/
import Derived.Test.YteljkfihmbddaaaRfJ
set_option linter.unusedSimpArgs false
set_option linter.unusedVariables false
namespace Go.Pw
theorem Sep.sub {w0 w : World} {L L' : List Res} (h : Sep w0 w L) (hs : L'.Sublist L) : Sep w0 w L' where
  only := h.only
  ok r hr := h.ok r (hs.subset hr)
  new r hr := h.new r (hs.subset hr)
  apart := h.apart.sublist hs
end Go.Pw
namespace Go.Proofs.Yteljkfihmbddaaa
open Go.RowKit Go.Pw
set_option linter.unusedVariables false

/-- Registry, reference, pool. -/
abbrev ST (B S : Nat) (v rv : Value) (l : List Li) (ms : List Rl) (P : List Bu) (rs : List Res) : List Res := regR B v l (refR S rv ms (many (P.map rdB) :: rs))
abbrev SB (B S : Nat) (v rv : Value) (l : List Li) (ms : List Rl) (P : List Bu) (vb : Value) (bs : List Bu) : List Res := regR B v l (row 40 10 vb bs.length (fl bc bs) :: refR S rv ms [many (P.map rdB)])
/-- What an act leaves. -/
def StepP (w0 : World) (rs : List Res) (B S : Nat) (i : Nat) (P : List Bu) (w' : World) : Prop := ∃ (v rv : Value) (l : List Li) (ms : List Rl), Pw.Sep w0 w' (ST B S v rv l ms P rs) ∧ Play i l ms P
/-- Two calls, one on the registry, one on the reference: both tell r. -/
def Both (w0 : World) (rs : List Res) (B S : Nat) (i : Nat) (P : List Bu) (r : Value) (f : FuncId) (args : Array Value) (e : Ending) (w1 : World) : Prop :=
  e = .returned r ∧ (∃ M : List Res, Pw.Sep w0 w1 (M ++ rs)) ∧ ∀ (w2 : World) (Q : Res), Only w1 w2 [] → Q.ok w2 → (∀ k ∈ Q.fp, w1.heap.size ≤ k) → Calls Try.prog f args w2 fun e2 w3 => e2 = .returned r ∧ StepP w0 (Q :: rs) B S i P w3
/-- Neither turns anything. -/
theorem both_quiet {w0 w w1 : World} {rs : List Res} {B S i : Nat} {r : Value} {f : FuncId} {args : Array Value} {e : Ending} {v rv : Value} {l : List Li} {ms : List Rl} {P : List Bu} {M : List Res} (h : Pw.Sep w0 w (M ++ rs)) (hs : (ST B S v rv l ms P rs).Sublist (M ++ rs)) (hp : Play i l ms P)
    (he : e = .returned r ∧ Only w w1 []) (hf : ∀ w2, Only w w2 [] → Calls Try.prog f args w2 fun e2 w3 => e2 = .returned r ∧ Only w2 w3 []) : Both w0 rs B S (i + 1) P r f args e w1 := by
  obtain ⟨rfl, o1⟩ := he
  refine ⟨rfl, ⟨M, h.quiet o1⟩, fun w2 Q o2 hQ hQf => (hf w2 (o1.trans o2)).mono fun e2 w3 hq => ?_⟩
  obtain ⟨rfl, o3⟩ := hq
  have h1 : Pw.Sep w0 w2 (Q :: ST B S v rv l ms P rs) := (h.sub hs).add (o1.trans o2) hQ fun k hk => Nat.le_trans o1.size (hQf k hk)
  exact ⟨rfl, v, rv, l, ms, (h1.quiet o3).sel 8 [1, 2, 3, 4, 5, 6, 7, 0], hp.same⟩
theorem next_cases (l : List Li) (u : Int) : nextD l u = ((0, 0), 1) ∨ nextD l u = ((0, 0), 3) ∨ ∃ m, nextD l u = ((u, m), 0) := by
  unfold nextD
  split
  · exact .inl rfl
  · split
    · exact .inr (.inl rfl)
    · exact .inr (.inr ⟨_, rfl⟩)
/-- The line of a device that is there, on both sides. -/
theorem Play.at_ {i : Nat} {l : List Li} {ms : List Rl} {P : List Bu} (hp : Play i l ms P) {u d : Int} (hI : isL l u d = true) : ∃ k, ∃ hk : k < l.length, ∃ j, ∃ hj : j < ms.length, foundL l u d = true ∧ placeL l u d = k ∧ l[k].on = true ∧ l[k].u = u ∧ l[k].d = d ∧ ris ms u d = true ∧ rfp ms u d = j ∧ enL l[k] = enR ms[j] := by
  obtain ⟨hf, hk, hon⟩ := isL_at hI
  obtain ⟨hk', hc⟩ := found_at hf
  rw [cmpW_zero] at hc
  obtain ⟨j, hj, e⟩ := hp.inv.both hk
  have hr := rfp_at hp.inv.nodup hj
  have e1 : l[placeL l u d].u = ms[j].u := congrArg En.u e
  have e2 : l[placeL l u d].d = ms[j].d := congrArg En.d e
  rw [← e1, ← e2, hc.1, hc.2] at hr
  refine ⟨placeL l u d, hk, j, hj, hf, rfl, hon, hc.1, hc.2, ?_, hr.1, e⟩
  rw [hp.inv.is]; exact hI
theorem en_eq {x : Li} {y : Rl} (h1 : x.u = y.u) (h2 : x.d = y.d) (h3 : x.on = y.on) (h4 : x.b = y.b) (h5 : x.os = y.os) : enL x = enR y := by
  unfold enL enR
  rw [h1, h2, h3, h4, h5]
theorem sub4 {a b c x : Res} {L : List Res} : (a :: b :: c :: L).Sublist (a :: b :: c :: x :: L) := (((List.sublist_cons_self x L).cons_cons c).cons_cons b).cons_cons a

theorem add_both {w0 : World} {rs : List Res} (B S : Nat) (l : List Li) (ms : List Rl) (v rv : Value) (P : List Bu) (u d : Int) (vb : Value) (bs : List Bu) (i : Nat) (w : World) (h : Pw.Sep w0 w (regR B v l (row 40 10 vb bs.length (fl bc bs) :: refR S rv ms (many (P.map rdB) :: rs)))) (hp : Play i l ms P) (hi : i ≤ 60) (hbl : bs.length ≤ 1000) (hbs : ∀ b ∈ bs, b ∈ P) :
    ∃ er : Int, Calls Try.prog 12 #[.pointer (some ⟨B, 0, none⟩), wv u d, vb] w (Both w0 rs B S (i + 1) P (.int .i64 er) 17 #[.pointer (some ⟨S, 0, none⟩), wv u d, vb]) := by
  have hll := hp.len
  have hml : ms.length ≤ 60 := by rw [hp.inv.len]; omega
  have hr := hp.inv.strict.rise
  have hsub : (ST B S v rv l ms P rs).Sublist (SB B S v rv l ms P vb bs ++ rs) := sub4
  have hR : Pw.Sep w0 w (refR S rv ms (row 40 10 vb bs.length (fl bc bs) :: regR B v l (many (P.map rdB) :: rs))) := h.sel 8 [4, 5, 6, 3, 0, 1, 2, 7]
  have hnx := hp.inv.next u
  rcases next_cases l u with hn | hn | ⟨m, hn⟩
  · refine ⟨1, (add_err B l v u d vb bs w h (by omega) (by omega) hr 1 (.inl rfl) hn).mono fun e w1 hq => ?_⟩
    exact both_quiet h hsub hp hq fun w2 o2 => radd_err S ms rv u d vb w2 (hR.quiet o2) (by omega) 1 (.inl rfl) (by rw [hnx, hn])
  · refine ⟨3, (add_err B l v u d vb bs w h (by omega) (by omega) hr 3 (.inr rfl) hn).mono fun e w1 hq => ?_⟩
    exact both_quiet h hsub hp hq fun w2 o2 => radd_err S ms rv u d vb w2 (hR.quiet o2) (by omega) 3 (.inr rfl) (by rw [hnx, hn])
  · obtain ⟨hm, hnf, hnr⟩ := hp.fresh hn
    have hrn : rnx ms u = ((u, m), 0) := by rw [hnx, hn]
    cases hok : addOk u d m bs with
    | false =>
      have HR : ∀ w2, Only w w2 [] → Calls Try.prog 17 #[.pointer (some ⟨S, 0, none⟩), wv u d, vb] w2 fun e2 w3 => e2 = .returned (.int .i64 1) ∧ Only w2 w3 [] := fun w2 o2 =>
        (radd_any S ms rv u d vb bs w2 (hR.quiet o2) (by omega) hbl m hrn hnr).mono fun e2 w3 hq => by
          unfold RAdded at hq
          rw [hok] at hq
          exact hq
      by_cases hmd : m = d
      · subst hmd
        cases hs : bs.any (fun x => !x.has) with
        | false => exact ⟨1, (add_some B l v u m vb bs w h (by omega) (by omega) hr hn hs).mono fun e w1 hq => both_quiet h hsub hp hq HR⟩
        | true =>
          have hany : bs.any (other u m) = true := by
            unfold addOk at hok
            rw [hs] at hok
            simpa using hok
          exact ⟨1, (add_other B l v u m vb bs w h (by omega) (by omega) hr hn hs hany).mono fun e w1 hq => both_quiet h hsub hp hq HR⟩
      · exact ⟨1, (add_next B l v u d vb bs w h (by omega) (by omega) hr m hmd hn).mono fun e w1 hq => both_quiet h hsub hp hq HR⟩
    | true =>
      have hok2 := hok
      unfold addOk at hok2
      simp only [Bool.and_eq_true, decide_eq_true_eq, Bool.not_eq_true'] at hok2
      obtain ⟨⟨rfl, hs⟩, hany⟩ := hok2
      refine ⟨0, (add_ok B l v u m vb bs w h (by omega) (by omega) hr hn hs hany hnf).mono fun e w1 hq => ?_⟩
      obtain ⟨rfl, v', x', x1, x2, x3, x4, x5, h1⟩ := hq
      refine ⟨rfl, ⟨SB _ S _ rv _ ms P vb bs, h1⟩, fun w2 Q o2 hQ hQf => ?_⟩
      have e1 : (insL l (newL u m)).set (placeL l u m) x' = insL l x' := by
        have := insL_set l (newL u m) x'
        rw [show (newL u m).u = u from rfl, show (newL u m).d = m from rfl] at this
        rw [this, insL, x1, x2]
      rw [e1] at h1
      have h2 : Pw.Sep w0 w2 (refR S rv ms (row 40 10 vb bs.length (fl bc bs) :: regR B v' (insL l x') (many (P.map rdB) :: Q :: rs))) := (h1.add o2 hQ hQf).sel 9 [5, 6, 7, 4, 1, 2, 3, 8, 0]
      refine (radd_any S ms rv u m vb bs w2 h2 (by omega) hbl m hrn hnr).mono fun e2 w3 hq => ?_
      unfold RAdded at hq
      rw [if_pos hok] at hq
      obtain ⟨rfl, rv', y', y1, y2, y3, y4, y5, y6, h3⟩ := hq
      have hf := fold_pub bs (b0, [])
      rw [← x4] at hf
      have e4 := x4.trans y4.symm
      simp only [Prod.mk.injEq] at e4
      refine ⟨rfl, v', rv', insL l x', ms ++ [y'], h3.sel 8 [4, 5, 6, 0, 1, 2, 7], hp.add (en_eq (x1.trans y1.symm) (x2.trans y2.symm) (x3.trans y3.symm) e4.1 e4.2) ?_ ?_ (hf.1.imp id (hbs _)) fun b hb => ?_⟩
      · rw [x1, x2]; exact hm
      · rw [e4.2]; exact ⟨y5, y6⟩
      · exact (hf.2 b hb).elim (fun h => by simp at h) (hbs b)

theorem pub_both {w0 : World} {rs : List Res} (B S : Nat) (l : List Li) (ms : List Rl) (v rv : Value) (P : List Bu) (u d : Int) (vb : Value) (bs : List Bu) (i : Nat) (w : World) (h : Pw.Sep w0 w (regR B v l (row 40 10 vb bs.length (fl bc bs) :: refR S rv ms (many (P.map rdB) :: rs)))) (hp : Play i l ms P) (hi : i ≤ 60) (hbl : bs.length ≤ 1000) (hbs : ∀ b ∈ bs, b ∈ P) :
    ∃ er : Int, Calls Try.prog 19 #[.pointer (some ⟨B, 0, none⟩), wv u d, vb] w (Both w0 rs B S (i + 1) P (.int .i64 er) 20 #[.pointer (some ⟨S, 0, none⟩), wv u d, vb]) := by
  have hll := hp.len
  have hml : ms.length ≤ 60 := by rw [hp.inv.len]; omega
  have hr := hp.inv.strict.rise
  have hsub : (ST B S v rv l ms P rs).Sublist (SB B S v rv l ms P vb bs ++ rs) := sub4
  have hR : Pw.Sep w0 w (refR S rv ms (row 40 10 vb bs.length (fl bc bs) :: regR B v l (many (P.map rdB) :: rs))) := h.sel 8 [4, 5, 6, 3, 0, 1, 2, 7]
  cases hI : isL l u d with
  | false =>
    refine ⟨2, (publish_none B l v u d vb w h (by omega) hr hI).mono fun e w1 hq => both_quiet h hsub hp hq fun w2 o2 => ?_⟩
    exact rpub_none S ms rv u d vb w2 (hR.quiet o2) (by omega) (by rw [hp.inv.is]; exact hI)
  | true =>
    obtain ⟨k, hk, j, hj, hf, hpl, hon, hu, hd, hri, hrp, e⟩ := hp.at_ hI
    cases hany : bs.any (other u d) with
    | true =>
      refine ⟨1, (publish_arg B l v u d vb bs k w h (by omega) (by omega) hr hf hpl hk hon hany).mono fun e w1 hq => both_quiet h hsub hp hq fun w2 o2 => ?_⟩
      obtain ⟨b, hb, hob⟩ := List.any_eq_true.1 hany
      have h2 := hR.quiet o2
      exact rpub_arg S ms rv u d vb bs w2 h2 (by omega) hri (own_src (show w2.ownsRow 0 _ 10 vb bs.length (fl bc bs) from (h2.sel 4 [3]).head)) hbl ⟨b, hb, fun hh => by simp [other, hh.1, hh.2] at hob⟩
    | false =>
      have eo : l[k].os = ms[j].os := congrArg En.os e
      have eb : l[k].b = ms[j].b := congrArg En.b e
      have hos := hp.os _ (List.getElem_mem hk)
      refine ⟨0, (publish_ok B l v u d vb bs k l[k] w h (by omega) (by omega) hr hf hpl hk rfl hon hos.1 hany).mono fun e0 w1 hq => ?_⟩
      obtain ⟨rfl, x', x1, x2, x3, x4, x5, h1⟩ := hq
      refine ⟨rfl, ⟨SB _ S _ rv _ ms P vb bs, h1⟩, fun w2 Q o2 hQ hQf => ?_⟩
      have h2 : Pw.Sep w0 w2 (refR S rv ms (row 40 10 vb bs.length (fl bc bs) :: regR B v (l.set k x') (many (P.map rdB) :: Q :: rs))) := (h1.add o2 hQ hQf).sel 9 [5, 6, 7, 4, 1, 2, 3, 8, 0]
      rw [eo] at hos
      refine (rpub_ok S ms rv u d vb bs j ms[j] w2 h2 (by omega) hbl hri hrp hj rfl hos.1 hos.2 fun b hb => ?_).mono fun e2 w3 hq => ?_
      · have := List.any_eq_false.1 hany b hb
        simpa [other] using this
      obtain ⟨rfl, y', y1, y2, y3, y4, y5, y6, h3⟩ := hq
      have hfp := fold_pub bs (l[k].b, l[k].os)
      rw [← x4] at hfp
      rw [← eb, ← eo] at y4
      have e4 := x4.trans y4.symm
      simp only [Prod.mk.injEq] at e4
      have e1 : l[k].u = ms[j].u := congrArg En.u e
      have e2 : l[k].d = ms[j].d := congrArg En.d e
      refine ⟨rfl, v, rv, l.set k x', ms.set j y', h3.sel 8 [4, 5, 6, 0, 1, 2, 7], hp.turn hk hj e x1 x2 (en_eq (x1.trans (e1.trans y1.symm)) (x2.trans (e2.trans y2.symm)) (x3.trans y3.symm) e4.1 e4.2) ?_ (hfp.1.imp id (hbs _)) fun b hb => (hfp.2 b hb).imp id (hbs b)⟩
      rw [e4.2]; exact ⟨y5, y6⟩

theorem rem_both {w0 : World} {rs : List Res} (B S : Nat) (l : List Li) (ms : List Rl) (v rv : Value) (P : List Bu) (u d : Int) (i : Nat) (w : World) (h : Pw.Sep w0 w (ST B S v rv l ms P rs)) (hp : Play i l ms P) (hi : i ≤ 60) :
    ∃ er : Int, Calls Try.prog 9 #[.pointer (some ⟨B, 0, none⟩), wv u d] w (Both w0 rs B S (i + 1) P (.int .i64 er) 18 #[.pointer (some ⟨S, 0, none⟩), wv u d]) := by
  have hll := hp.len
  have hml : ms.length ≤ 60 := by rw [hp.inv.len]; omega
  have hr := hp.inv.strict.rise
  have hsub : (ST B S v rv l ms P rs).Sublist (ST B S v rv l ms P [] ++ rs) := List.Sublist.refl _
  have hR : Pw.Sep w0 w (refR S rv ms (regR B v l (many (P.map rdB) :: rs))) := h.sel 7 [3, 4, 5, 0, 1, 2, 6]
  cases hI : isL l u d with
  | false =>
    refine ⟨2, (remove_none B l v u d w h (by omega) hr hI).mono fun e w1 hq => both_quiet h hsub hp hq fun w2 o2 => ?_⟩
    exact rrem_none S ms rv u d w2 (hR.quiet o2) (by omega) (by rw [hp.inv.is]; exact hI)
  | true =>
    obtain ⟨k, hk, j, hj, hf, hpl, hon, hu, hd, hri, hrp, e⟩ := hp.at_ hI
    refine ⟨0, (remove_ok B l v u d w h (by omega) hr hI).mono fun e0 w1 hq => ?_⟩
    obtain ⟨rfl, h1⟩ := hq
    have er : remL l u d = l.set k (gone l[k]) := by
      unfold remL
      rw [if_pos hI, hpl, modify_set l k hk]
    rw [er] at h1
    refine ⟨rfl, ⟨ST _ S _ rv _ ms P [], h1⟩, fun w2 Q o2 hQ hQf => ?_⟩
    have h2 : Pw.Sep w0 w2 (refR S rv ms (regR B v (l.set k (gone l[k])) (many (P.map rdB) :: Q :: rs))) := (h1.add o2 hQ hQf).sel 8 [4, 5, 6, 1, 2, 3, 7, 0]
    refine (rrem_ok S ms rv u d j w2 h2 (by omega) hri hj hrp).mono fun e2 w3 hq => ?_
    obtain ⟨rfl, h3⟩ := hq
    refine ⟨rfl, v, rv, _, _, h3.sel 7 [3, 4, 5, 0, 1, 2, 6], hp.turn hk hj e rfl rfl (en_eq (congrArg En.u e) (congrArg En.d e) rfl (congrArg En.b e) rfl) (by simp [gone]) (.inl rfl) fun b hb => by simp [gone] at hb⟩

theorem take_both {w0 : World} {rs : List Res} (B S : Nat) (l : List Li) (ms : List Rl) (v rv : Value) (P : List Bu) (u d : Int) (i : Nat) (w : World) (h : Pw.Sep w0 w (ST B S v rv l ms P rs)) (hp : Play i l ms P) (hi : i ≤ 60) :
    ∃ (er : Int) (b : Bu), (b = b0 ∨ b ∈ P) ∧ Calls Try.prog 14 #[.pointer (some ⟨B, 0, none⟩), wv u d] w (Both w0 rs B S (i + 1) P (.tuple #[.agg (bc b).toArray, .int .i64 er]) 21 #[.pointer (some ⟨S, 0, none⟩), wv u d]) := by
  have hll := hp.len
  have hml : ms.length ≤ 60 := by rw [hp.inv.len]; omega
  have hr := hp.inv.strict.rise
  have hsub : (ST B S v rv l ms P rs).Sublist (ST B S v rv l ms P [] ++ rs) := List.Sublist.refl _
  have hR : Pw.Sep w0 w (refR S rv ms (regR B v l (many (P.map rdB) :: rs))) := h.sel 7 [3, 4, 5, 0, 1, 2, 6]
  cases hI : isL l u d with
  | false =>
    refine ⟨2, b0, .inl rfl, (take_none B l v u d w h (by omega) hr hI).mono fun e w1 hq => both_quiet h hsub hp hq fun w2 o2 => ?_⟩
    exact rtake_none S ms rv u d w2 (hR.quiet o2) (by omega) (by rw [hp.inv.is]; exact hI)
  | true =>
    obtain ⟨k, hk, j, hj, hf, hpl, hon, hu, hd, hri, hrp, e⟩ := hp.at_ hI
    have eo : l[k].os = ms[j].os := congrArg En.os e
    have eb : l[k].b = ms[j].b := congrArg En.b e
    have hos16 := hp.os _ (List.getElem_mem hk)
    cases hos : l[k].os with
    | nil =>
      refine ⟨0, l[k].b, hp.bs _ (List.getElem_mem hk), (take_last B l v u d k l[k] w h (by omega) hr hf hpl hk rfl hon hos).mono fun e0 w1 hq => both_quiet h hsub hp hq fun w2 o2 => ?_⟩
      rw [eb]
      exact rtake_last S ms rv u d w2 (hR.quiet o2) (by omega) j hri hj hrp (by rw [← eo]; exact hos)
    | cons b os =>
      have hlen : os.length ≤ 900 := by rw [hos] at hos16; simp only [List.length_cons] at hos16; omega
      refine ⟨0, b, .inr (hp.bo _ (List.getElem_mem hk) b (by rw [hos]; simp)), (take_once B l v u d k l[k] w h (by omega) hr hf hpl hk rfl hon b os hos hlen h.only.size).mono fun e0 w1 hq => ?_⟩
      obtain ⟨rfl, x', x1, x2, x3, x4, x5, h1⟩ := hq
      refine ⟨rfl, ⟨ST _ S _ rv _ ms P [], h1⟩, fun w2 Q o2 hQ hQf => ?_⟩
      have h2 : Pw.Sep w0 w2 (refR S rv ms (regR B v (l.set k x') (many (P.map rdB) :: Q :: rs))) := (h1.add o2 hQ hQf).sel 8 [4, 5, 6, 1, 2, 3, 7, 0]
      refine (rtake_once S ms rv u d w2 h2 (by omega) j hri hj hrp b os (by rw [← eo]; exact hos)).mono fun e2 w3 hq => ?_
      obtain ⟨rfl, y', y1, y2, y3, y4, y5, h3⟩ := hq
      have e1 : l[k].u = ms[j].u := congrArg En.u e
      have e2 : l[k].d = ms[j].d := congrArg En.d e
      have e3 : l[k].on = ms[j].on := congrArg En.on e
      refine ⟨rfl, v, rv, _, _, h3.sel 7 [3, 4, 5, 0, 1, 2, 6], hp.turn hk hj e x1 x2 (en_eq (x1.trans (e1.trans y1.symm)) (x2.trans (e2.trans y2.symm)) (x3.trans (by rw [y3, ← e3, hon])) (x4.trans (eb.trans y4.symm)) (x5.trans y5.symm)) ?_ (.inl x4) fun c hc => ?_⟩
      · rw [x5]
        rw [hos] at hos16
        simp only [List.length_cons, List.map_cons, List.nodup_cons] at hos16
        exact ⟨by omega, hos16.2.2⟩
      · rw [x5] at hc
        exact .inl (by rw [hos]; simp [hc])
end Go.Proofs.Yteljkfihmbddaaa
