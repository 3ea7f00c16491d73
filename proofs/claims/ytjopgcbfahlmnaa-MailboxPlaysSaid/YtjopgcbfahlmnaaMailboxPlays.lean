/- MailboxPlays returns true for all envelopes, acts, numbers and bounds: which envelopes are there, in their order. No condition. -/
import Derived.Test.YtjopgcbfahlmnaaBoxA
import Derived.Test.YtjopgcbfahlmnaaOpenM
import Derived.Test.YtjopgcbfahlmnaaSMailboxPlays
import Derived.Deep.CutBlock
import Derived.Deep.Cut
namespace Go.Proofs.Ytjopgcbfahlmnaa
open Go.RowKit Go.Pw
set_option linter.unusedVariables false

/-- What the play has come to: the mailbox at B, the reference's items. -/
structure PlaySt (w : World) (B K : Nat) (v : Value) (l : List It) (last : Nat) (vl : Value) (m : List It) (wr : World) : Prop where
  sep : Sep w wr [box B v l last, row 36 2 vl m.length (flat m)]
  same : m.map ct = l.map ct
  env : ∀ x ∈ m, Src w (ev x) 1 x.bs.length (x.bs.map (Value.int .u8)) ∧ ∀ b ∈ x.bs, 0 ≤ b ∧ b < 256
  len : ∀ x ∈ m, x.bs.length ≤ 300 ∧ 0 < x.n ∧ x.n ≤ last
  le : m.length ≤ 32
  lastK : last ≤ K

theorem PlaySt.mono {w : World} {B K K' : Nat} {v : Value} {l : List It} {last : Nat} {vl : Value} {m : List It} {wr : World} (h : PlaySt w B K v l last vl m wr) (hK : K ≤ K') : PlaySt w B K' v l last vl m wr := { h with lastK := Nat.le_trans h.lastK hK }
/-- One more. -/
theorem PlaySt.more {w : World} {B K : Nat} {v v' : Value} {l : List It} {last : Nat} {vl vl' : Value} {m : List It} {wr w3 : World} {x y : It} {bs : List Int} (h : PlaySt w B K v l last vl m wr) (hx : ct x = ((last : Int) + 1, bs)) (hy : ct y = ((last : Int) + 1, bs)) (h32 : m.length < 32) (hb : bs.length ≤ 300)
    (he : Src w (ev y) 1 y.bs.length (y.bs.map (Value.int .u8)) ∧ ∀ b ∈ y.bs, 0 ≤ b ∧ b < 256) (hs : Sep w w3 [box B v' (l ++ [x]) ((last : Int) + 1), row 36 2 vl' (m.length + 1) (flat m ++ ic y)]) : PlaySt w B (K + 1) v' (l ++ [x]) (last + 1) vl' (m ++ [y]) w3 := by
  refine ⟨?_, by rw [List.map_append, List.map_append, h.same]; simp [hx, hy], fun z hz => ?_, fun z hz => ?_, by simp; omega, by have := h.lastK; omega⟩
  · rw [flat_snoc, List.length_append]
    exact hs
  · rcases List.mem_append.1 hz with hz | hz
    · exact h.env z hz
    · obtain rfl : z = y := by simpa using hz
      exact he
  · rcases List.mem_append.1 hz with hz | hz
    · have := h.len z hz
      exact ⟨this.1, this.2.1, by omega⟩
    · obtain rfl : z = y := by simpa using hz
      simp only [ct, Prod.mk.injEq] at hy
      rw [hy.1, hy.2]
      exact ⟨hb, by omega, by omega⟩
theorem PlaySt.at_ {w : World} {B K : Nat} {v v' : Value} {l : List It} {last : Nat} {vl vl' : Value} {m : List It} {wr w' : World} (h : PlaySt w B K v l last vl m wr) (hs : Sep w w' [box B v' l last, row 36 2 vl' m.length (flat m)]) : PlaySt w B (K + 1) v' l last vl' m w' :=
  ⟨hs, h.same, h.env, h.len, h.le, by have := h.lastK; omega⟩
theorem PlaySt.kept {w : World} {B K : Nat} {v v' : Value} {l : List It} {last : Nat} {vl vl' : Value} {m : List It} {wr w' : World} (n : Int) (h : PlaySt w B K v l last vl m wr) (hq : (kp n m).map ct = (kp n l).map ct) (hs : Sep w w' [box B v' (kp n l) last, row 36 2 vl' (kp n m).length (flat (kp n m))]) : PlaySt w B (K + 1) v' (kp n l) last vl' (kp n m) w' :=
  ⟨hs, hq, fun x hx => h.env x ((List.mem_filter.1 hx).1), fun x hx => h.len x ((List.mem_filter.1 hx).1), Nat.le_trans (List.length_filter_le _ _) h.le, by have := h.lastK; omega⟩
theorem fromF_mem (n most : Int) : ∀ (l acc : List (Int × List Int)) (x : Int × List Int), x ∈ fromF n most acc l → x ∈ acc ∨ x ∈ l
  | [], acc, x, h => .inl (by simpa [fromF] using h)
  | y :: l, acc, x, h => by
    simp only [fromF] at h
    rcases fromF_mem n most l _ x h with h | h
    · split at h
      · rcases List.mem_append.1 h with h | h
        · exact .inl h
        · exact .inr (by simp at h; simp [h])
      · exact .inl h
    · exact .inr (by simp [h])
/-- Items that were told: they read as what stands in l. -/
theorem rdi_told {w : World} {v : Value} {l l' : List It} {n most : Int} (h1 : w.ownsRow 0 36 2 v l'.length (flat l')) (h2 : ∀ x ∈ l', w.ownsRow 0 5 1 (ev x) x.bs.length (x.bs.map (Value.int .u8))) (hl : l'.map ct = fromF n most [] (l.map ct)) (hb : ∀ x ∈ l, ∀ b ∈ x.bs, 0 ≤ b ∧ b < 256) : RdI w v l' := by
  refine ⟨own_src h1, fun x hx => ⟨own_src (h2 x hx), ?_⟩⟩
  have : ct x ∈ fromF n most [] (l.map ct) := by rw [← hl]; exact List.mem_map.2 ⟨x, hx, rfl⟩
  rcases fromF_mem _ _ _ _ _ this with h | h
  · simp at h
  · obtain ⟨y, hy, e⟩ := List.mem_map.1 h
    simp only [ct, Prod.mk.injEq] at e
    rw [← e.2]
    exact hb y hy
theorem PlaySt.hlen {w : World} {B K : Nat} {v : Value} {l : List It} {last : Nat} {vl : Value} {m : List It} {wr : World} (h : PlaySt w B K v l last vl m wr) : l.length = m.length := by
  have := congrArg List.length h.same
  simpa using this.symm
theorem mem_ct {l m : List It} (h : m.map ct = l.map ct) {x : It} (hx : x ∈ l) : ∃ y ∈ m, ct y = ct x := by
  have : ct x ∈ m.map ct := by rw [h]; exact List.mem_map.2 ⟨x, hx, rfl⟩
  obtain ⟨y, hy, e⟩ := List.mem_map.1 this
  exact ⟨y, hy, e⟩
theorem PlaySt.lenl {w : World} {B K : Nat} {v : Value} {l : List It} {last : Nat} {vl : Value} {m : List It} {wr : World} (h : PlaySt w B K v l last vl m wr) : ∀ x ∈ l, x.bs.length ≤ 300 ∧ 0 < x.n ∧ x.n ≤ last := fun x hx => by
  obtain ⟨y, hy, e⟩ := mem_ct h.same hx
  simp only [ct, Prod.mk.injEq] at e
  rw [← e.1, ← e.2]
  exact h.len y hy
theorem PlaySt.byl {w : World} {B K : Nat} {v : Value} {l : List It} {last : Nat} {vl : Value} {m : List It} {wr : World} (h : PlaySt w B K v l last vl m wr) : ∀ x ∈ l, ∀ b ∈ x.bs, 0 ≤ b ∧ b < 256 := fun x hx => by
  obtain ⟨y, hy, e⟩ := mem_ct h.same hx
  simp only [ct, Prod.mk.injEq] at e
  rw [← e.2]
  exact (h.env y hy).2

theorem kp_ct (n : Int) {l m : List It} (h : m.map ct = l.map ct) : (kp n m).map ct = (kp n l).map ct := by
  have e : ∀ l : List It, (kp n l).map ct = (l.map ct).filter fun q => decide (n < q.1) := fun l => by
    rw [List.filter_map]; rfl
  rw [e, e, h]

theorem fromF_all (n most : Int) : ∀ (l acc : List (Int × List Int)), (∀ x ∈ l, n < x.1) → ((acc.length + l.length : Nat) : Int) ≤ most → fromF n most acc l = acc ++ l
  | [], acc, _, _ => by simp [fromF]
  | x :: l, acc, h, hm => by
    simp only [fromF]
    rw [if_pos ⟨h x (by simp), by simp at hm; omega⟩, fromF_all n most l (acc ++ [x]) (fun y hy => h y (by simp [hy])) (by simp at hm ⊢; omega)]
    simp

set_option maxRecDepth 100000 in
set_option maxHeartbeats 6400000 in
theorem plays_walk (ap aa an am : Option Addr) (cp ca cn cm : Nat) (rs : List (Option Addr × Nat × List Int)) (qs ns ms : List Int) (w : World)
    (hp : Src w (.slice ap rs.length cp) 1 rs.length (rs.map bval)) (br : ∀ r ∈ rs, Src w (bval r) 1 r.2.2.length (r.2.2.map (.int .u8)) ∧ ∀ b ∈ r.2.2, 0 ≤ b ∧ b < 256)
    (ha : Src w (.slice aa qs.length ca) 1 qs.length (qs.map (.int .u8))) (hn : Src w (.slice an ns.length cn) 1 ns.length (ns.map (.int .u64))) (hm : Src w (.slice am ms.length cm) 1 ms.length (ms.map (.int .i64)))
    (ba : ∀ x ∈ qs, 0 ≤ x ∧ x < 256) (bn : ∀ x ∈ ns, 0 ≤ x ∧ x < 18446744073709551616) (bm : ∀ x ∈ ms, -9223372036854775808 ≤ x ∧ x ≤ 9223372036854775807)
    (hlp : rs.length ≤ 80) (hla : qs.length ≤ 100) (hln : ns.length ≤ 9223372036854775807) (hlm : ms.length ≤ 9223372036854775807) :
    Calls Try.prog 3 #[.slice ap rs.length cp, .slice aa qs.length ca, .slice an ns.length cn, .slice am ms.length cm] w fun e w' => e = .returned (.bool true) ∧ Below w.heap.size w w' := by
  obtain ⟨i0, hi, hz0, hz1, hz2⟩ := info_parts Try.info36
  have d0 : decide ((80 : Int) < rs.length) = false := by simp; omega
  have d1 : decide ((100 : Int) < qs.length) = false := by simp; omega
  go_enter Try.func3, Try.ntmps3
  go_wp2_with fail
  refine (awake18 _).mono ?_
  rintro e w1 ⟨rfl, h1⟩
  have t0 := box_new (((Sep.nil w).quiet h1).rown 36 2)
  have s0 : PlaySt w w1.heap.size 0 (.slice none 0 0) [] 0 (.slice none 0 0) [] (w1.alloc (.cells #[.slice none 0 0, .int .u64 0] 31)) := ⟨t0, rfl, by simp, by simp, by simp, Nat.le_refl _⟩
  clear t0 h1
  go_wp2_with fail
  generalize hB : w1.heap.size = B at *
  generalize w1.alloc (.cells #[.slice none 0 0, .int .u64 0] 31) = V at *
  clear hB
  go_loopg [10, 11, 12, 13, 14, 15, 16, 17, 18, 19, 20, 21] qs.length (fun g u10 u11 u12 u13 _ _ _ _ _ _ _ _ wr => ∃ (k j : Nat) (v : Value) (l : List It) (last : Nat) (vl : Value) (m : List It), k + g = qs.length ∧ u10 = vl ∧ u11 = .int .u64 last ∧ u12 = .int .i64 j ∧ j ≤ rs.length ∧ u13 = .int .i64 k ∧ PlaySt w B k v l last vl m wr)
  case atStart => exact ⟨0, 0, _, _, 0, _, _, by omega, rfl, rfl, rfl, Nat.zero_le _, rfl, s0⟩
  case round =>
    clear s0
    obtain ⟨k, j, v, l, last, vl, m, hk0, rfl, rfl, rfl, hj, rfl, hs⟩ := hrel
    have hk := Lib.hid hk0
    clear hk0
    by_cases hkA : k < qs.length
    · have t1 : decide ((k : Int) < qs.length) = true := by simpa using hkA
      have ho := hs.sep.only
      obtain ⟨ba', oa', rfl, hca⟩ := src_at (ha.off ho (fun _ _ _ => by simp)) hkA
      have hy := hca k (.int .u8 qs[k]) (by simp)
      have bq := ba qs[k] (List.getElem_mem _)
      generalize qs[k] = y at *
      clear hca
      obtain ⟨y0, y1⟩ := bq
      have hrow : wr.ownsRow 0 36 2 u10 m.length (flat m) := hs.sep.tail.head
      obtain ⟨al, cl, rfl⟩ := own_slice hrow
      clear hrow
      go_upto_if 46 with fail
      go_cut [14] from 37 to 214 (fun u14 wx => ∃ n : Int, 0 ≤ n ∧ n < 18446744073709551616 ∧ u14 = .int .u64 n ∧ wr = wx)
      case first =>
        by_cases hkn : k < ns.length
        · have t2 : decide ((k : Int) < ns.length) = true := by simpa using hkn
          obtain ⟨bn', on', rfl, hcn⟩ := src_at (hn.off ho (fun _ _ _ => by simp)) hkn
          have hx := hcn k (.int .u64 ns[k]) (by simp)
          have bx := bn ns[k] (List.getElem_mem _)
          generalize ns[k] = x at *
          clear hcn
          obtain ⟨x0, x1⟩ := bx
          by_cases hy64 : 64 ≤ y
          · have t3 : decide (64 ≤ y) = true := by simpa using hy64
            go_wp2_with fail
            go_meet
            exact ⟨x % 50, by omega, by omega, rfl, rfl⟩
          · have t3 : decide (64 ≤ y) = false := by simpa using hy64
            go_wp2_with fail
            go_meet
            exact ⟨x, x0, x1, rfl, rfl⟩
        · have t2 : decide ((k : Int) < ns.length) = false := by simp; omega
          go_wp2_with fail
          go_meet
          exact ⟨0, by omega, by omega, rfl, rfl⟩
      case rest =>
        obtain ⟨n, hn0, hn1, rfl, rfl⟩ := hcut
        obtain ⟨kd, hkd0⟩ : ∃ kd : Int, y % 4 = kd := ⟨_, rfl⟩
        have kd0 : 0 ≤ kd ∧ kd < 4 := by omega
        go_upto_block 2 with fail
        go_cut [10, 11, 12, 62] from 37 to 214 (fun u10 u11 u12 _ wx => ∃ (j' : Nat) (v : Value) (l : List It) (last : Nat) (vl : Value) (m : List It), u10 = vl ∧ u11 = .int .u64 last ∧ u12 = .int .i64 j' ∧ j' ≤ rs.length ∧ PlaySt w B (k + 1) v l last vl m wx)
        case first =>
          simp only [hkd0]
          clear hkd0 hy
          go_upto_if 93 with fail
          go_cut [62, 93] from 37 to 214 (fun u62 u wx => u62 = .int .u8 kd ∧ u = .bool (decide (kd ≤ 1)) ∧ wr = wx)
          case first =>
            by_cases h0 : kd = 0
            · have q0 : (kd == 0) = true := by simpa using h0
              go_wp2_with fail
              go_meet
              exact ⟨rfl, by simp [h0], rfl⟩
            · have q0 : (kd == 0) = false := by simpa using h0
              by_cases h1 : kd = 1
              · have q1 : (kd == 1) = true := by simpa using h1
                go_wp2_with fail
                go_meet
                exact ⟨rfl, by simp [h1], rfl⟩
              · have q1 : (kd == 1) = false := by simpa using h1
                go_wp2_with fail
                go_meet
                exact ⟨rfl, by simp; omega, rfl⟩
          case rest =>
            obtain ⟨rfl, rfl, rfl⟩ := hcut
            by_cases h01 : kd ≤ 1
            · as_aux_lemma =>
               have q01 : decide (kd ≤ 1) = true := by simpa using h01
               by_cases hjr : j < rs.length
               · have t4 : decide ((rs.length : Int) ≤ j) = false := by simp; omega
                 obtain ⟨bp', op', rfl, hcp⟩ := src_new hp hjr
                 have hps := fun w' ho => hcp w' ho j (bval rs[j]) (by rw [List.getElem?_map, List.getElem?_eq_getElem hjr]; rfl)
                 have hr := br rs[j] (List.getElem_mem _)
                 clear hcp
                 generalize rs[j] = r at *
                 obtain ⟨ao', c', bs⟩ := r
                 simp only [bval] at hps hr
                 have hx := hps _ ho
                 have hlm := hs.hlen
                 have hle := hs.le
                 by_cases hb3 : bs.length ≤ 300
                 · have t5 : decide ((300 : Int) < bs.length) = false := by simp; omega
                   by_cases h32 : m.length < 32
                   · have t6 : decide ((32 : Int) ≤ m.length) = false := by simp; omega
                     have hBs : w.heap.size ≤ B := hs.sep.new _ (List.mem_cons_self ..) B (by simp [box, two, blk])
                     have hla := hs.lastK
                     have hrc := hr.1.off ho (fun _ _ _ => by simp)
                     go_wp2_with fail
                     refine (put_off B v l last _ bs _ hs.sep (by omega) (by omega) hrc (Src.off_new hr.1 (by decide) (by simpa using hBs)) (by omega)).mono ?_
                     rintro e w2 ⟨rfl, v2, x, hxc, u1⟩
                     have hx2 := hps _ u1.only
                     have u2 := (u1.quiet (Only.alloc w2 (.cells #[.int .u64 ((last : Int) + 1), .slice ao' bs.length c'] 36) [])).up 1 (by simp)
                     have hs6 := src_lit w2 [.int .u64 ((last : Int) + 1), .slice ao' bs.length c'] 36 1 2 rfl
                     have hown : (w2.alloc (.cells #[.int .u64 ((last : Int) + 1), .slice ao' bs.length c'] 36)).ownsRow 0 36 2 (.slice al m.length cl) m.length (flat m) := u2.head
                     have w64 : IntKind.u64.wrap ((last : Int) + 1) = (last : Int) + 1 := by simp [IntKind.wrap, IntKind.bits, IntKind.signed]; omega
                     clear hx hrc u1
                     go_wp2_with (at_builtin; refine wpList_append_src rfl _ _ 28 rfl 36 i0 (.agg #[.int .u64 0, .slice none 0 0]) 2 32 Try.underlying28 hi hz0 hz1 hz2 rfl (by decide) (.slice al m.length cl) m.length (flat m) rfl hown _ 1 _ rfl hs6 (by simp [Value.oneCell']) (by unfold maxLen; omega) (by omega) ?_; intro v7 w7 g1 g2 g3; obtain ⟨a7, c7, rfl⟩ := own_slice g1)
                     have u3 := (u2.app g1 g2 g3).up 1 (by simp)
                     have hs' := hs.more (y := ⟨(last : Int) + 1, ao', c', bs⟩) hxc rfl h32 hb3 hr u3
                     go_meet
                     exact ⟨j + 1, v2, l ++ [x], last + 1, _, _, rfl, by simp, by simp, by omega, hs'⟩
                   · have t6 : decide ((32 : Int) ≤ m.length) = true := by simp; omega
                     go_wp2_with fail
                     refine (put_full B v l last _ bs.length _ _ hs.sep (by omega) (by omega)).mono ?_
                     rintro e w2 ⟨rfl, rfl⟩
                     go_wp2_with fail
                     go_meet
                     exact ⟨j + 1, v, l, last, _, m, rfl, rfl, by simp, by omega, hs.mono (by omega)⟩
                 · have t5 : decide ((300 : Int) < bs.length) = true := by simp; omega
                   go_wp2_with fail
                   go_roundg (qs.length - (k + 1))
                   case measure => have := hk.out; omega
                   case rel => exact ⟨k + 1, j, v, l, last, _, m, by have := hk.out; omega, rfl, rfl, rfl, hj, by simp, hs.mono (by omega)⟩
               · have t4 : decide ((rs.length : Int) ≤ j) = true := by simp; omega
                 go_wp2_with fail
                 go_roundg (qs.length - (k + 1))
                 case measure => have := hk.out; omega
                 case rel => exact ⟨k + 1, j, v, l, last, _, m, by have := hk.out; omega, rfl, rfl, rfl, hj, by simp, hs.mono (by omega)⟩
            · have q01 : decide (kd ≤ 1) = false := by simp; omega
              rcases (by omega : kd = 2 ∨ kd = 3) with rfl | rfl
              · as_aux_lemma =>
                 clear kd0 h01
                 go_upto_if 151 with fail
                 go_cut [17] from 37 to 214 (fun u17 wx => ∃ mo : Int, -9223372036854775808 ≤ mo ∧ mo ≤ 9223372036854775807 ∧ u17 = .int .i64 mo ∧ wr = wx)
                 case first =>
                   by_cases hkm : k < ms.length
                   · have t2 : decide ((k : Int) < ms.length) = true := by simpa using hkm
                     obtain ⟨bm', om', rfl, hcm⟩ := src_at (hm.off ho (fun _ _ _ => by simp)) hkm
                     have hx := hcm k (.int .i64 ms[k]) (by simp)
                     have bx := bm ms[k] (List.getElem_mem _)
                     generalize ms[k] = x at *
                     clear hcm
                     go_wp2_with fail
                     go_meet
                     exact ⟨x, bx.1, bx.2, rfl, rfl⟩
                   · have t2 : decide ((k : Int) < ms.length) = false := by simp; omega
                     go_wp2_with fail
                     go_meet
                     exact ⟨9, by omega, by omega, rfl, rfl⟩
                 case rest =>
                   obtain ⟨mo, hmo0, hmo1, rfl, rfl⟩ := hcut
                   have hle := hs.le
                   go_wp2_with fail
                   go_loopw [18, 19] (fun u18 u19 wx => ∃ (c : Nat) (vw : Value) (mw : List It), u18 = vw ∧ u19 = .int .i64 c ∧ c ≤ m.length ∧ mw.length ≤ c ∧ fromF n mo (mw.map ct) ((m.drop c).map ct) = fromF n mo [] (m.map ct) ∧ (∀ x ∈ mw, x ∈ m) ∧ Sep w wx [row 36 2 vw mw.length (flat mw), box B v l last, row 36 2 (.slice al m.length cl) m.length (flat m)]) (fun _ u19 _ => m.length - (intOf u19).toNat)
                   case atStart => exact ⟨0, _, [], rfl, rfl, Nat.zero_le _, Nat.le_refl _, rfl, by simp, hs.sep.rown 36 2⟩
                   case round =>
                     obtain ⟨c, vw, mw, rfl, rfl, hc, hmw, hf0, hsub0, hq⟩ := hrel
                     have hf := Lib.hid hf0
                     have hsub := Lib.hid hsub0
                     clear hf0 hsub0
                     have hrw : wr.ownsRow 0 36 2 u18 mw.length (flat mw) := hq.head
                     obtain ⟨aw, cw, rfl⟩ := own_slice hrw
                     have hrm : wr.ownsRow 0 36 2 (.slice al m.length cl) m.length (flat m) := hq.tail.tail.head
                     by_cases hcm : c < m.length
                     · have t2 : decide ((c : Int) < m.length) = true := by simpa using hcm
                       obtain ⟨gm, rfl, _⟩ := own_some hrm (by omega)
                       have hit := item_at hrm hcm
                       have hfk : Hid ((m.drop c).map ct = ct m[c] :: (m.drop (c + 1)).map ct) := by
                         show (m.drop c).map ct = _
                         rw [List.drop_eq_getElem_cons hcm]; rfl
                       have hmem := Lib.hid (List.getElem_mem hcm)
                       generalize m[c] = x at *
                       obtain ⟨xn, xa, xc, xb⟩ := x
                       simp only [ev, ct] at hit hfk
                       obtain ⟨hc0, hc1⟩ := hit
                       have hc0a : ∀ o, (wr.alloc o).cell? ⟨gm, c * 2, none⟩ = some (.int .u64 xn) := cell_al hc0
                       have hc1a : ∀ o, (wr.alloc o).cell? ⟨gm, c * 2 + 1, none⟩ = some (.slice xa xb.length xc) := cell_al hc1
                       by_cases h1 : n < xn
                       · have d1 : decide (n < xn) = true := by simpa using h1
                         by_cases h2 : (mw.length : Int) < mo
                         · have d2 : decide ((mw.length : Int) < mo) = true := by simpa using h2
                           have u2 := hq.quiet (Only.alloc wr (.cells #[.int .u64 xn, .slice xa xb.length xc] 36) [])
                           have hs6 := src_lit wr [.int .u64 xn, .slice xa xb.length xc] 36 1 2 rfl
                           have hown : (wr.alloc (.cells #[.int .u64 xn, .slice xa xb.length xc] 36)).ownsRow 0 36 2 (.slice aw mw.length cw) mw.length (flat mw) := u2.head
                           go_wp2_with (at_builtin; refine wpList_append_src rfl _ _ 28 rfl 36 i0 (.agg #[.int .u64 0, .slice none 0 0]) 2 32 Try.underlying28 hi hz0 hz1 hz2 rfl (by decide) (.slice aw mw.length cw) mw.length (flat mw) rfl hown _ 1 _ rfl hs6 (by simp [Value.oneCell']) (by unfold maxLen; omega) (by omega) ?_; intro v7 w7 g1 g2 g3; obtain ⟨a7, c7, rfl⟩ := own_slice g1)
                           have u3 := u2.app g1 g2 g3
                           refine ⟨⟨c + 1, _, mw ++ [⟨xn, xa, xc, xb⟩], rfl, by simp, by omega, by simp; omega, ?_, ?_, ?_⟩, by simp [intOf]; omega⟩
                           · rw [← hf.out, hfk.out, List.map_append]
                             simp only [fromF, List.map_cons, List.map_nil, ct]
                             rw [if_pos ⟨h1, by rw [List.length_map]; exact h2⟩]
                           · intro z hz
                             rcases List.mem_append.1 hz with hz | hz
                             · exact hsub.out z hz
                             · obtain rfl : z = _ := by simpa using hz
                               exact hmem.out
                           · rw [flat_snoc, List.length_append]
                             exact u3
                         · have d2 : decide ((mw.length : Int) < mo) = false := by simpa using h2
                           go_wp2_with fail
                           refine ⟨⟨c + 1, _, mw, rfl, by simp, by omega, by omega, ?_, hsub.out, hq⟩, by simp [intOf]; omega⟩
                           rw [← hf.out, hfk.out]
                           simp only [fromF]
                           rw [if_neg (fun hh => h2 (by have := hh.2; rwa [List.length_map] at this))]
                       · have d1 : decide (n < xn) = false := by simpa using h1
                         go_wp2_with fail
                         refine ⟨⟨c + 1, _, mw, rfl, by simp, by omega, by omega, ?_, hsub.out, hq⟩, by simp [intOf]; omega⟩
                         rw [← hf.out, hfk.out]
                         simp only [fromF]
                         rw [if_neg (fun hh => h1 hh.1)]
                     · obtain rfl : c = m.length := by omega
                       have t2 : decide ((m.length : Int) < m.length) = false := by simp
                       have hlm := hs.hlen
                       have hla := hs.lastK
                       have hfx : Hid (mw.map ct = fromF n mo [] (l.map ct)) := by
                         have := hf.out
                         rw [List.drop_length] at this
                         show mw.map ct = _
                         rw [← hs.same, ← this]
                         simp [fromF]
                       go_wp2_with fail
                       refine (from_any B v l last n mo _ (hq.up 1 (by simp)) (by omega) (fun x hx => by have := hs.lenl x hx; omega) ⟨hn0, hn1⟩ ⟨hmo0, hmo1⟩).mono ?_
                       rintro e w4 ⟨v4, l4, rfl, hl4, u4⟩
                       obtain ⟨r1, r2⟩ := items_facts u4
                       have hrw4 : w4.ownsRow 0 36 2 (.slice aw mw.length cw) mw.length (flat mw) := u4.tail.tail.head
                       have ho4 := u4.only
                       have hd : Hid (decide (l4.map ct = mw.map ct) = true) := decide_eq_true (hl4.trans hfx.out.symm)
                       have hl4l : l4.length ≤ 1000000 := by
                         have := congrArg List.length (hl4.trans hfx.out.symm)
                         simp at this
                         omega
                       have hc2 := sameitems_any v4 (.slice aw mw.length cw) l4 mw w4 (rdi_told r1 r2 hl4 hs.byl) ⟨own_src hrw4, fun x hx => ⟨(hs.env x (hsub.out x hx)).1.off ho4 (fun _ _ _ => by simp), (hs.env x (hsub.out x hx)).2⟩⟩ hl4l (by omega)
                       rw [hd.out] at hc2
                       have hc2 := Lib.hid hc2
                       clear hrw hrm hf hsub hrw4 r1 r2 hl4
                       go_wp2_with fail
                       refine hc2.out.mono ?_
                       rintro e w5 ⟨rfl, ho5⟩
                       have u5 := (((u4.quiet ho5).up 2 (by simp)).tail).tail
                       go_wp2_with fail
                       go_meet
                       exact ⟨j, v, l, last, _, m, rfl, rfl, rfl, hj, hs.at_ u5⟩
              · as_aux_lemma =>
                 clear kd0 h01
                 have hle := hs.le
                 go_wp2_with fail
                 go_loopw [20, 21] (fun u20 u21 wx => ∃ c : Nat, u21 = .int .i64 c ∧ c ≤ m.length ∧ Sep w wx [row 36 2 u20 (kp n (m.take c)).length (flat (kp n (m.take c))), box B v l last, row 36 2 (.slice al m.length cl) m.length (flat m)]) (fun _ u21 _ => m.length - (intOf u21).toNat)
                 case atStart => exact ⟨0, rfl, Nat.zero_le _, hs.sep.rown 36 2⟩
                 case round =>
                   obtain ⟨c, rfl, hc, hq⟩ := hrel
                   have hkl : (kp n (m.take c)).length ≤ c := Nat.le_trans (List.length_filter_le _ _) (by simp; omega)
                   have hrw : wr.ownsRow 0 36 2 u20 (kp n (m.take c)).length (flat (kp n (m.take c))) := hq.head
                   obtain ⟨aw, cw, rfl⟩ := own_slice hrw
                   have hrm : wr.ownsRow 0 36 2 (.slice al m.length cl) m.length (flat m) := hq.tail.tail.head
                   by_cases hcm : c < m.length
                   · have t2 : decide ((c : Int) < m.length) = true := by simpa using hcm
                     obtain ⟨gm, rfl, _⟩ := own_some hrm (by omega)
                     have hit := item_at hrm hcm
                     have hfk : Hid (kp n (m.take (c + 1)) = kp n (m.take c) ++ (if n < m[c].n then [m[c]] else [])) := by
                       show kp n (m.take (c + 1)) = _
                       rw [List.take_succ_eq_append_getElem hcm, kp_snoc]
                     generalize m[c] = x at *
                     obtain ⟨xn, xa, xc, xb⟩ := x
                     simp only [ev] at hit hfk
                     obtain ⟨hc0, hc1⟩ := hit
                     have hc0a : ∀ o, (wr.alloc o).cell? ⟨gm, c * 2, none⟩ = some (.int .u64 xn) := cell_al hc0
                     have hc1a : ∀ o, (wr.alloc o).cell? ⟨gm, c * 2 + 1, none⟩ = some (.slice xa xb.length xc) := cell_al hc1
                     generalize kp n (m.take c) = mw at *
                     by_cases h1 : n < xn
                     · have d1 : decide (n < xn) = true := by simpa using h1
                       have u2 := hq.quiet (Only.alloc wr (.cells #[.int .u64 xn, .slice xa xb.length xc] 36) [])
                       have hs6 := src_lit wr [.int .u64 xn, .slice xa xb.length xc] 36 1 2 rfl
                       have hown : (wr.alloc (.cells #[.int .u64 xn, .slice xa xb.length xc] 36)).ownsRow 0 36 2 (.slice aw mw.length cw) mw.length (flat mw) := u2.head
                       go_wp2_with (at_builtin; refine wpList_append_src rfl _ _ 28 rfl 36 i0 (.agg #[.int .u64 0, .slice none 0 0]) 2 32 Try.underlying28 hi hz0 hz1 hz2 rfl (by decide) (.slice aw mw.length cw) mw.length (flat mw) rfl hown _ 1 _ rfl hs6 (by simp [Value.oneCell']) (by unfold maxLen; omega) (by omega) ?_; intro v7 w7 g1 g2 g3; obtain ⟨a7, c7, rfl⟩ := own_slice g1)
                       have u3 := u2.app g1 g2 g3
                       refine ⟨⟨c + 1, by simp, by omega, ?_⟩, by simp [intOf]; omega⟩
                       rw [hfk.out, if_pos h1, flat_snoc, List.length_append]
                       exact u3
                     · have d1 : decide (n < xn) = false := by simpa using h1
                       go_wp2_with fail
                       refine ⟨⟨c + 1, by simp, by omega, ?_⟩, by simp [intOf]; omega⟩
                       rw [hfk.out, if_neg h1, List.append_nil]
                       exact hq
                   · obtain rfl : c = m.length := by omega
                     have t2 : decide ((m.length : Int) < m.length) = false := by simp
                     rw [List.take_length] at hq hkl
                     have hlm := hs.hlen
                     have hkc := Lib.hid (kp_ct n hs.same)
                     have hkn : (kp n m).length = (kp n l).length := by have := congrArg List.length hkc.out; simpa using this
                     have hkl2 : (kp n l).length ≤ l.length := List.length_filter_le _ _
                     have hne : (((l.length : Int) - (kp n l).length) != ((m.length : Int) - (kp n m).length)) = false := by
                       rw [hkn, hlm]; simp
                     clear hrw hrm hkn
                     simp only [List.take_length]
                     go_wp2_with fail
                     refine (ack_any B v l last n _ (hq.up 1 (by simp)) (by omega)).mono ?_
                     rintro e w4 ⟨rfl, v4, u4⟩
                     go_wp2_with fail
                     go_meet
                     exact ⟨j, v4, kp n l, last, _, kp n m, rfl, rfl, rfl, hj, hs.kept n hkc.out (u4.up 2 (by simp)).tail⟩
        case rest =>
          as_aux_lemma =>
           clear hs hkd0 hy
           obtain ⟨j', v, l, last, vl, m, rfl, rfl, rfl, hj', hs⟩ := hcut
           have hrow : wc.ownsRow 0 36 2 u10 m.length (flat m) := hs.sep.tail.head
           obtain ⟨al, cl, rfl⟩ := own_slice hrow
           have hlm := hs.hlen
           have hle := hs.le
           have hla := hs.lastK
           have q1 : ((l.length : Int) != m.length) = false := by rw [hlm]; simp
           have q2 : ((32 : Int) - l.length != 32 - m.length) = false := by rw [hlm]; simp
           have hlen2 := Lib.hid hlm
           clear hlm
           have hl32 : l.length ≤ 32 := by have := hlen2.out; omega
           go_wp2_with fail
           refine (len_any B v l last _ hs.sep).mono ?_
           rintro e w' ⟨rfl, rfl⟩
           go_wp2_with fail
           refine (room_any B v l last _ hs.sep (by omega)).mono ?_
           rintro e w' ⟨rfl, rfl⟩
           go_wp2_with fail
           refine (last_any B v l last _ hs.sep).mono ?_
           rintro e w' ⟨rfl, rfl⟩
           go_wp2_with fail
           refine (from_any B v l last 0 100 _ hs.sep (by omega) (fun x hx => by have := hs.lenl x hx; omega) (by decide) (by decide)).mono ?_
           rintro e w4 ⟨v4, l4, rfl, hl4, u4⟩
           obtain ⟨r1, r2⟩ := items_facts u4
           have hrw4 : w4.ownsRow 0 36 2 (.slice al m.length cl) m.length (flat m) := u4.tail.tail.head
           have ho4 := u4.only
           have hd : Hid (decide (l4.map ct = m.map ct) = true) := decide_eq_true (by
             rw [hl4, fromF_all 0 100 _ _ (fun x hx => by
               obtain ⟨z, hz, rfl⟩ := List.mem_map.1 hx
               exact (hs.lenl z hz).2.1) (by simp; omega), hs.same]
             rfl)
           have hl4l : l4.length ≤ 1000000 := by
             have := congrArg List.length (of_decide_eq_true hd.out)
             simp at this
             omega
           have hc2 := sameitems_any v4 (.slice al m.length cl) l4 m w4 (rdi_told r1 r2 hl4 hs.byl) ⟨own_src hrw4, fun x hx => ⟨(hs.env x hx).1.off ho4 (fun _ _ _ => by simp), (hs.env x hx).2⟩⟩ hl4l (by omega)
           rw [hd.out] at hc2
           have hc2 := Lib.hid hc2
           clear hrow hrw4 r1 r2 hl4
           go_wp2_with fail
           refine hc2.out.mono ?_
           rintro e w5 ⟨rfl, ho5⟩
           have u5 := (u4.quiet ho5).tail
           go_wp2_with fail
           go_roundg (qs.length - (k + 1))
           case measure => have := hk.out; omega
           case rel => exact ⟨k + 1, j', v, l, last, _, m, by have := hk.out; omega, rfl, rfl, rfl, hj', by simp, { hs with sep := u5 }⟩
    · obtain rfl : k = qs.length := by have := hk.out; omega
      clear hk
      have t1 : decide ((qs.length : Int) < qs.length) = false := by simp
      go_wp2_with fail
      go_ret
      exact ⟨rfl, hs.sep.only.below (Nat.le_refl _) (by simp)⟩

set_option maxRecDepth 100000 in
set_option maxHeartbeats 6400000 in
theorem plays_bail (ap aa an am : Option Addr) (lp la ln lm cp ca cn cm : Nat) (w : World) (h : 80 < lp ∨ (lp ≤ 80 ∧ 100 < la)) :
    Calls Try.prog 3 #[.slice ap lp cp, .slice aa la ca, .slice an ln cn, .slice am lm cm] w fun e w' => e = .returned (.bool true) ∧ Below w.heap.size w w' := by
  rcases h with h | ⟨h1, h2⟩
  · have d0 : decide ((80 : Int) < lp) = true := by simp; omega
    clear h
    go_enter Try.func3, Try.ntmps3
    go_wp2_with fail
    refine (awake18 _).mono ?_
    rintro e w1 ⟨rfl, h1⟩
    go_wp2_with fail
    refine (awake18 _).mono ?_
    rintro e w2 ⟨rfl, h2⟩
    go_wp2_with fail
    go_ret
    exact ⟨rfl, (h1.trans h2).below (Nat.le_refl _) (by simp)⟩
  · have d0 : decide ((80 : Int) < lp) = false := by simp; omega
    have d1 : decide ((100 : Int) < la) = true := by simp; omega
    clear h1 h2
    go_enter Try.func3, Try.ntmps3
    go_wp2_with fail
    refine (awake18 _).mono ?_
    rintro e w1 ⟨rfl, h1⟩
    go_wp2_with fail
    refine (awake18 _).mono ?_
    rintro e w2 ⟨rfl, h2⟩
    go_wp2_with fail
    go_ret
    exact ⟨rfl, (h1.trans h2).below (Nat.le_refl _) (by simp)⟩

theorem u64_rng {xs : List Int} (h : ∀ x ∈ xs, (Lit.int .u64 x).wf = true) : ∀ x ∈ xs, 0 ≤ x ∧ x < 18446744073709551616 := fun x hx => by
  have := h x hx
  simp [Lit.wf, IntKind.min, IntKind.max, IntKind.signed, IntKind.bits] at this
  omega
theorem i64_rng {xs : List Int} (h : ∀ x ∈ xs, (Lit.int .i64 x).wf = true) : ∀ x ∈ xs, -9223372036854775808 ≤ x ∧ x ≤ 9223372036854775807 := fun x hx => by
  have := h x hx
  simp [Lit.wf, IntKind.min, IntKind.max, IntKind.signed, IntKind.bits] at this
  omega
theorem src_max {w : World} {x : Value} {size m : Nat} {news : List Value} (h : Src w x size m news) : m ≤ 9223372036854775807 := by
  obtain ⟨ao, c, _, k1, k2, _⟩ := h
  unfold maxLen at k2
  omega

theorem mailboxPlays_holds : Rows.MailboxPlaysSaid := mailboxPlays.said fun H enc base W v0 v1 v2 v3 d0 p0 d1 p1 d2 p2 d3 p3 h0 t0 h1 t1 h2 t2 h3 t3 => by
  obtain ⟨aa, ca, qs, rfl, ha, ba⟩ := open_bytes Try.underlying23 Try.underlying5 (by kernel_rfl) h1 t1
  obtain ⟨an, cn, ns, rfl, hn, bn⟩ := open_src Try.underlying24 Try.underlying29 (by kernel_rfl) h2 t2
  obtain ⟨am, cm, ms, rfl, hm, bm⟩ := open_src Try.underlying25 Try.underlying3 (by kernel_rfl) h3 t3
  obtain ⟨fuel, hf⟩ := t0
  obtain ⟨ap', len', cap', rfl⟩ := Go.WideShapes.okWide_slice Try.underlying22 h0
  obtain ⟨ap, cp, rs, e, hp, hr⟩ := reads_rows Try.underlying22 Try.underlying23 Try.underlying5 (by kernel_rfl) (by kernel_rfl) ⟨H, enc, fuel, _, hf⟩
  have e : [Value.slice ap' len' cap'] = [.slice ap rs.length cp] := e
  injection e with e
  rw [e]
  by_cases hc : rs.length ≤ 80 ∧ qs.length ≤ 100
  · exact plays_walk ap aa an am cp ca cn cm rs qs ns ms W hp (fun r hr' => ⟨(hr r hr').1, (hr r hr').2⟩) ha hn hm ba (u64_rng bn) (i64_rng bm) hc.1 hc.2 (src_max hn) (src_max hm)
  · exact plays_bail ap aa an am _ _ _ _ cp ca cn cm W (by omega)
end Go.Proofs.Ytjopgcbfahlmnaa
