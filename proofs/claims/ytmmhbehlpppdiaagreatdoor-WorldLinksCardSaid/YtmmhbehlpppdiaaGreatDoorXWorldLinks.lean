/- WorldLinks: the tied card of the law. No condition beyond the row's own. -/
import Derived.Test.YtmmhbehlpppdiaaGreatDoorXLm
import Derived.Test.YtmmhbehlpppdiaaGreatDoorXW24t
import Derived.Test.YtmmhbehlpppdiaaGreatDoorQ9
import Derived.Test.YtmmhbehlpppdiaaGreatDoorTWorldLinks
set_option linter.all false
open Go Go.Proofs Go.RowKit
namespace Go.Proofs.YtmmhbehlpppdiaaGreatDoor
set_option maxRecDepth 100000
theorem ro_at : a7.ro = [(3, Go.Sx.Cont.cells (pows.map fun z => Go.Sx.AV.int .u64 z))] := by kernel_rfl
theorem tab_in {W : World} (hL : laidMet Tryz.prog Rows.worldLinksRow.laid W) : Lib.TabIs Tryz.prog W "internal/strconv.uint64pow10" .u64 Lib.pow10Tab := by
  obtain ⟨ps, hV, _, _⟩ := hL
  have hin : ("internal/strconv.uint64pow10", (Lib.tabData .u64 Lib.pow10Tab : DataW Unit)) ∈ Rows.worldLinksRow.laid := List.mem_of_getElem? (i := 2) (by kernel_rfl)
  obtain ⟨g, t, cs, fuel, p, h1, h2, h3, h4, h5⟩ := Go.Sx.laid_var hV hin
  obtain rfl := Option.some.inj ((show Tryz.prog.globalNamed "internal/strconv.uint64pow10" = some 3 by kernel_rfl).symm.trans h1)
  obtain rfl := Option.some.inj (tPow.symm.trans h2)
  unfold Lib.TabIs
  rw [h3, ← Lib.cells_of_tab Tryz.underlying529 Tryz.underlying68 (by kernel_rfl) (by kernel_rfl) h4]
theorem fl_uc : ∀ (l : List Int), Go.Pw.fl Wl.uc l = l.map (Value.int .u8)
  | [] => rfl
  | x :: l => by simpa [Go.Pw.fl, Wl.uc] using fl_uc l
theorem worldLinks_walk : worldLinks.Walk := by
  intro H enc base W v0 d0 p0 hL k0 t0
  obtain ⟨ao, c, l, rfl, hs, hq⟩ := Go.Pw.open_bytes Tryz.underlying22 Tryz.underlying5 (by kernel_rfl) k0 t0
  rw [MakeChecks.laidMetH_plain _ _ _ (by kernel_rfl)] at hL
  obtain ⟨el, hb⟩ := laid_ro hL (List.mem_of_getElem? (show Rows.worldLinksRow.laid[2]? = some (_, _) from rfl)) (by kernel_rfl) (by kernel_rfl)
  have hW : ∀ W', Go.Pw.Only W W' [] → ∀ id c, (id, c) ∈ a7.ro → Go.Sx.BlkOK (Go.Sx.env0 Tryz.prog) W' id (.mk el 0 c) := fun W' ho id c hm =>
    Go.Sx.blk_still ⟨ho.os, ho.tape, ho.output, ho.size, fun k hk => ho.block k hk (by simp)⟩ (hb id c (by rw [← ro_at]; exact hm))
  refine (Wl.links_any _ l W (by rw [fl_uc]; exact hs) hq (Wl.itoa_ok (g := 3) (by kernel_rfl) (tab_in hL)) (fun W' ho => (awake24 (E := fun _ => el) (hW W' ho)).mono ?_)).mono ?_
  · rintro e w ⟨rfl, bel⟩
    exact ⟨rfl, ⟨bel.os, bel.tape, bel.output, bel.size, fun k hk _ => bel.block k hk⟩⟩
  · rintro e w ⟨rfl, ho⟩
    exact ⟨rfl, ⟨ho.os, ho.tape, ho.output, ho.size, fun k hk => ho.block k hk (by simp)⟩⟩

theorem worldLinksCard_holds : Rows.WorldLinksCardSaid := worldLinks.card worldLinks_walk
end Go.Proofs.YtmmhbehlpppdiaaGreatDoor
