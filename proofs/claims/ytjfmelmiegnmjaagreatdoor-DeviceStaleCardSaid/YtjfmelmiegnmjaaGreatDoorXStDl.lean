/- The tables that the law reads, as they are laid. -/
import Derived.Test.YtjfmelmiegnmjaaGreatDoorXStXh
set_option linter.all false
open Go Go.Sx Go.Proofs Go.RowKit
set_option linter.all false
namespace Go.Proofs.YtjfmelmiegnmjaaGreatDoor
set_option maxRecDepth 1000000
def pows : List Int := [1, 10, 100, 1000, 10000, 100000, 1000000, 10000000, 100000000, 1000000000, 10000000000, 100000000000, 1000000000000, 10000000000000, 100000000000000, 1000000000000000, 10000000000000000, 100000000000000000, 1000000000000000000, 10000000000000000000]
def rnds : List Int := [1116352408, 1899447441, 3049323471, 3921009573, 961987163, 1508970993, 2453635748, 2870763221, 3624381080, 310598401, 607225278, 1426881987, 1925078388, 2162078206, 2614888103, 3248222580, 3835390401, 4022224774, 264347078, 604807628, 770255983, 1249150122, 1555081692, 1996064986, 2554220882, 2821834349, 2952996808, 3210313671, 3336571891, 3584528711, 113926993, 338241895, 666307205, 773529912, 1294757372, 1396182291, 1695183700, 1986661051, 2177026350, 2456956037, 2730485921, 2820302411, 3259730800, 3345764771, 3516065817, 3600352804, 4094571909, 275423344, 430227734, 506948616, 659060556, 883997877, 958139571, 1322822218, 1537002063, 1747873779, 1955562222, 2024104815, 2227730452, 2361852424, 2428436474, 2756734187, 3204031479, 3329325298]
def fsts : List Int := [1779033703, 3144134277, 1013904242, 2773480762, 1359893119, 2600822924, 528734635, 1541459225]
def roW : List (Nat × Cont) := [(1, Cont.cells (fsts.map fun z => AV.int .u32 z)), (2, Cont.cells (rnds.map fun z => AV.int .u32 z)), (5, Cont.cells (pows.map fun z => AV.int .u64 z))]
theorem tPow : (Tryz.prog.globals[5]?).map (·.type) = some 505 := by kernel_rfl
theorem tRnd : (Tryz.prog.globals[2]?).map (·.type) = some 465 := by kernel_rfl
theorem tFst : (Tryz.prog.globals[1]?).map (·.type) = some 394 := by kernel_rfl

/-- In a world in which the variables are laid the tables are there. -/
theorem laid_ro {laid : List (String × DataW Unit)} {W : World} (h : laidMet Tryz.prog laid W) {n1 n2 n3 : String} {d1 d2 d3 : DataW Unit} (i1 : (n1, d1) ∈ laid) (i2 : (n2, d2) ∈ laid) (i3 : (n3, d3) ∈ laid)
    (e1 : d1 = Lib.tabData .u32 fsts) (e2 : d2 = Lib.tabData .u32 rnds) (e3 : d3 = Lib.tabData .u64 pows) (g1 : Tryz.prog.globalNamed n1 = some 1) (g2 : Tryz.prog.globalNamed n2 = some 2) (g3 : Tryz.prog.globalNamed n3 = some 5) :
    ∃ E : Nat → Nat, ∀ id c, (id, c) ∈ roW → BlkOK (env0 Tryz.prog) W id (.mk (E id) 0 c) := by
  subst e1 e2 e3
  obtain ⟨a1, b1⟩ := laid_tab_blk h i1 g1 tFst Tryz.underlying394 Tryz.underlying24 (by kernel_rfl) (by kernel_rfl) (by decide)
  obtain ⟨a2, b2⟩ := laid_tab_blk h i2 g2 tRnd Tryz.underlying465 Tryz.underlying24 (by kernel_rfl) (by kernel_rfl) (by decide)
  obtain ⟨a3, b3⟩ := laid_tab_blk h i3 g3 tPow Tryz.underlying505 Tryz.underlying42 (by kernel_rfl) (by kernel_rfl) (by decide)
  refine ⟨fun id => if id = 1 then a1 else if id = 2 then a2 else a3, fun id c hm => ?_⟩
  simp only [roW, List.mem_cons, List.not_mem_nil, or_false, Prod.mk.injEq] at hm
  rcases hm with ⟨rfl, rfl⟩ | ⟨rfl, rfl⟩ | ⟨rfl, rfl⟩
  · exact b1
  · exact b2
  · exact b3
end Go.Proofs.YtjfmelmiegnmjaaGreatDoor
