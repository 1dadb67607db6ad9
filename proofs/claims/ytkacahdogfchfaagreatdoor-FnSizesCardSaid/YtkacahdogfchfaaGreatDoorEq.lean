/-
  slices.Equal over two lists of ten numbers with the same cells: true. Conditions: none beyond its premises.
-/
import Derived.Test.YtkacahdogfchfaaGreatDoorProg
import Derived.Test.YtkacahdogfchfaaGreatDoorKit3
import Derived.BigQuiet
import Derived.Laws.EntriesVeiled
import Derived.Deep.QuietTactic
import Derived.WalkKit
import Derived.WalkLawsBesides
import Derived.WalkSpells
import Derived.Outline
import Derived.Handy
namespace Go.Proofs.YtkacahdogfchfaaGreatDoor
open Go.RowKit
set_option maxRecDepth 100000 in
set_option maxHeartbeats 4000000 in
theorem equal8 (g h : Nat) (v0 v1 v2 v3 v4 v5 v6 v7 v8 v9 : Int) (w : World) (hG : Blk w g 3 #[.int .i64 v0, .int .i64 v1, .int .i64 v2, .int .i64 v3, .int .i64 v4, .int .i64 v5, .int .i64 v6, .int .i64 v7, .int .i64 v8, .int .i64 v9])
    (hH : Blk w h 3 #[.int .i64 v0, .int .i64 v1, .int .i64 v2, .int .i64 v3, .int .i64 v4, .int .i64 v5, .int .i64 v6, .int .i64 v7, .int .i64 v8, .int .i64 v9]) :
    Calls Tryz.prog 8 #[.slice (some ⟨g, 0, none⟩) 10 10, .slice (some ⟨h, 0, none⟩) 10 10] w fun e w' => e = .returned (.bool true) ∧ Below w.heap.size w w' := by
  have a0 := hG.cell 0
  have a1 := hG.cell 1
  have a2 := hG.cell 2
  have a3 := hG.cell 3
  have a4 := hG.cell 4
  have a5 := hG.cell 5
  have a6 := hG.cell 6
  have a7 := hG.cell 7
  have a8 := hG.cell 8
  have a9 := hG.cell 9
  have b0 := hH.cell 0
  have b1 := hH.cell 1
  have b2 := hH.cell 2
  have b3 := hH.cell 3
  have b4 := hH.cell 4
  have b5 := hH.cell 5
  have b6 := hH.cell 6
  have b7 := hH.cell 7
  have b8 := hH.cell 8
  have b9 := hH.cell 9
  simp only [List.getElem?_toArray, List.getElem?_cons_zero, List.getElem?_cons_succ] at a0 a1 a2 a3 a4 a5 a6 a7 a8 a9 b0 b1 b2 b3 b4 b5 b6 b7 b8 b9
  clear hG hH
  go_enter Tryz.func8, Tryz.ntmps8
  go_wp2
  refine wp_loop_rounds 11 ?_
  rw [rounds_succ]
  go_wp2
  go_quiet (fail)
  go_wp2
  rw [rounds_succ]
  go_wp2
  go_quiet (fail)
  go_wp2
  rw [rounds_succ]
  go_wp2
  go_quiet (fail)
  go_wp2
  rw [rounds_succ]
  go_wp2
  go_quiet (fail)
  go_wp2
  rw [rounds_succ]
  go_wp2
  go_quiet (fail)
  go_wp2
  rw [rounds_succ]
  go_wp2
  go_quiet (fail)
  go_wp2
  rw [rounds_succ]
  go_wp2
  go_quiet (fail)
  go_wp2
  rw [rounds_succ]
  go_wp2
  go_quiet (fail)
  go_wp2
  rw [rounds_succ]
  go_wp2
  go_quiet (fail)
  go_wp2
  rw [rounds_succ]
  go_wp2
  go_quiet (fail)
  go_wp2
  rw [rounds_succ]
  go_wp2
  go_ret
  exact ⟨rfl, below_drewN (Below.refl _ _) _⟩
end Go.Proofs.YtkacahdogfchfaaGreatDoor
