/-
  The row's witness: the heap that the door's own run leaves, and one input, meet all that the row asks. Conditions: none.
-/
import Derived.Test.YtkacahdogfchfaaGreatDoorRa
import Derived.LaidMore
import Derived.LaidOnce
namespace Go.Proofs.YtkacahdogfchfaaGreatDoor.fnSizes
open Go.ChangeShapes Go.WideShapes Go.ChangeAt Go.RowKit
/-- The witness's input: a kind of number 0. -/
def wit : Array Value := #[.agg #[.int .i64 0, .int .i64 0, .int .i64 0, .int .i64 0, .int .i64 0, .int .u64 0, .slice none 0 0]]
theorem door_met (os : Os) : laidMetH Tryz.prog Rows.fnSizesRow.laid ((World.doorLaid Tryz.prog 383 os).forCall (fun _ _ => 0) ⟨#[], wit, []⟩).memory :=
  laidMetH_of_parts3 (fuel := 8) (laidMet_of_run' 8 (by kernel_rfl) (by kernel_rfl)) (by kernel_rfl) (by kernel_rfl)
theorem vars_door (os : Os) : ((World.doorLaid Tryz.prog 383 os).forCall (fun _ _ => 0) ⟨#[], wit, []⟩).variablesRefB Tryz.prog = true := by kernel_rfl
theorem rest_door (os : Os) : (((World.doorLaid Tryz.prog 383 os).forCall (fun _ _ => 0) ⟨#[], wit, []⟩).heap.toList.drop Tryz.prog.globals.size).take ((begin Tryz.prog (fun _ _ => 0) default).world.heap.size - Tryz.prog.globals.size) = (begin Tryz.prog (fun _ _ => 0) default).world.heap.toList.drop Tryz.prog.globals.size := by kernel_rfl
theorem ok_door (os : Os) : Input.okWideB Tryz.prog ((World.doorLaid Tryz.prog 383 os).forCall (fun _ _ => 0) ⟨#[], wit, []⟩) 3 ⟨#[], wit, []⟩ = true := by kernel_rfl
theorem reads (os : Os) {H : Type} (enc : TypeId × Value → H) : ∃ x, DataW.whole enc Tryz.prog ((World.doorLaid Tryz.prog 383 os).forCall (fun _ _ => 0) ⟨#[], wit, []⟩).memory Tryz.f3.params.toList Rows.fnSizesSpec.vars false wit.toList 8 = some x :=
  Option.isSome_iff_exists.1 (by kernel_rfl)
theorem sized_door (os : Os) {H : Type} (enc : TypeId × Value → H) : (OpenSpec.ofChange Rows.fnSizesSpec).bare.sizedB enc Tryz.prog Tryz.f3 false ((World.doorLaid Tryz.prog 383 os).forCall (fun _ _ => 0) ⟨#[], wit, []⟩).memory wit 8 = true := by kernel_rfl
theorem no_init : Tryz.checked.prog.inits.idxOf? 3 = none := by kernel_rfl
end Go.Proofs.YtkacahdogfchfaaGreatDoor.fnSizes
