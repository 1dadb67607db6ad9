/-
  The closed facts of the row of laws.FnSizes joined, and those that the card asks. Conditions: none.
-/
import Derived.Test.YtkacahdogfchfaaGreatDoorFa
import Derived.Test.YtkacahdogfchfaaGreatDoorCards
import Derived.JoinedCond
import Derived.SevenTiedAt
namespace Go.Proofs.YtkacahdogfchfaaGreatDoor.fnSizes
set_option maxRecDepth 100000
theorem and_mk {a b : Bool} (h : a = true) (k : b = true) : (a && b) = true := by rw [h, k]; rfl
theorem closed : joinedFacts Tryz.prog 3 Tryz.f3 (OpenSpec.ofChange Rows.fnSizesSpec).bare Rows.fnSizesRow = true :=
  and_mk (and_mk (and_mk (and_mk (and_mk (and_mk (and_mk (and_mk (and_mk (and_mk (and_mk (and_mk (and_mk (and_mk (and_mk (and_mk (and_mk (and_mk (and_mk (and_mk (and_mk (and_mk (and_mk (and_mk (and_mk (and_mk (and_mk (and_mk (and_mk (and_mk (and_mk k1 k2) k3) k4) k5) k6) k7) k8) k9) k10) k11) k12) k13) k14) k15) k16) k17) k18) k19) k20) k21) k22) k23) k24) k25) k26) k27) k28) k29) k30) k31) k32
theorem by_text : Rows.fnSizesRow.wfByText (OpenSpec.ofChange Rows.fnSizesSpec) = true := by kernel_rfl
theorem main_is : Tryz.prog.mainIs = some (true, "7396098f9ed11fb58eebd135660a9fdc01cb598f9301220cde44ae07917981ec".toList) := by kernel_rfl
theorem goes_by : false = Rows.fnSizesRow.goesBy Tryz.prog := by kernel_rfl
theorem no_looks : false = Tryz.prog.looks [] := by kernel_rfl
theorem no_stand : Tryz.prog.wantsStandIn 25 = false := by kernel_rfl
end Go.Proofs.YtkacahdogfchfaaGreatDoor.fnSizes
