/-
  laws.FnSizes returns true at every input, and leaves it as it was: the row and its tied card. Conditions: the listed package-level variables read as the program's text lays them.
-/
import Derived.Test.YtkacahdogfchfaaGreatDoorCards
import Derived.Test.YtkacahdogfchfaaGreatDoorTie
import Derived.Test.YtkacahdogfchfaaGreatDoorRw
import Derived.Test.YtkacahdogfchfaaGreatDoorFb
import Derived.Deep.DeepHandedRow
import Derived.Deep.DeepWitnessRowRef
namespace Go.Proofs.YtkacahdogfchfaaGreatDoor.fnSizes
open Go.ChangeShapes Go.WideShapes Go.ChangeAt Go.RowKit
set_option maxRecDepth 100000 in
theorem lifted (os : Os) (started : os.Started) (H : Type) (enc : TypeId × Value → H) (F : Stop.Interp) :
    ReturnsInHanded {} Tryz.checked os 3 .any ((OpenSpec.ofChange Rows.fnSizesSpec).preRow enc Tryz.prog Tryz.f3 Rows.fnSizesRow.domain false Rows.fnSizesRow.laid) (((OpenSpec.ofChange Rows.fnSizesSpec).at F).post enc Tryz.prog Tryz.f3 false true false false) := by
  obtain ⟨x, hx⟩ := reads os enc
  refine returnsInHanded_of_row (C := Tryz.checked) (s := OpenSpec.ofChange Rows.fnSizesSpec) own started no_init Tryz.func3
    (witness_row_atRef (enc := enc) (C := Tryz.checked) false (World.doorLaid Tryz.prog 383 os) wit rfl (vars_door os) (rest_door os) (ok_door os)
      (OpenSpec.preRow_of_cond 8 hx rfl (fun k hk => by cases hk) (sized_door os enc) (door_met os))) ?_
  intro W base args ds gs before hval hW _ _ _ hL hS _
  exact contract H enc W base args ds gs before hval hW hL hS
set_option maxRecDepth 100000 in
theorem said : Rows.FnSizesSaid :=
  OpenClaim.holds_of_cond 3 Tryz.f3 rfl rfl rfl rfl rfl rfl rfl ⟨rfl, rfl, rfl, rfl, rfl⟩ rfl rfl rfl rfl rfl named3 Tryz.func3 closed instance3 wrapper3
    (fun os started H enc _ F => by rw [OpenClaim.pre_eq_preRow]; exact lifted os started H enc F)
set_option maxRecDepth 100000 in
theorem plain (f : FuncId) (fn : Func) (hf : Tryz.pinned.checked.prog.funcNamed "loop.example/pub-voteroads/laws.FnSizes" = some f) (hfn : Tryz.pinned.checked.prog.funcs[f]? = some fn) :
    false = Tryz.pinned.checked.prog.looks [] ∧ ∀ (j : Nat) t, fn.params[j]? = some t → Tryz.pinned.checked.prog.wantsStandIn t = false := by
  obtain rfl : f = 3 := Option.some.inj (named3.symm.trans hf) |>.symm
  obtain rfl : fn = Tryz.f3 := (Option.some.inj (Tryz.func3.symm.trans hfn)).symm
  refine ⟨no_looks, fun j t ht => ?_⟩
  rw [Tryz.params3] at ht
  obtain rfl : t = 25 := by simpa using Array.mem_of_getElem? ht
  exact no_stand
set_option maxRecDepth 100000 in
/-- The tied card. -/
theorem card : Rows.FnSizesCardSaid :=
  Claim7.holds_tied_plain_at .later [] _ _ _ _ said (fun _ h => by cases h) by_text (fun _ h => by cases h) fnSizes_row_tie rfl ⟨rfl, rfl⟩ main_is rfl plain goes_by
end Go.Proofs.YtkacahdogfchfaaGreatDoor.fnSizes
