/-
  The closed facts of the row of laws.FnSizes, one theorem each. Conditions: none.
-/
import Derived.Test.YtkacahdogfchfaaGreatDoorRows
import Derived.JoinedOf
namespace Go.Proofs.YtkacahdogfchfaaGreatDoor.fnSizes
theorem k1 : (Rows.fnSizesRow.wf (OpenSpec.ofChange (OpenSpec.ofChange Rows.fnSizesSpec).bare)) = true := by kernel_rfl
theorem k2 : (laidOutB Tryz.prog) = true := by kernel_rfl
theorem k3 : (mapsRowed Tryz.prog) = true := by kernel_rfl
theorem k4 : (Tryz.f3.params.all (Tryz.prog.readableRec ·)) = true := by kernel_rfl
theorem k5 : (namedTie Tryz.prog Rows.fnSizesRow.named (OpenSpec.ofChange Rows.fnSizesSpec).bare.vars) = true := by kernel_rfl
theorem k6 : ((Rows.fnSizesRow.stops == [])) = true := by kernel_rfl
theorem k7 : ((Tryz.prog.stops == [])) = true := by kernel_rfl
theorem k8 : ((Rows.fnSizesRow.knobs == [])) = true := by kernel_rfl
theorem k9 : ((Tryz.prog.stopKnobs == [])) = true := by kernel_rfl
theorem k10 : ((Rows.fnSizesRow.inPlace == Tryz.prog.inPlace 3)) = true := by kernel_rfl
theorem k11 : ((Rows.fnSizesRow.unfollowed == Tryz.prog.unfollowed 3)) = true := by kernel_rfl
theorem k12 : ((Rows.fnSizesRow.recurses == Tryz.prog.recurses 3)) = true := by kernel_rfl
theorem k13 : ((Rows.fnSizesRow.named == Tryz.prog.varsNamed 3)) = true := by kernel_rfl
theorem k14 : ((Rows.fnSizesRow.maps == (Tryz.f3.params.toList ++ (OpenSpec.ofChange Rows.fnSizesSpec).bare.plain.varTypes Tryz.prog).any (Tryz.prog.mapsRec ·))) = true := by kernel_rfl
theorem k15 : ((Rows.fnSizesRow.ifaces == (Tryz.f3.params.toList ++ (OpenSpec.ofChange Rows.fnSizesSpec).bare.plain.varTypes Tryz.prog).any (Tryz.prog.ifacesRec ·))) = true := by kernel_rfl
theorem k16 : ((Rows.fnSizesRow.mapsOut == Tryz.prog.mapsAmong Tryz.f3.resultTypes.toList)) = true := by kernel_rfl
theorem k17 : ((Rows.fnSizesRow.loops == (Tryz.f3.params.toList ++ (OpenSpec.ofChange Rows.fnSizesSpec).bare.plain.varTypes Tryz.prog).any (Tryz.prog.loopsFrom ·))) = true := by kernel_rfl
theorem k18 : ((Rows.fnSizesRow.wideKeys == (Tryz.f3.params.toList ++ (OpenSpec.ofChange Rows.fnSizesSpec).bare.plain.varTypes Tryz.prog ++ Tryz.f3.resultTypes.toList).any (Tryz.prog.wideKeysFrom ·))) = true := by kernel_rfl
theorem k19 : ((OpenSpec.ofChange Rows.fnSizesSpec).bare.vars.all (Tryz.prog.varReadable ·)) = true := by kernel_rfl
theorem k20 : (Tryz.f3.resultTypes.all (fun t => Tryz.prog.readableRec t && decide (t < Tryz.prog.types.size))) = true := by kernel_rfl
theorem k21 : ((Rows.fnSizesRow.ifacesOut == Tryz.f3.resultTypes.toList.any (Tryz.prog.ifacesRec ·))) = true := by kernel_rfl
theorem k22 : ((Rows.fnSizesRow.loopsOut == Tryz.f3.resultTypes.toList.any (Tryz.prog.loopsFrom ·))) = true := by kernel_rfl
theorem k23 : ((Rows.fnSizesRow.plainKeys == Tryz.prog.plainKeys)) = true := by kernel_rfl
theorem k24 : (Rows.fnSizesRow.shortTexts.isNone) = true := by kernel_rfl
theorem k25 : (Tryz.prog.stopsHeard) = true := by kernel_rfl
theorem k26 : (Tryz.prog.mayEnter) = true := by kernel_rfl
theorem k27 : ((Rows.fnSizesRow.lifted == Tryz.prog.liftsFinal)) = true := by kernel_rfl
theorem k28 : ((Tryz.prog.make == some Rows.fnSizesRow.make)) = true := by kernel_rfl
theorem k29 : ((Rows.fnSizesRow.kinds == (if Rows.fnSizesRow.domain.isEmpty then [] else Tryz.f3.params.toList.map fun t => match Tryz.prog.underlying t with | some (.int k) => some k | _ => none))) = true := by kernel_rfl
theorem k30 : ((Rows.fnSizesRow.pinned == Rows.fnSizesRow.pinnedBy)) = true := by kernel_rfl
theorem k31 : ((Rows.fnSizesRow.veiled == (Tryz.f3.params.toList ++ (OpenSpec.ofChange Rows.fnSizesSpec).bare.plain.varTypes Tryz.prog ++ Tryz.f3.resultTypes.toList).any (Tryz.prog.veiledRec ·))) = true := by kernel_rfl
theorem k32 : (Rows.fnSizesRow.veiledFits Tryz.prog Tryz.f3.params.toList (Tryz.f3.params.toList ++ (OpenSpec.ofChange Rows.fnSizesSpec).bare.plain.varTypes Tryz.prog ++ Tryz.f3.resultTypes.toList)) = true := by kernel_rfl
theorem named3 : Tryz.prog.funcNamed "loop.example/pub-voteroads/laws.FnSizes" = some 3 := by kernel_rfl
theorem instance3 : Tryz.f3.isInstance Tryz.prog Rows.fnSizesRow.origin Rows.fnSizesRow.targs := of_decide_eq_true (by kernel_rfl)
theorem wrapper3 : Tryz.f3.isWrapper Tryz.prog Rows.fnSizesRow.wrapper Rows.fnSizesRow.mainSum := by unfold Func.isWrapper; first | (rw [if_pos (by decide +kernel)]; kernel_rfl) | (rw [if_neg (by decide +kernel)]; exact ⟨rfl, rfl⟩)
end Go.Proofs.YtkacahdogfchfaaGreatDoor.fnSizes
