/-
  laws.FnSizes returns true at every input, and leaves it as it was: the row and its tied card. Conditions: the listed package-level variables read as the program's text lays them.
-/
import Derived.Test.YtkacahdogfchfaaGreatDoorCards
import Derived.Test.YtkacahdogfchfaaGreatDoorTie
import Derived.Test.YtkacahdogfchfaaGreatDoorTb
import Derived.WalkKit
import Derived.ProofKit
import Derived.OpenShut
import Derived.OpenVars
import Derived.Carry
import Derived.Deep.DeepHandedRow
import Derived.Deep.DeepWitnessRowRef
import Derived.LaidMore
import Derived.LaidOnce
namespace Go.Proofs.YtkacahdogfchfaaGreatDoor.fnSizes
open Go.ChangeShapes Go.WideShapes Go.ChangeAt Go.RowKit
theorem own : ownKnob Tryz.prog.godebug = none := by kernel_rfl
theorem laidOut : laidOutB Tryz.prog = true := by kernel_rfl
theorem rec25 : Tryz.prog.readableRec 25 = true := by kernel_rfl
theorem rowed25 : 25 < Tryz.prog.types.size := of_decide_eq_true (by kernel_rfl)
theorem rowed : varsRowed Tryz.prog Rows.fnSizesSpec.vars = true := by kernel_rfl
/-- As many data as names. -/
theorem vars_length {H : Type} {enc : TypeId × Value → H} {P : Program} {W : World} {sp : Nat → Bool} : ∀ {ns : List String} {gs : List (DataW H)} {ps : List MemPlace}, DataW.TrodVars enc P W sp ns gs ps → gs.length = ns.length
  | [], [], _, _ => rfl
  | [], _ :: _, _, h => h.elim
  | _ :: _, [], _, h => h.elim
  | _ :: _, _ :: _, _, h => by
    obtain ⟨_, _, _, _, _, _, _, _, _, _, hs, _⟩ := h
    simp [vars_length hs]
theorem size17 {α : Type} (l : List α) (h : l.length = 17) : ∃ a1 a2 a3 a4 a5 a6 a7 a8 a9 a10 a11 a12 a13 a14 a15 a16 a17, l = [a1, a2, a3, a4, a5, a6, a7, a8, a9, a10, a11, a12, a13, a14, a15, a16, a17] := by
  match l, h with
  | [a1, a2, a3, a4, a5, a6, a7, a8, a9, a10, a11, a12, a13, a14, a15, a16, a17], _ => exact ⟨_, _, _, _, _, _, _, _, _, _, _, _, _, _, _, _, _, rfl⟩
set_option maxRecDepth 100000 in
/-- What the walk gives, for every input and every world that holds what the row lists. -/
theorem contract (H : Type) (enc : TypeId × Value → H) (W : World) (base : Nat) (args : Array Value) (ds gs : List (DataW H)) (before : List MemPlace)
    (hval : ∀ (j : Nat) t v, Tryz.f3.params[j]? = some t → args[j]? = some v → Value.okWide Tryz.prog W .any base t v)
    (hW : DataW.Whole enc Tryz.prog Tryz.f3.params.toList Rows.fnSizesSpec.vars false W args.toList ds gs before) (hL : laidMetH Tryz.prog Rows.fnSizesRow.laid W) (hS : W.ShapedOpen Tryz.prog) :
    Calls Tryz.prog 3 args W fun e W' => ∃ v, e = .returned v ∧ Rows.fnSizesSpec.post enc Tryz.prog Tryz.f3 false true false false W args v W' := by
  have hW' := hW
  have hlt := hW.lt
  obtain ⟨p, q, hA0, hV, rfl, _, _⟩ := hW
  have hA : DataW.TrodAll enc Tryz.prog W 0 (fun _ => true) true Tryz.f3.params.toList args.toList ds p := hA0
  rw [Tryz.params3] at hA hval
  obtain ⟨v0, d0, rfl, rfl, h0⟩ := trodAll_one hA
  obtain ⟨k, s, l, b, c, m, A, n, cp, rfl, hm0, hb⟩ := open25 (hval 0 25 v0 rfl rfl) h0
  have hlen : gs.length = 17 := (vars_length hV).trans (by kernel_rfl)
  obtain ⟨g1, g2, g3, g4, g5, g6, g7, g8, g9, g10, g11, g12, g13, g14, g15, g16, g17, rfl⟩ := size17 gs hlen
  refine (law3 k s l b c m A n cp W hm0 (errs hL) (tab_of_shaped hS) hb).mono fun e W' ⟨he, hB⟩ => ?_
  subst he
  have harg := Below.trod laidOut rec25 rowed25 h0 hB (fun x hx => hlt x (List.mem_append_left _ hx))
  have hvars := hB.trodVars laidOut rowed hV
  exact ⟨_, rfl, _, _, _, [], p, q, hW', trodAll_mk1 (shut_bool Tryz.underlying4 _), trodAll_mk1 harg, hvars, hB.frame _, fun h => by cases h⟩
end Go.Proofs.YtkacahdogfchfaaGreatDoor.fnSizes
