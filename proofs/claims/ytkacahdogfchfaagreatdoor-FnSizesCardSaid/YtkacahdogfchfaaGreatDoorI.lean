/-
  The getters of prio3.Params: each reads one cell of the block. Conditions: that cell is known.
-/
import Derived.Test.YtkacahdogfchfaaGreatDoorKit3
import Derived.Test.YtkacahdogfchfaaGreatDoorC
namespace Go.Proofs.YtkacahdogfchfaaGreatDoor
open Go.RowKit
theorem get12 (g : Nat) (x : Int) (w : World) (h : w.cell? ⟨g, 1, none⟩ = some (.int .u64 x)) : Calls Tryz.prog 12 #[.pointer (some ⟨g, 0, none⟩)] w fun e w' => e = .returned (.int .u64 x) ∧ w = w' := by
  go_enter Tryz.func12, Tryz.ntmps12
  go_wp2
  go_ret
  exact ⟨rfl, rfl⟩
theorem get13 (g : Nat) (x : Int) (w : World) (h : w.cell? ⟨g, 0, none⟩ = some (.int .u64 x)) : Calls Tryz.prog 13 #[.pointer (some ⟨g, 0, none⟩)] w fun e w' => e = .returned (.int .u64 x) ∧ w = w' := by
  go_enter Tryz.func13, Tryz.ntmps13
  go_wp2
  go_ret
  exact ⟨rfl, rfl⟩
theorem get14 (g : Nat) (x : Int) (w : World) (h : w.cell? ⟨g, 2, none⟩ = some (.int .u64 x)) : Calls Tryz.prog 14 #[.pointer (some ⟨g, 0, none⟩)] w fun e w' => e = .returned (.int .u64 x) ∧ w = w' := by
  go_enter Tryz.func14, Tryz.ntmps14
  go_wp2
  go_ret
  exact ⟨rfl, rfl⟩
theorem get15 (g : Nat) (x : Int) (w : World) (h : w.cell? ⟨g, 3, none⟩ = some (.int .u64 x)) : Calls Tryz.prog 15 #[.pointer (some ⟨g, 0, none⟩)] w fun e w' => e = .returned (.int .u64 x) ∧ w = w' := by
  go_enter Tryz.func15, Tryz.ntmps15
  go_wp2
  go_ret
  exact ⟨rfl, rfl⟩
theorem get16 (g : Nat) (x : Int) (w : World) (h : w.cell? ⟨g, 5, none⟩ = some (.int .u64 x)) : Calls Tryz.prog 16 #[.pointer (some ⟨g, 0, none⟩)] w fun e w' => e = .returned (.int .u64 x) ∧ w = w' := by
  go_enter Tryz.func16, Tryz.ntmps16
  go_wp2
  go_ret
  exact ⟨rfl, rfl⟩
theorem get17 (g : Nat) (x : Int) (w : World) (h : w.cell? ⟨g, 4, none⟩ = some (.int .u64 x)) : Calls Tryz.prog 17 #[.pointer (some ⟨g, 0, none⟩)] w fun e w' => e = .returned (.int .u64 x) ∧ w = w' := by
  go_enter Tryz.func17, Tryz.ntmps17
  go_wp2
  go_ret
  exact ⟨rfl, rfl⟩
theorem get18 (g : Nat) (x : Int) (w : World) (h : w.cell? ⟨g, 6, none⟩ = some (.int .u64 x)) : Calls Tryz.prog 18 #[.pointer (some ⟨g, 0, none⟩)] w fun e w' => e = .returned (.int .u64 x) ∧ w = w' := by
  go_enter Tryz.func18, Tryz.ntmps18
  go_wp2
  go_ret
  exact ⟨rfl, rfl⟩
theorem get19 (g : Nat) (x : Int) (w : World) (h : w.cell? ⟨g, 7, none⟩ = some (.int .u64 x)) : Calls Tryz.prog 19 #[.pointer (some ⟨g, 0, none⟩)] w fun e w' => e = .returned (.int .u64 x) ∧ w = w' := by
  go_enter Tryz.func19, Tryz.ntmps19
  go_wp2
  go_ret
  exact ⟨rfl, rfl⟩
theorem get20 (g : Nat) (x : Int) (w : World) (h : w.cell? ⟨g, 8, none⟩ = some (.int .u64 x)) : Calls Tryz.prog 20 #[.pointer (some ⟨g, 0, none⟩)] w fun e w' => e = .returned (.int .u64 x) ∧ w = w' := by
  go_enter Tryz.func20, Tryz.ntmps20
  go_wp2
  go_ret
  exact ⟨rfl, rfl⟩
theorem get21 (g : Nat) (x : Int) (w : World) (h : w.cell? ⟨g, 9, none⟩ = some (.int .u8 x)) : Calls Tryz.prog 21 #[.pointer (some ⟨g, 0, none⟩)] w fun e w' => e = .returned (.int .u8 x) ∧ w = w' := by
  go_enter Tryz.func21, Tryz.ntmps21
  go_wp2
  go_ret
  exact ⟨rfl, rfl⟩
end Go.Proofs.YtkacahdogfchfaaGreatDoor
