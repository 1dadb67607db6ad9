/-
  The three tests of a vote's input: zzFits1, spec.IsSmall, spec.IsKind. Conditions: the input is a small one, for the last.
-/
import Derived.Test.YtkacahdogfchfaaGreatDoorProg
import Derived.Test.YtkacahdogfchfaaGreatDoorKit3
import Derived.BigQuiet
import Derived.Laws.EntriesVeiled
import Derived.Deep.QuietTactic
import Derived.Deep.RegionHeld3
import Derived.WalkKit
import Derived.WalkLawsBesides
import Derived.WalkSpells
import Derived.Outline
import Derived.Handy
namespace Go.Proofs.YtkacahdogfchfaaGreatDoor
open Go.RowKit
theorem fits4 (k s l b c m : Int) (A : Option Addr) (n cp : Nat) (w : World) : Calls Tryz.prog 4 #[.agg #[.int .i64 k, .int .i64 s, .int .i64 l, .int .i64 b, .int .i64 c, .int .u64 m, .slice A n cp]] w
    fun e w' => (∃ v : Bool, e = .returned (.bool v)) ∧ Below w.heap.size w w' := by
  go_enter Tryz.func4, Tryz.ntmps4
  go_wp2
  all_goals go_ret
  all_goals exact ⟨⟨_, rfl⟩, (Below.refl _ _).alloc (Nat.le_refl _) _⟩
/-- What spec.IsSmall asks. -/
def Small (s l b c : Int) (n : Nat) : Prop := 0 ≤ s ∧ s ≤ 255 ∧ 0 ≤ l ∧ l ≤ 16 ∧ 0 ≤ b ∧ b ≤ 80 ∧ 0 ≤ c ∧ c ≤ 16 ∧ n ≤ 4096
set_option maxHeartbeats 1000000 in
theorem small5 (k s l b c m : Int) (A : Option Addr) (n cp : Nat) (w : World) : Calls Tryz.prog 5 #[.agg #[.int .i64 k, .int .i64 s, .int .i64 l, .int .i64 b, .int .i64 c, .int .u64 m, .slice A n cp]] w
    fun e w' => (∃ v : Bool, e = .returned (.bool v) ∧ (v = true → Small s l b c n)) ∧ Below w.heap.size w w' := by
  go_enter Tryz.func5, Tryz.ntmps5
  go_wp2
  all_goals go_ret
  all_goals refine ⟨?_, (Below.refl _ _).alloc (Nat.le_refl _) _⟩
  all_goals first | exact .inl rfl | (refine .inr ⟨rfl, ?_⟩; unfold Small; omega) | exact ⟨_, rfl, fun h => by have h := of_decide_eq_true h; unfold Small; omega⟩
/-- What spec.IsKind asks of a small input. -/
def KindOk (k s l b c m : Int) : Prop := 2 ≤ s ∧ (k = 1 ∨ (k = 2 ∧ m < 9223372036854775808) ∨ (k = 3 ∧ 1 ≤ l ∧ 1 ≤ b ∧ b ≤ 64 ∧ 1 ≤ c) ∨ (k = 4 ∧ 1 ≤ l ∧ 1 ≤ c) ∨ (k = 5 ∧ 1 ≤ l ∧ 1 ≤ c ∧ m ≤ l))
set_option maxHeartbeats 2000000 in
theorem kind7 (k s l b c m : Int) (A : Option Addr) (n cp : Nat) (w : World) (hS : Small s l b c n) : Calls Tryz.prog 7 #[.agg #[.int .i64 k, .int .i64 s, .int .i64 l, .int .i64 b, .int .i64 c, .int .u64 m, .slice A n cp]] w
    fun e w' => (∃ v : Bool, e = .returned (.bool v) ∧ (v = true ↔ KindOk k s l b c m)) ∧ Below w.heap.size w w' := by
  obtain ⟨s0, s1, l0, l1, b0, b1, c0, c1, hn⟩ := hS
  go_enter Tryz.func7, Tryz.ntmps7
  go_wp2
  all_goals go_ret
  all_goals refine ⟨?_, (Below.refl _ _).alloc (Nat.le_refl _) _⟩
  all_goals try simp only [beq_iff_eq, beq_eq_false_iff_ne] at *
  all_goals first
    | (refine .inl ⟨rfl, ?_⟩; unfold KindOk; omega)
    | (refine .inr ⟨rfl, ?_⟩; unfold KindOk; omega)
    | (refine ⟨false, rfl, fun h => ?_, fun h => ?_⟩ <;> first | (cases h; done) | (unfold KindOk at h; omega))
    | (refine ⟨true, rfl, fun _ => ?_, fun _ => rfl⟩; unfold KindOk; omega)
    | (refine ⟨_, rfl, ?_⟩; unfold KindOk; simp only [decide_eq_true_eq]; omega)
end Go.Proofs.YtkacahdogfchfaaGreatDoor
