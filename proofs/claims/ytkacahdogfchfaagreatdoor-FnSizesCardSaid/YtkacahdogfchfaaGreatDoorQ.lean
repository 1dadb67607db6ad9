/-
  The getters of flp.Params (a struct of four numbers, handed by value), and how that struct is read off a block. Conditions: none beyond each lemma's own premises.
-/
import Derived.Test.YtkacahdogfchfaaGreatDoorProg
import Derived.Test.YtkacahdogfchfaaGreatDoorKit3
import Derived.BigQuiet
import Derived.Laws.EntriesVeiled
import Derived.Deep.QuietTactic
import Derived.WalkKit
import Derived.WalkLawsBesides
import Derived.WalkSpells
import Derived.Outline
import Derived.Handy
namespace Go.Proofs.YtkacahdogfchfaaGreatDoor
open Go.RowKit
theorem size148 : (Tryz.prog.info? 148).map (·.size) = some 4 := by kernel_rfl
theorem run_get_params {w : World} {g : Nat} {t : TypeId} {cs : Array Value} (hB : Blk w g t cs) (o : Nat) (p0 p1 p2 p3 : Value) (h0 : cs[o]? = some p0) (h1 : cs[o + 1]? = some p1) (h2 : cs[o + 2]? = some p2) (h3 : cs[o + 3]? = some p3) :
    (loadVar 148 ⟨g, o, none⟩).run Tryz.prog w = .ok (.agg #[p0, p1, p2, p3]) w := by
  refine run_loadVar_mid (P := Tryz.prog) w g o 148 [p0, p1, p2, p3] _ ?_ Tryz.underlying148 rfl (by rw [size148]; rfl)
  intro j v hv
  rw [hB.cell]
  match j with
  | 0 => simp at hv; rw [← hv]; exact h0
  | 1 => simp at hv; rw [← hv]; exact h1
  | 2 => simp at hv; rw [← hv]; exact h2
  | 3 => simp at hv; rw [← hv]; exact h3
  | j + 4 => simp at hv
theorem param155 (p0 p1 p2 p3 : Value) (x : Int) (hx : p2 = .int .u64 x) (w : World) : Calls Tryz.prog 155 #[.agg #[p0, p1, p2, p3]] w fun e w' => e = .returned (.int .u64 x) ∧ Below w.heap.size w w' := by
  subst hx
  go_enter Tryz.func155, Tryz.ntmps155
  go_wp2
  go_ret
  exact ⟨rfl, (Below.refl _ _).alloc (Nat.le_refl _) _⟩
theorem param156 (p0 p1 p2 p3 : Value) (x : Int) (hx : p1 = .int .u64 x) (w : World) : Calls Tryz.prog 156 #[.agg #[p0, p1, p2, p3]] w fun e w' => e = .returned (.int .u64 x) ∧ Below w.heap.size w w' := by
  subst hx
  go_enter Tryz.func156, Tryz.ntmps156
  go_wp2
  go_ret
  exact ⟨rfl, (Below.refl _ _).alloc (Nat.le_refl _) _⟩
theorem param157 (p0 p1 p2 p3 : Value) (x : Int) (hx : p0 = .int .u64 x) (w : World) : Calls Tryz.prog 157 #[.agg #[p0, p1, p2, p3]] w fun e w' => e = .returned (.int .u64 x) ∧ Below w.heap.size w w' := by
  subst hx
  go_enter Tryz.func157, Tryz.ntmps157
  go_wp2
  go_ret
  exact ⟨rfl, (Below.refl _ _).alloc (Nat.le_refl _) _⟩
theorem param158 (p0 p1 p2 p3 : Value) (x : Int) (hx : p3 = .int .u64 x) (w : World) : Calls Tryz.prog 158 #[.agg #[p0, p1, p2, p3]] w fun e w' => e = .returned (.int .u64 x) ∧ Below w.heap.size w w' := by
  subst hx
  go_enter Tryz.func158, Tryz.ntmps158
  go_wp2
  go_ret
  exact ⟨rfl, (Below.refl _ _).alloc (Nat.le_refl _) _⟩
theorem param161 (p0 p1 p2 p3 : Value) (x : Int) (hx : p2 = .int .u64 x) (h0 : 0 ≤ x) (h1 : x ≤ 4096) (w : World) : Calls Tryz.prog 161 #[.agg #[p0, p1, p2, p3]] w fun e w' => e = .returned (.int .u64 (1 + x)) ∧ Below w.heap.size w w' := by
  subst hx
  go_enter Tryz.func161, Tryz.ntmps161
  go_wp2
  go_ret
  exact ⟨rfl, (Below.refl _ _).alloc (Nat.le_refl _) _⟩
end Go.Proofs.YtkacahdogfchfaaGreatDoor
