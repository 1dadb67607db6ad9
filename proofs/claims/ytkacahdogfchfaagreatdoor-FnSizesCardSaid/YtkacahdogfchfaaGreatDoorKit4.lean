/-
  What holds all through Prio3.Params: the vote's two blocks, the table of math/bits, the block of the result. Conditions: none beyond each lemma's own premises.
-/
import Derived.Test.YtkacahdogfchfaaGreatDoorV
import Derived.Deep.RegionHeld3
namespace Go.Proofs.YtkacahdogfchfaaGreatDoor
open Go.RowKit
/-- What cell i of block B holds (undef where there is none): a word that the walk's simp does not open. -/
def zof (w : World) (B i : Nat) : Value := (w.cell? ⟨B, i, none⟩).getD undef
structure PCore (w0 : World) (B p fg : Nat) (T bt : TypeId) (cs fs : Array Value) (w : World) : Prop where
  below : Below w0.heap.size w0 w
  hb : w0.heap.size ≤ B
  blk : Blk w p T cs
  flp : Blk w fg bt fs
  tab : Tab w
  out : ∃ row : Array Value, Blk w B 34 row ∧ row.size = 10
  np : p ≠ B
  nf : fg ≠ B
  nt : 18 ≠ B
section
variable {w0 w w' : World} {B p fg : Nat} {T bt : TypeId} {cs fs : Array Value}
theorem PCore.drew (h : PCore w0 B p fg T bt cs fs w) : PCore w0 B p fg T bt cs fs w.drew := ⟨h.below.drew, h.hb, h.blk.drew, h.flp.drew, h.tab, h.out.elim fun r x => ⟨r, x.1.drew, x.2⟩, h.np, h.nf, h.nt⟩
theorem PCore.more (hb : Below w.heap.size w w') (h : PCore w0 B p fg T bt cs fs w) : PCore w0 B p fg T bt cs fs w' :=
  ⟨h.below.trans (hb.mono h.below.size), h.hb, h.blk.below hb h.blk.lt, h.flp.below hb h.flp.lt, h.tab.below hb, h.out.elim fun r x => ⟨r, x.1.below hb x.1.lt, x.2⟩, h.np, h.nf, h.nt⟩
theorem PCore.put (i : Nat) (v : Value) (h : PCore w0 B p fg T bt cs fs w) : PCore w0 B p fg T bt cs fs (w.setCell ⟨B, i, none⟩ v) := by
  refine ⟨h.below.setCell (p := ⟨B, i, none⟩) h.hb v, h.hb, h.blk.far (p := ⟨B, i, none⟩) h.np v, h.flp.far (p := ⟨B, i, none⟩) h.nf v, ?_, h.out.elim fun r x => ⟨_, x.1.set_ i v, by simpa using x.2⟩, h.np, h.nf, h.nt⟩
  intro j hj
  obtain ⟨x, hx, h2⟩ := h.tab j hj
  exact ⟨x, (World.cell?_setCell_far w ⟨B, i, none⟩ ⟨18, j, none⟩ v (fun e => h.nt e.symm)).trans hx, h2⟩
theorem PCore.put10 (h : PCore w0 B p fg T bt cs fs w) (v0 v1 v2 v3 v4 v5 v6 v7 v8 v9 : Value) : PCore w0 B p fg T bt cs fs ((((((((((w.setCell ⟨B, 0, none⟩ v0).setCell ⟨B, 1, none⟩ v1).setCell ⟨B, 2, none⟩ v2).setCell ⟨B, 3, none⟩ v3).setCell ⟨B, 4, none⟩ v4).setCell ⟨B, 5, none⟩ v5).setCell ⟨B, 6, none⟩ v6).setCell ⟨B, 7, none⟩ v7).setCell ⟨B, 8, none⟩ v8).setCell ⟨B, 9, none⟩ v9) :=
  ((((((((((h.put 0 v0).put 1 v1).put 2 v2).put 3 v3).put 4 v4).put 5 v5).put 6 v6).put 7 v7).put 8 v8).put 9 v9)
theorem PCore.zcell (h : PCore w0 B p fg T bt cs fs w) (i : Nat) (hi : i < 10) : w.cell? ⟨B, i, none⟩ = some (zof w B i) := by
  obtain ⟨r, h1, h2⟩ := h.out
  unfold zof
  rw [h1.cell, Array.getElem?_eq_getElem (by omega)]
  rfl
theorem PCore.zfrozen (h : PCore w0 B p fg T bt cs fs w) (i : Nat) : w.frozen? ⟨B, i, none⟩ = false := by
  obtain ⟨r, h1, h2⟩ := h.out
  exact h1.frozen i
end
theorem size_ten (l : List Value) (h : l.length = 10) : ∃ a0 a1 a2 a3 a4 a5 a6 a7 a8 a9, l = [a0, a1, a2, a3, a4, a5, a6, a7, a8, a9] := by
  have step : ∀ (n : Nat) (l : List Value), l.length = n + 1 → ∃ a r, l = a :: r ∧ r.length = n := by
    intro n l h
    cases l with
    | nil => simp at h
    | cons a r => exact ⟨a, r, rfl, by simpa using h⟩
  obtain ⟨a0, r0, rfl, h0⟩ := step 9 l h
  obtain ⟨a1, r1, rfl, h1⟩ := step 8 r0 h0
  obtain ⟨a2, r2, rfl, h2⟩ := step 7 r1 h1
  obtain ⟨a3, r3, rfl, h3⟩ := step 6 r2 h2
  obtain ⟨a4, r4, rfl, h4⟩ := step 5 r3 h3
  obtain ⟨a5, r5, rfl, h5⟩ := step 4 r4 h4
  obtain ⟨a6, r6, rfl, h6⟩ := step 3 r5 h5
  obtain ⟨a7, r7, rfl, h7⟩ := step 2 r6 h6
  obtain ⟨a8, r8, rfl, h8⟩ := step 1 r7 h7
  obtain ⟨a9, r9, rfl, h9⟩ := step 0 r8 h8
  obtain rfl := List.eq_nil_of_length_eq_zero h9
  exact ⟨_, _, _, _, _, _, _, _, _, _, rfl⟩
theorem put10_row (row : Array Value) (h : row.size = 10) (v0 v1 v2 v3 v4 v5 v6 v7 v8 v9 : Value) :
    (((((((((row.setIfInBounds 0 v0).setIfInBounds 1 v1).setIfInBounds 2 v2).setIfInBounds 3 v3).setIfInBounds 4 v4).setIfInBounds 5 v5).setIfInBounds 6 v6).setIfInBounds 7 v7).setIfInBounds 8 v8).setIfInBounds 9 v9 = #[v0, v1, v2, v3, v4, v5, v6, v7, v8, v9] := by
  obtain ⟨l⟩ := row
  obtain ⟨a0, a1, a2, a3, a4, a5, a6, a7, a8, a9, rfl⟩ := size_ten l (by simpa using h)
  simp only [List.setIfInBounds_toArray, List.set_cons_zero, List.set_cons_succ]
theorem Tab.lt {w : World} (h : Tab w) : 18 < w.heap.size := by
  obtain ⟨x, hx, _⟩ := h 0 (by omega)
  rcases Nat.lt_or_ge 18 w.heap.size with h | h
  · exact h
  · simp [World.cell?, Array.getElem?_eq_none h] at hx
/-- The limbs that a walk of Params' great statement reads, and the core behind them. -/
def Limbs (w0 : World) (B p fg : Nat) (T bt : TypeId) (cs fs : Array Value) (pr : Value) (FT : TypeId) (rand s : Int) (w : World) : Prop :=
  w.cell? ⟨p, 0, none⟩ = some (.pointer (some ⟨fg, 0, none⟩)) ∧ w.cell? ⟨p, 203, none⟩ = some (.int .u64 rand) ∧ w.cell? ⟨p, 204, none⟩ = some (.int .u8 s) ∧
  (∀ f, (method (f + 1) FT (.pointer (some ⟨fg, 0, none⟩)) "JointRandLength").run Tryz.prog w = .ok (156, pr) w) ∧
  (∀ f, (method (f + 1) FT (.pointer (some ⟨fg, 0, none⟩)) "MeasurementLength").run Tryz.prog w = .ok (157, pr) w) ∧
  (∀ f, (method (f + 1) FT (.pointer (some ⟨fg, 0, none⟩)) "OutputLength").run Tryz.prog w = .ok (158, pr) w) ∧
  (∀ f, (method (f + 1) FT (.pointer (some ⟨fg, 0, none⟩)) "EvalOutputLength").run Tryz.prog w = .ok (155, pr) w) ∧
  (∀ f, (method (f + 1) FT (.pointer (some ⟨fg, 0, none⟩)) "QueryRandLength").run Tryz.prog w = .ok (161, pr) w) ∧
  (∀ i, w.frozen? ⟨B, i, none⟩ = false) ∧ w.cell? ⟨B, 0, none⟩ = some (zof w B 0) ∧ w.cell? ⟨B, 1, none⟩ = some (zof w B 1) ∧ w.cell? ⟨B, 2, none⟩ = some (zof w B 2) ∧ w.cell? ⟨B, 3, none⟩ = some (zof w B 3) ∧
  w.cell? ⟨B, 4, none⟩ = some (zof w B 4) ∧ w.cell? ⟨B, 5, none⟩ = some (zof w B 5) ∧ w.cell? ⟨B, 6, none⟩ = some (zof w B 6) ∧ w.cell? ⟨B, 7, none⟩ = some (zof w B 7) ∧ w.cell? ⟨B, 8, none⟩ = some (zof w B 8) ∧ w.cell? ⟨B, 9, none⟩ = some (zof w B 9) ∧
  Hid (PCore w0 B p fg T bt cs fs w)
theorem core_last {w0 w : World} {B p fg : Nat} {T bt : TypeId} {cs fs : Array Value} {a b c d e f g h a1 b1 c1 d1 e1 f1 g1 h1 i1 j1 k1 : Prop}
    (H : a ∧ b ∧ c ∧ d ∧ e ∧ f ∧ g ∧ h ∧ a1 ∧ b1 ∧ c1 ∧ d1 ∧ e1 ∧ f1 ∧ g1 ∧ h1 ∧ i1 ∧ j1 ∧ k1 ∧ Hid (PCore w0 B p fg T bt cs fs w)) : PCore w0 B p fg T bt cs fs w := H.2.2.2.2.2.2.2.2.2.2.2.2.2.2.2.2.2.2.2
end Go.Proofs.YtkacahdogfchfaaGreatDoor
