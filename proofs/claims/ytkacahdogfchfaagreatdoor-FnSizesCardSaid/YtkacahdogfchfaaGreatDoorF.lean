/-
  The field's numbers, as far as FnSizes reaches them: Mul64, Add64, Sub64, the two multiplications of the fields, toMont, SetUint64. Nothing is said of the numbers' values: that the calls return, and which cells they write. Conditions: the cells that are read hold uint64s.
-/
import Derived.Test.YtkacahdogfchfaaGreatDoorProg
import Derived.Test.YtkacahdogfchfaaGreatDoorKit
import Derived.WalkKit
import Derived.WalkLawsBesides
import Derived.WalkSpells
import Derived.Outline
import Derived.Laws.Externs
namespace Go.Proofs.YtkacahdogfchfaaGreatDoor
open Go.RowKit
/-- A number that fits uint64. -/
def U (x : Int) : Prop := 0 ≤ x ∧ x ≤ 18446744073709551615
theorem U.wrap (x : Int) : U (IntKind.u64.wrap x) := by unfold U; rw [IntKind.wrap_u64]; omega
theorem mul95 (a b : Int) (w : World) (ha : U a) (hb : U b) : Calls Tryz.prog 95 #[.int .u64 a, .int .u64 b] w fun e w' => (∃ h l : Int, e = .returned (.tuple #[.int .u64 h, .int .u64 l]) ∧ U h ∧ U l) ∧ w = w' := by
  obtain ⟨ha, ha'⟩ := ha
  obtain ⟨hb, hb'⟩ := hb
  go_enter Tryz.func95, Tryz.ntmps95
  go_wp2
  go_ret2
  exact ⟨⟨_, _, rfl, U.wrap _, U.wrap _⟩, rfl⟩
theorem add94 (x y c : Int) (hx : U x) (hy : U y) (hc : 0 ≤ c ∧ c ≤ 1) : ∃ s k : Int, U s ∧ (0 ≤ k ∧ k ≤ 1) ∧ ∀ w : World, (callFunc 94 #[.int .u64 x, .int .u64 y, .int .u64 c]).run Tryz.prog w = .ok (.value (.tuple #[.int .u64 s, .int .u64 k])) w := by
  refine ⟨(x + y + c) % 18446744073709551616, (x + y + c) / 18446744073709551616, ⟨by omega, by omega⟩, ⟨?_, ?_⟩, fun w => ?_⟩
  · obtain ⟨h1, _⟩ := hx; obtain ⟨h2, _⟩ := hy; omega
  · obtain ⟨_, h1⟩ := hx; obtain ⟨_, h2⟩ := hy; omega
  · rw [run_callFunc_extern Tryz.func94 (by kernel_rfl) (by kernel_rfl) (by kernel_rfl) (e := add64Entry) (by kernel_rfl), run_add64 x y c hx.1 hy.1 hc.1 hc.2]
    rfl
/-- The model's entry for Sub64. -/
def sub64Entry : Array Value → Sem Value := fun args => do
  let (x, y, b) ← Extern.MathBitsCarry.three "Sub64" args
  pure (Extern.MathBitsCarry.pair ((x + Extern.MathBitsCarry.m64 - y - b) % Extern.MathBitsCarry.m64) (if x < y + b then 1 else 0))
theorem sub92 (x y c : Int) (hx : U x) (hy : U y) (hc : 0 ≤ c ∧ c ≤ 1) : ∃ s k : Int, U s ∧ (0 ≤ k ∧ k ≤ 1) ∧ ∀ w : World, (callFunc 92 #[.int .u64 x, .int .u64 y, .int .u64 c]).run Tryz.prog w = .ok (.value (.tuple #[.int .u64 s, .int .u64 k])) w := by
  obtain ⟨X, rfl⟩ := Int.eq_ofNat_of_zero_le hx.1
  obtain ⟨Y, rfl⟩ := Int.eq_ofNat_of_zero_le hy.1
  have key : ∀ (k : Nat), k ≤ 1 → ∀ w : World, (sub64Entry #[.int .u64 (X : Int), .int .u64 (Y : Int), .int .u64 (k : Int)]).run Tryz.prog w =
      .ok (.tuple #[.int .u64 (((X + 18446744073709551616 - Y - k) % 18446744073709551616 : Nat) : Int), .int .u64 ((if X < Y + k then 1 else 0 : Nat) : Int)]) w := by
    intro k hk w
    have : k = 0 ∨ k = 1 := by omega
    rcases this with rfl | rfl <;> rfl
  obtain ⟨k, rfl⟩ := Int.eq_ofNat_of_zero_le hc.1
  refine ⟨(((X + 18446744073709551616 - Y - k) % 18446744073709551616 : Nat) : Int), ((if X < Y + k then 1 else 0 : Nat) : Int), ⟨by omega, by omega⟩, ⟨by omega, by split <;> omega⟩, fun w => ?_⟩
  rw [run_callFunc_extern Tryz.func92 (by kernel_rfl) (by kernel_rfl) (by kernel_rfl) (e := sub64Entry) (by kernel_rfl), key k (by omega)]
  rfl
theorem mov93 (p : Addr) (b x y : Int) (v : Value) (w : World) (hc : w.cell? p = some v) (hf : w.frozen? p = false) : Calls Tryz.prog 93 #[.pointer (some p), .int .u64 b, .int .u64 x, .int .u64 y] w fun e w' => e = .returned (.tuple #[]) ∧ ∃ n : Int, w.setCell p (.int .u64 n) = w' := by
  go_enter Tryz.func93, Tryz.ntmps93
  go_wp2
  go_end0
  exact ⟨rfl, _, rfl⟩
theorem mul77 (p q r : Addr) (a b : Int) (v : Value) (w : World) (hp : w.cell? p = some v) (hf : w.frozen? p = false) (hq : w.cell? q = some (.int .u64 a)) (hr : w.cell? r = some (.int .u64 b)) (ha : U a) (hb : U b) :
    Calls Tryz.prog 77 #[.pointer (some p), .pointer (some q), .pointer (some r)] w fun e w' => e = .returned (.tuple #[]) ∧ ∃ w1 n, Below w.heap.size w w1 ∧ w1.setCell p (.int .u64 n) = w' := by
  have hpl := block_lt_of_cell hp
  go_enter Tryz.func77, Tryz.ntmps77
  go_wp2_with fail
  refine (mul95 _ _ _ ha hb).mono ?_
  rintro e w' ⟨⟨x3, x2, rfl, hx3, hx2⟩, rfl⟩
  go_wp2_with fail
  refine (mul95 _ _ _ hx2 (by unfold U; omega)).mono ?_
  rintro e w' ⟨⟨y4, x4, rfl, hy4, hx4⟩, rfl⟩
  go_wp2_with fail
  refine (mul95 _ _ _ hx4 (by unfold U; omega)).mono ?_
  rintro e w' ⟨⟨x7, x6, rfl, hx7, hx6⟩, rfl⟩
  obtain ⟨s9, x9, hs9, hx9, e9⟩ := add94 x2 x6 0 hx2 hx6 (by omega)
  obtain ⟨x10, x11, hx10, hx11, e10⟩ := add94 x3 x7 x9 hx3 hx7 hx9
  obtain ⟨x12, x13, hx12, hx13, e12⟩ := sub92 x10 18446744069414584321 0 hx10 (by unfold U; omega) (by omega)
  obtain ⟨s15, x15, hs15, hx15, e15⟩ := sub92 x11 0 x13 ⟨hx11.1, by omega⟩ (by unfold U; omega) hx13
  go_wp2_with fail
  refine (mov93 ⟨w.heap.size, 0, none⟩ _ _ _ (.int .u64 0) _ (by simp [go_sem]) (by simp [go_sem])).mono ?_
  rintro e w' ⟨rfl, n, rfl⟩
  have hB : Below w.heap.size w (w.alloc (.cells #[.int .u64 n] 22)) := (Below.refl _ _).alloc (Nat.le_refl _) _
  have hW : (w.alloc (.cells #[.int .u64 n] 22)).cell? ⟨w.heap.size, 0, none⟩ = some (.int .u64 n) := by simp [go_sem]
  go_wp2
  generalize w.alloc (.cells #[.int .u64 n] 22) = W at *
  have hpW : W.cell? p = some v := (hB.cell hpl).trans hp
  have hfW : W.frozen? p = false := (hB.frozen hpl).trans hf
  go_region
  all_goals (go_wp2; go_end0)
  exact ⟨rfl, _, _, hB.drew, rfl⟩

theorem sq78 (w : World) : Calls Tryz.prog 78 #[] w fun e w' => e = .returned (.pointer (some ⟨w.heap.size, 0, none⟩)) ∧ w.alloc (.cells #[.int .u64 18446744065119617025] 93) = w' := by
  go_enter Tryz.func78, Tryz.ntmps78
  go_wp2
  go_ret
  exact ⟨rfl, rfl⟩
/-- Of what was there at most block g has turned, and in it n cells from o on, which hold numbers. -/
def At1 (w w' : World) (g o : Nat) : Prop := w.grownBy w' (some g) ∧ ∀ t cs, Blk w g t cs → ∃ x : Int, Blk w' g t (cs.setIfInBounds o (.int .u64 x))
theorem at1_of (w W : World) (g o : Nat) (x : Int) (hb : Below w.heap.size w W) (hg : g < w.heap.size) : At1 w (W.setCell ⟨g, o, none⟩ (.int .u64 x)) g o :=
  ⟨⟨hb.os, hb.tape, hb.output, by simpa [World.setCell] using hb.size, fun k hk hr => (Below.heap_setCell _ _ _ _ (fun e => hr (by rw [e]))).trans (hb.block k hk)⟩,
    fun t cs h => ⟨x, (h.below hb hg).set_ o _⟩⟩
theorem mont59 (g o : Nat) (a : Int) (w : World) (hc : w.cell? ⟨g, o, none⟩ = some (.int .u64 a)) (hf : w.frozen? ⟨g, o, none⟩ = false) (ha : U a) :
    Calls Tryz.prog 59 #[.pointer (some ⟨g, o, none⟩)] w fun e w' => e = .returned (.tuple #[]) ∧ At1 w w' g o := by
  have hl := block_lt_of_cell hc
  go_enter Tryz.func59, Tryz.ntmps59
  go_wp2_with fail
  refine (sq78 _).mono ?_
  rintro e w1 ⟨rfl, rfl⟩
  have hb : Below w.heap.size w (w.alloc (.cells #[.int .u64 18446744065119617025] 93)) := (Below.refl _ _).alloc (Nat.le_refl _) _
  go_wp2_with fail
  refine (mul77 _ _ _ _ _ _ _ ((hb.cell hl).trans hc) ((hb.frozen hl).trans hf) ((hb.cell hl).trans hc) (by simp [go_sem]; rfl) ha (by unfold U; omega)).mono ?_
  rintro e w2 ⟨rfl, W, x, hW, rfl⟩
  go_wp2
  go_end0
  exact ⟨rfl, at1_of _ _ _ _ _ (hb.trans (hW.mono (by simp))) hl⟩
theorem set45 (g o : Nat) (n : Int) (t : TypeId) (cs : Array Value) (w : World) (hB : Blk w g t cs) (ho : o < cs.size) (hn0 : 0 ≤ n) (hn : n < 18446744069414584321) :
    Calls Tryz.prog 45 #[.pointer (some ⟨g, o, none⟩), .int .u64 n] w fun e w' => e = .returned .nilIface ∧ w.grownBy w' (some g) ∧ ∃ x : Int, Blk w' g t (cs.setIfInBounds o (.int .u64 x)) := by
  obtain ⟨v, hv⟩ : ∃ v, w.cell? ⟨g, o, none⟩ = some v := ⟨cs[o], by rw [hB.cell, Array.getElem?_eq_getElem]⟩
  have hf := hB.frozen o
  go_enter Tryz.func45, Tryz.ntmps45
  go_wp2_with fail
  have hB1 := hB.set_ o (.int .u64 n)
  refine (mont59 g o n _ (by rw [hB1.cell]; simp [ho]) (hB1.frozen o) ⟨hn0, by omega⟩).mono ?_
  rintro e w2 ⟨rfl, hg, hx⟩
  obtain ⟨x, hx⟩ := hx _ _ hB1
  go_wp2
  go_ret
  refine ⟨rfl, ⟨hg.os, hg.tape, hg.output, by simpa [World.setCell] using hg.size, fun k hk hr => (hg.block k (by simpa [World.setCell] using hk) hr).trans (Below.heap_setCell _ _ _ _ (fun e => hr (by rw [e])))⟩, x, ?_⟩
  simpa using hx
end Go.Proofs.YtkacahdogfchfaaGreatDoor
