/-
  The multiplication of the 128 bit field, its toMont and SetUint64, as far as FnSizes reaches them: that they return, and which cells they write. Conditions: the cells that are read hold uint64s.
-/
import Derived.Test.YtkacahdogfchfaaGreatDoorProg
import Derived.Test.YtkacahdogfchfaaGreatDoorF
import Derived.WalkKit
import Derived.WalkLawsBesides
import Derived.WalkSpells
import Derived.Outline
namespace Go.Proofs.YtkacahdogfchfaaGreatDoor
open Go.RowKit
theorem mov101 (p : Addr) (b x y : Int) (v : Value) (w : World) (hc : w.cell? p = some v) (hf : w.frozen? p = false) : Calls Tryz.prog 101 #[.pointer (some p), .int .u64 b, .int .u64 x, .int .u64 y] w fun e w' => e = .returned (.tuple #[]) ∧ ∃ n : Int, w.setCell p (.int .u64 n) = w' := by
  go_enter Tryz.func101, Tryz.ntmps101
  go_wp2
  go_end0
  exact ⟨rfl, _, rfl⟩
set_option maxRecDepth 100000 in
set_option maxHeartbeats 4000000 in
theorem mul89 (g o gr r : Nat) (x1 x2 b0 b1 : Int) (w : World) (hp0 : w.cell? ⟨g, o, none⟩ = some (.int .u64 x2)) (hp1 : w.cell? ⟨g, o + 1, none⟩ = some (.int .u64 x1)) (hf0 : w.frozen? ⟨g, o, none⟩ = false) (hf1 : w.frozen? ⟨g, o + 1, none⟩ = false)
    (hr0 : w.cell? ⟨gr, r, none⟩ = some (.int .u64 b0)) (hr1 : w.cell? ⟨gr, r + 1, none⟩ = some (.int .u64 b1)) (ha1 : U x1) (ha0 : U x2) (hb0 : U b0) (hb1 : U b1) :
    Calls Tryz.prog 89 #[.pointer (some ⟨g, o, none⟩), .pointer (some ⟨g, o, none⟩), .pointer (some ⟨gr, r, none⟩)] w fun e w' => e = .returned (.tuple #[]) ∧ ∃ w1 n m, Below w.heap.size w w1 ∧ (w1.setCell ⟨g, o, none⟩ (.int .u64 n)).setCell ⟨g, o + 1, none⟩ (.int .u64 m) = w' := by
  have hpl := block_lt_of_cell hp0
  go_enter Tryz.func89, Tryz.ntmps89
  go_wp2_with fail
  refine (mul95 _ _ _ ha0 hb1).mono ?_
  rintro e w' ⟨⟨x4, x3, rfl, hx4, hx3⟩, rfl⟩
  go_wp2_with fail
  refine (mul95 _ _ _ ha0 hb0).mono ?_
  rintro e w' ⟨⟨x6, x5, rfl, hx6, hx5⟩, rfl⟩
  obtain ⟨x7, x8, hx7, hx8, ex7⟩ := add94 x6 x3 0 hx6 hx3 (by omega)
  go_wp2_with fail
  refine (mul95 _ _ _ hx5 (by unfold U; omega)).mono ?_
  rintro e w' ⟨⟨y10, x10, rfl, hy10, hx10⟩, rfl⟩
  go_wp2_with fail
  refine (mul95 _ _ _ hx10 (by unfold U; omega)).mono ?_
  rintro e w' ⟨⟨x13, x12, rfl, hx13, hx12⟩, rfl⟩
  obtain ⟨s15, x15, hs15, hx15, es15⟩ := add94 x5 x10 0 hx5 hx10 (by omega)
  obtain ⟨x16, x17, hx16, hx17, ex16⟩ := add94 x7 x12 x15 hx7 hx12 hx15
  obtain ⟨x18, x19, hx18, hx19, ex18⟩ := add94 (IntKind.u64.wrap (x8 + x4)) x13 x17 (U.wrap _) hx13 hx17
  go_wp2_with fail
  refine (mul95 _ _ _ ha1 hb1).mono ?_
  rintro e w' ⟨⟨x21, x20, rfl, hx21, hx20⟩, rfl⟩
  go_wp2_with fail
  refine (mul95 _ _ _ ha1 hb0).mono ?_
  rintro e w' ⟨⟨x23, x22, rfl, hx23, hx22⟩, rfl⟩
  obtain ⟨x24, x25, hx24, hx25, ex24⟩ := add94 x23 x20 0 hx23 hx20 (by omega)
  obtain ⟨x27, x28, hx27, hx28, ex27⟩ := add94 x16 x22 0 hx16 hx22 (by omega)
  obtain ⟨x29, x30, hx29, hx30, ex29⟩ := add94 x18 x24 x28 hx18 hx24 hx28
  obtain ⟨x31, x32, hx31, hx32, ex31⟩ := add94 x19 (IntKind.u64.wrap (x25 + x21)) x30 ⟨hx19.1, by omega⟩ (U.wrap _) hx30
  go_wp2_with fail
  refine (mul95 _ _ _ hx27 (by unfold U; omega)).mono ?_
  rintro e w' ⟨⟨y33, x33, rfl, hy33, hx33⟩, rfl⟩
  go_wp2_with fail
  refine (mul95 _ _ _ hx33 (by unfold U; omega)).mono ?_
  rintro e w' ⟨⟨x36, x35, rfl, hx36, hx35⟩, rfl⟩
  obtain ⟨s38, x38, hs38, hx38, es38⟩ := add94 x27 x33 0 hx27 hx33 (by omega)
  obtain ⟨x39, x40, hx39, hx40, ex39⟩ := add94 x29 x35 x38 hx29 hx35 hx38
  obtain ⟨x41, x42, hx41, hx42, ex41⟩ := add94 x31 x36 x40 hx31 hx36 hx40
  obtain ⟨x44, x45, hx44, hx45, ex44⟩ := sub92 x39 1 0 hx39 (by unfold U; omega) (by omega)
  obtain ⟨x46, x47, hx46, hx47, ex46⟩ := sub92 x41 18446744073709551588 x45 hx41 (by unfold U; omega) hx45
  obtain ⟨s49, x49, hs49, hx49, es49⟩ := sub92 (x42 + x32) 0 x47 ⟨by omega, by omega⟩ (by unfold U; omega) hx47
  go_wp2_with fail
  refine (mov101 ⟨w.heap.size, 0, none⟩ _ _ _ (.int .u64 0) _ (by simp [go_sem]) (by simp [go_sem])).mono ?_
  rintro e w' ⟨rfl, n, rfl⟩
  go_wp2_with fail
  refine (mov101 ⟨w.heap.size + 1, 0, none⟩ _ _ _ (.int .u64 0) _ (by simp [go_sem]) (by simp [go_sem])).mono ?_
  rintro e w' ⟨rfl, m, rfl⟩
  have hB : Below w.heap.size w ((w.alloc (.cells #[.int .u64 n] 22)).alloc (.cells #[.int .u64 m] 22)) := ((Below.refl _ _).alloc (Nat.le_refl _) _).alloc (by simp) _
  have hW0 : ((w.alloc (.cells #[.int .u64 n] 22)).alloc (.cells #[.int .u64 m] 22)).cell? ⟨w.heap.size, 0, none⟩ = some (.int .u64 n) := by simp [go_sem]
  have hW1 : ((w.alloc (.cells #[.int .u64 n] 22)).alloc (.cells #[.int .u64 m] 22)).cell? ⟨w.heap.size + 1, 0, none⟩ = some (.int .u64 m) := by simp [go_sem]
  go_wp2
  generalize (w.alloc (.cells #[.int .u64 n] 22)).alloc (.cells #[.int .u64 m] 22) = W at *
  have hpW : W.cell? ⟨g, o, none⟩ = some (.int .u64 x2) := (hB.cell (p := ⟨g, o, none⟩) hpl).trans hp0
  have hfW : W.frozen? ⟨g, o, none⟩ = false := (hB.frozen (p := ⟨g, o, none⟩) hpl).trans hf0
  have hpW1 : W.cell? ⟨g, o + 1, none⟩ = some (.int .u64 x1) := (hB.cell (p := ⟨g, o + 1, none⟩) hpl).trans hp1
  have hfW1 : W.frozen? ⟨g, o + 1, none⟩ = false := (hB.frozen (p := ⟨g, o + 1, none⟩) hpl).trans hf1
  go_region
  go_wp2
  have hV0 : (W.setCell ⟨g, o, none⟩ (.int .u64 n)).cell? ⟨g, o + 1, none⟩ = some (.int .u64 x1) := by
    rw [World.cell?_setCell_other _ _ _ _ (by simp)]; exact hpW1
  have hV1 : (W.setCell ⟨g, o, none⟩ (.int .u64 n)).frozen? ⟨g, o + 1, none⟩ = false := by
    rw [World.frozen?_setCell]; exact hfW1
  have hV2 : (W.setCell ⟨g, o, none⟩ (.int .u64 n)).cell? ⟨w.heap.size + 1, 0, none⟩ = some (.int .u64 m) := by
    rw [World.cell?_setCell_other _ _ _ _ (by simp only [ne_eq, Addr.mk.injEq, not_and]; omega)]; exact hW1
  clear hpW hfW hpW1 hfW1 hW0 hW1
  go_region
  all_goals (go_wp2; go_end0)
  exact ⟨rfl, W.drew.drew, n, m, hB.drew.drew, rfl⟩
theorem sq90 (w : World) : Calls Tryz.prog 90 #[] w fun e w' => e = .returned (.pointer (some ⟨w.heap.size, 0, none⟩)) ∧ w.alloc (.cells #[.int .u64 18446744073709550833, .int .u64 21895] 119) = w' := by
  go_enter Tryz.func90, Tryz.ntmps90
  go_wp2
  go_ret
  exact ⟨rfl, rfl⟩
theorem mont71 (g o : Nat) (a b : Int) (t : TypeId) (cs : Array Value) (w : World) (hB : Blk w g t cs) (ha : cs[o]? = some (.int .u64 a)) (hb : cs[o + 1]? = some (.int .u64 b)) (ha' : U a) (hb' : U b) :
    Calls Tryz.prog 71 #[.pointer (some ⟨g, o, none⟩)] w fun e w' => e = .returned (.tuple #[]) ∧ w.grownBy w' (some g) ∧ ∃ x y : Int, Blk w' g t ((cs.setIfInBounds o (.int .u64 x)).setIfInBounds (o + 1) (.int .u64 y)) := by
  have hl := hB.lt
  go_enter Tryz.func71, Tryz.ntmps71
  go_wp2_with fail
  refine (sq90 _).mono ?_
  rintro e w1 ⟨rfl, rfl⟩
  have hbel : Below w.heap.size w (w.alloc (.cells #[.int .u64 18446744073709550833, .int .u64 21895] 119)) := (Below.refl _ _).alloc (Nat.le_refl _) _
  have hB1 := hB.alloc (.cells #[.int .u64 18446744073709550833, .int .u64 21895] 119)
  go_wp2_with fail
  refine (mul89 g o w.heap.size 0 b a _ _ _ (by rw [hB1.cell]; exact ha) (by rw [hB1.cell]; exact hb) (hB1.frozen _) (hB1.frozen _) (by simp [go_sem]; rfl) (by simp [go_sem]; rfl) hb' ha' (by unfold U; omega) (by unfold U; omega)).mono ?_
  rintro e w2 ⟨rfl, W, x, y, hW, rfl⟩
  go_wp2
  go_end0
  have hbW := hbel.trans (hW.mono (by simp))
  exact ⟨rfl, ⟨hbW.os, hbW.tape, hbW.output, by simpa [World.setCell] using hbW.size, fun k hk hr => (Below.heap_setCell _ _ _ _ (fun e => hr (by rw [e]))).trans ((Below.heap_setCell _ _ _ _ (fun e => hr (by rw [e]))).trans (hbW.block k hk))⟩,
    x, y, ((hB.below hbW hl).set_ o _).set_ (o + 1) _⟩
theorem set52 (g o : Nat) (n : Int) (t : TypeId) (cs : Array Value) (w : World) (hB : Blk w g t cs) (ho : o + 1 < cs.size) (hn : U n) :
    Calls Tryz.prog 52 #[.pointer (some ⟨g, o, none⟩), .int .u64 n] w fun e w' => e = .returned .nilIface ∧ w.grownBy w' (some g) ∧ ∃ x y : Int, Blk w' g t ((cs.setIfInBounds o (.int .u64 x)).setIfInBounds (o + 1) (.int .u64 y)) := by
  obtain ⟨v, hv⟩ : ∃ v, w.cell? ⟨g, o, none⟩ = some v := ⟨cs[o], by rw [hB.cell, Array.getElem?_eq_getElem]⟩
  obtain ⟨v1, hv1⟩ : ∃ v, w.cell? ⟨g, o + 1, none⟩ = some v := ⟨cs[o + 1], by rw [hB.cell, Array.getElem?_eq_getElem]⟩
  have hf := hB.frozen o
  have hf1 := hB.frozen (o + 1)
  go_enter Tryz.func52, Tryz.ntmps52
  go_wp2_with fail
  have hB1 := (hB.set_ o (.int .u64 n)).set_ (o + 1) (.int .u64 0)
  refine (mont71 g o n 0 _ _ _ hB1 ?_ ?_ hn (by unfold U; omega)).mono ?_
  · rw [Array.getElem?_setIfInBounds_ne (by omega), Array.getElem?_setIfInBounds_self_of_lt (by omega)]
  · rw [Array.getElem?_setIfInBounds_self_of_lt (by simpa using ho)]
  rintro e w2 ⟨rfl, hg, x, y, hx⟩
  go_wp2
  go_ret
  refine ⟨rfl, ⟨hg.os, hg.tape, hg.output, by simpa [World.setCell] using hg.size, fun k hk hr => (hg.block k (by simpa [World.setCell] using hk) hr).trans ((Below.heap_setCell _ _ _ _ (fun e => hr (by rw [e]))).trans (Below.heap_setCell _ _ _ _ (fun e => hr (by rw [e]))))⟩, x, y, ?_⟩
  have e : ((((cs.setIfInBounds o (.int .u64 n)).setIfInBounds (o + 1) (.int .u64 0)).setIfInBounds o (.int .u64 x)).setIfInBounds (o + 1) (.int .u64 y)) = (cs.setIfInBounds o (.int .u64 x)).setIfInBounds (o + 1) (.int .u64 y) := by
    rw [Array.setIfInBounds_comm (xs := cs.setIfInBounds o (.int .u64 n)) _ _ (by omega), Array.setIfInBounds_setIfInBounds, Array.setIfInBounds_setIfInBounds]
  rw [← e]
  exact hx
end Go.Proofs.YtkacahdogfchfaaGreatDoor

