/-
  The constructor newFlpMultiCountHotVec: what it makes, and when it hands back an error; the order of the 128-bit field and the test against it. Conditions: lengths and chunks of at most 16; the error variables hold errors.
-/
import Derived.Test.YtkacahdogfchfaaGreatDoorProg
import Derived.Test.YtkacahdogfchfaaGreatDoorN
import Derived.BigQuiet
import Derived.Laws.EntriesVeiled
import Derived.Deep.QuietTactic
import Derived.WalkKit
import Derived.WalkLawsBesides
import Derived.WalkSpells
import Derived.Outline
import Derived.Handy
namespace Go.Proofs.YtkacahdogfchfaaGreatDoor
open Go.RowKit
set_option maxRecDepth 100000 in
set_option maxHeartbeats 4000000 in
theorem order51 (a b : Value) (w : World) : Calls Tryz.prog 51 #[.agg #[a, b]] w fun e w' => ∃ g : Nat, e = .returned (.slice (some ⟨g, 0, none⟩) 16 16) ∧ w.heap.size ≤ g ∧ Below w.heap.size w w' ∧
    Blk w' g 200 #[.int .u8 255, .int .u8 255, .int .u8 255, .int .u8 255, .int .u8 255, .int .u8 255, .int .u8 255, .int .u8 228, .int .u8 0, .int .u8 0, .int .u8 0, .int .u8 0, .int .u8 0, .int .u8 0, .int .u8 0, .int .u8 1] := by
  go_enter Tryz.func51, Tryz.ntmps51
  go_wp2
  refine wp_loop_rounds 3 ?_
  rw [rounds_succ]
  go_wp2
  refine wp_loop_rounds 9 ?_
  rw [rounds_succ]
  go_wp2
  rw [rounds_succ]
  go_wp2
  rw [rounds_succ]
  go_wp2
  rw [rounds_succ]
  go_wp2
  rw [rounds_succ]
  go_wp2
  rw [rounds_succ]
  go_wp2
  rw [rounds_succ]
  go_wp2
  rw [rounds_succ]
  go_wp2
  rw [rounds_succ]
  go_wp2
  rw [rounds_succ]
  go_wp2
  refine wp_loop_rounds 9 ?_
  rw [rounds_succ]
  go_wp2
  rw [rounds_succ]
  go_wp2
  rw [rounds_succ]
  go_wp2
  rw [rounds_succ]
  go_wp2
  rw [rounds_succ]
  go_wp2
  rw [rounds_succ]
  go_wp2
  rw [rounds_succ]
  go_wp2
  rw [rounds_succ]
  go_wp2
  rw [rounds_succ]
  go_wp2
  rw [rounds_succ]
  go_wp2
  go_ret
  exact ⟨_, rfl, by omega, ((((Below.refl _ _).alloc (Nat.le_refl _) _).alloc (by simp) _).alloc (by simp; omega) _), by
    have h := (Blk.new (w.alloc (.cells #[a, b] 119)) 200 #[.int .u8 255, .int .u8 255, .int .u8 255, .int .u8 255, .int .u8 255, .int .u8 255, .int .u8 255, .int .u8 228, .int .u8 0, .int .u8 0, .int .u8 0, .int .u8 0, .int .u8 0, .int .u8 0, .int .u8 0, .int .u8 1]).alloc (.cells #[.int .u64 18446744073709551588, .int .u64 1] 22)
    simpa using h⟩
set_option maxRecDepth 100000 in
set_option maxHeartbeats 4000000 in
theorem above50 (g : Nat) (a b : Int) (w : World) (h0 : 0 ≤ a) (h1 : a ≤ 100) (h2 : 0 ≤ b) (h3 : b ≤ 16) (hB : Blk w g 200 #[.int .u8 255, .int .u8 255, .int .u8 255, .int .u8 255, .int .u8 255, .int .u8 255, .int .u8 255, .int .u8 228, .int .u8 0, .int .u8 0, .int .u8 0, .int .u8 0, .int .u8 0, .int .u8 0, .int .u8 0, .int .u8 1]) :
    Calls Tryz.prog 50 #[.slice (some ⟨g, 0, none⟩) 16 16, .int .u64 a, .int .u64 b] w fun e w' => e = .returned (.bool true) ∧ w = w' := by
  have c0 := hB.cell 0
  have c1 := hB.cell 1
  have c2 := hB.cell 2
  have c3 := hB.cell 3
  have c4 := hB.cell 4
  have c5 := hB.cell 5
  have c6 := hB.cell 6
  have c7 := hB.cell 7
  have c8 := hB.cell 8
  have c9 := hB.cell 9
  have c10 := hB.cell 10
  have c11 := hB.cell 11
  have c12 := hB.cell 12
  have c13 := hB.cell 13
  have c14 := hB.cell 14
  have c15 := hB.cell 15
  simp only [List.getElem?_toArray, List.getElem?_cons_zero, List.getElem?_cons_succ] at c0 c1 c2 c3 c4 c5 c6 c7 c8 c9 c10 c11 c12 c13 c14 c15
  clear hB
  have e0 : bits BinOp.or IntKind.u64 0 255 = 255 := by decide +kernel
  have e1 : bits BinOp.or IntKind.u64 65280 255 = 65535 := by decide +kernel
  have e2 : bits BinOp.or IntKind.u64 16776960 255 = 16777215 := by decide +kernel
  have e3 : bits BinOp.or IntKind.u64 4294967040 255 = 4294967295 := by decide +kernel
  have e4 : bits BinOp.or IntKind.u64 1099511627520 255 = 1099511627775 := by decide +kernel
  have e5 : bits BinOp.or IntKind.u64 281474976710400 255 = 281474976710655 := by decide +kernel
  have e6 : bits BinOp.or IntKind.u64 72057594037927680 255 = 72057594037927935 := by decide +kernel
  have e7 : bits BinOp.or IntKind.u64 18446744073709551360 228 = 18446744073709551588 := by decide +kernel
  have e8 : bits BinOp.or IntKind.u64 0 0 = 0 := by decide +kernel
  have e15 : bits BinOp.or IntKind.u64 0 1 = 1 := by decide +kernel
  go_enter Tryz.func50, Tryz.ntmps50
  go_wp2
  refine wp_loop_rounds 17 ?_
  rw [rounds_succ]
  go_wp2
  rw [rounds_succ]
  go_wp2
  rw [rounds_succ]
  go_wp2
  rw [rounds_succ]
  go_wp2
  rw [rounds_succ]
  go_wp2
  rw [rounds_succ]
  go_wp2
  rw [rounds_succ]
  go_wp2
  rw [rounds_succ]
  go_wp2
  rw [rounds_succ]
  go_wp2
  rw [rounds_succ]
  go_wp2
  rw [rounds_succ]
  go_wp2
  rw [rounds_succ]
  go_wp2
  rw [rounds_succ]
  go_wp2
  rw [rounds_succ]
  go_wp2
  rw [rounds_succ]
  go_wp2
  rw [rounds_succ]
  go_wp2
  rw [rounds_succ]
  go_wp2
  go_ret
  exact ⟨rfl, rfl⟩
theorem flp40len (mx ch : Int) (w : World) (hE : ErrAt w 7) : Calls Tryz.prog 40 #[.int .u64 0, .int .u64 mx, .int .u64 ch] w (Fails w) := by
  obtain ⟨t, v, hv⟩ := hE
  go_enter Tryz.func40, Tryz.ntmps40
  go_wp2
  go_region
  all_goals go_wp2
  all_goals go_ret2
  all_goals exact ⟨⟨_, _, rfl⟩, (Below.refl _ _).drew⟩
theorem flp40max (len : Nat) (mx ch : Int) (w : World) (h0 : 1 ≤ len) (hm : (len : Int) < mx) (hE : ErrAt w 8) : Calls Tryz.prog 40 #[.int .u64 len, .int .u64 mx, .int .u64 ch] w (Fails w) := by
  obtain ⟨t, v, hv⟩ := hE
  have hz : ((len : Int) == 0) = false := by simp; omega
  go_enter Tryz.func40, Tryz.ntmps40
  go_wp2
  go_region
  all_goals go_wp2
  all_goals go_ret2
  all_goals exact ⟨⟨_, _, rfl⟩, (Below.refl _ _).drew⟩
theorem flp40ch (len : Nat) (mx : Int) (w : World) (h0 : 1 ≤ len) (hm : mx ≤ (len : Int)) (hE : ErrAt w 9) : Calls Tryz.prog 40 #[.int .u64 len, .int .u64 mx, .int .u64 0] w (Fails w) := by
  obtain ⟨t, v, hv⟩ := hE
  have hz : ((len : Int) == 0) = false := by simp; omega
  go_enter Tryz.func40, Tryz.ntmps40
  go_wp2
  go_region
  all_goals go_wp2
  all_goals go_ret2
  all_goals exact ⟨⟨_, _, rfl⟩, (Below.refl _ _).drew⟩
set_option maxRecDepth 100000 in
set_option maxHeartbeats 1000000 in
theorem flp40b (len ch : Nat) (m : Int) (b : Nat) (w : World) (h0 : 1 ≤ len) (hl : len ≤ 16) (hm0 : 0 ≤ m) (hm : m ≤ (len : Int)) (hc : 1 ≤ ch) (hc2 : ch ≤ 16) (hb : Lib.bitLen m.toNat = b) : Calls Tryz.prog 40 #[.int .u64 len, .int .u64 m, .int .u64 ch] w
    fun e w' => ∃ (g : Nat) (f x y : Value), e = .returned (.tuple #[.pointer (some ⟨g, 0, none⟩), .nilIface]) ∧ w.heap.size ≤ g ∧ Below w.heap.size w w' ∧
      Blk w' g 180 #[f, .int .u64 ch, .int .u64 (((len : Int) + b + ch - 1) / ch), .int .u64 ((len : Int) + b), .int .u64 (((len : Int) + b + ch - 1) / ch), .int .u64 2, .int .u64 len, .int .u64 b, .int .u64 ch, .int .u64 len, x, y] := by
  have HB := bitLen_bounds m.toNat (by omega)
  have hb5 : b ≤ 5 := by rw [← hb]; exact Lib.bitLen_le m.toNat 5 (by omega) (by omega)
  rw [hb] at HB
  have hoff : IntKind.u64.wrap (IntKind.u64.wrap (IntKind.u64.wrap (2 ^ b) - 1) - m) = 2 ^ b - 1 - m ∧ 0 ≤ (2 : Int) ^ b - 1 - m ∧ (2 : Int) ^ b - 1 - m ≤ 100 := by
    obtain ⟨_, h2, h3⟩ := HB
    have h4 : (2 : Nat) ^ b ≤ 2 ^ 5 := Nat.pow_le_pow_right (by omega) hb5
    have e : (2 : Int) ^ b = ((2 ^ b : Nat) : Int) := by rw [Int.natCast_pow]; rfl
    rw [IntKind.wrap_u64, IntKind.wrap_u64, IntKind.wrap_u64, e]
    generalize (2 : Nat) ^ b = p at h2 h3 h4 ⊢
    omega
  clear HB
  have HO := hide hoff
  have HL := hide hb
  clear hoff hb
  have hz : ((len : Int) == 0) = false := by simp; omega
  have hz3 : ((ch : Int) == 0) = false := by simp; omega
  go_enter Tryz.func40, Tryz.ntmps40
  go_wp2_with fail
  refine (len30 m _ (by omega) (by omega)).mono ?_
  rintro e w' ⟨rfl, rfl⟩
  rw [HL.out]
  go_wp2_with fail
  refine (order51 _ _ _).mono ?_
  rintro e w1 ⟨g1, rfl, hg1, hB1, hK1⟩
  rw [HO.out.1]
  go_wp2_with fail
  refine (above50 g1 _ _ _ HO.out.2.1 HO.out.2.2 (by omega) (by omega) hK1).mono ?_
  rintro e w2 ⟨rfl, rfl⟩
  go_wp2_with fail
  refine (set52 w1.heap.size 10 _ 180 _ _ (Blk.new w1 180 _) (by simp) ⟨HO.out.2.1, by have := HO.out.2.2; omega⟩).mono ?_
  rintro e w2 ⟨rfl, hg2, x, y, hx⟩
  have hB1 : Below w.heap.size w w1 := ((Below.refl _ _).alloc (Nat.le_refl _) _).trans (hB1.mono (by simp))
  have hB : Below w.heap.size w w2 := hB1.trans ((below_of_grown ((Below.refl _ _).alloc (Nat.le_refl _) _) hg2 (by simp) (Nat.le_refl _)).mono hB1.size)
  have hx1 : Blk w2 w1.heap.size 180 #[.nilFunc, .int .u64 0, .int .u64 0, .int .u64 0, .int .u64 0, .int .u64 0, .int .u64 0, .int .u64 b, .int .u64 ch, .int .u64 len, .int .u64 x, .int .u64 y] := hx
  clear hg2 hx
  have c0 := hx1.cell 0
  have c1 := hx1.cell 1
  have c2 := hx1.cell 2
  have c3 := hx1.cell 3
  have c4 := hx1.cell 4
  have c5 := hx1.cell 5
  have c6 := hx1.cell 6
  have hf := hx1.frozen
  simp only [List.getElem?_toArray, List.getElem?_cons_zero, List.getElem?_cons_succ] at c0 c1 c2 c3 c4 c5 c6
  have HX := hide hx1
  have HS := hide hB1.size
  clear hx1
  go_wp2_with fail
  go_ret2
  refine ⟨w1.heap.size, _, .int .u64 x, .int .u64 y, rfl, HS.out, ?_, (((((((HX.out.set_ 3 _).set_ 4 _).set_ 6 _).set_ 5 _).set_ 1 _).set_ 2 _).set_ 0 _)⟩
  have hh := HS.out
  exact (((((((hB.setCell (p := ⟨_, 3, none⟩) hh _).setCell (p := ⟨_, 4, none⟩) hh _).setCell (p := ⟨_, 6, none⟩) hh _).setCell (p := ⟨_, 5, none⟩) hh _).setCell (p := ⟨_, 1, none⟩) hh _).setCell (p := ⟨_, 2, none⟩) hh _).setCell (p := ⟨_, 0, none⟩) hh _)
end Go.Proofs.YtkacahdogfchfaaGreatDoor
