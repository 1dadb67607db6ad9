/-
  The constructors newFlpCount, newFlpSum, newFlpSumVec, newFlpHistogram: what they make, and when they hand back an error. Conditions: lengths and chunks of at most 16, bits of at most 64 where one is made; the error's package-level variable holds an error.
-/
import Derived.Test.YtkacahdogfchfaaGreatDoorProg
import Derived.Test.YtkacahdogfchfaaGreatDoorG
import Derived.Test.YtkacahdogfchfaaGreatDoorB
import Derived.Test.YtkacahdogfchfaaGreatDoorKit2
import Derived.WalkKit
import Derived.WalkLawsBesides
import Derived.WalkSpells
import Derived.Outline
import Derived.Laws.EntriesVeiled
import Derived.BigQuiet
import Derived.Lib.ItoaNum
import Derived.Deep.QuietTactic
namespace Go.Proofs.YtkacahdogfchfaaGreatDoor
open Go.RowKit
/-- Package-level variable i holds an error. -/
def ErrAt (w : World) (i : Nat) : Prop := ∃ t v, w.cell? ⟨i, 0, none⟩ = some (.iface t v)
/-- 'nil and an error' comes back. -/
def Fails (w : World) (e : Ending) (w' : World) : Prop := (∃ t v, e = .returned (.tuple #[.pointer none, .iface t v])) ∧ Below w.heap.size w w'
theorem part154 (w : World) (b : Nat) (cs : Array Value) (h : Blk w b 154 cs) : Sem.run Tryz.prog (partAt ⟨b, 1, none⟩ 0 0) w = .ok ⟨b, 1, none⟩ w :=
  run_partAt h 1 8 (by have h : Tryz.prog.cellsOf 154 = 6 := by kernel_rfl
                       rw [h]; decide) (by kernel_rfl)
theorem flp33 (w : World) : Calls Tryz.prog 33 #[] w fun e w' => ∃ (g : Nat) (f : Value), e = .returned (.pointer (some ⟨g, 0, none⟩)) ∧ w.heap.size ≤ g ∧ Below w.heap.size w w' ∧ Blk w' g 154 #[f, .int .u64 1, .int .u64 1, .int .u64 0, .int .u64 1, .int .u64 1] := by
  have hp := fun cs => part154 (w.alloc (.cells cs 154)) w.heap.size cs (Blk.new w 154 cs)
  go_enter Tryz.func33, Tryz.ntmps33
  go_wp2
  go_ret
  exact ⟨_, _, rfl, Nat.le_refl _, (Below.refl _ _).alloc (Nat.le_refl _) _, Blk.new _ _ _⟩
theorem calls_eq (a c : Nat) (hc : 1 ≤ c) : ((a : Int) + (c : Int) - 1) / (c : Int) = (((a + c - 1) / c : Nat) : Int) := by
  have e : ((a : Int) + (c : Int) - 1) = ((a + c - 1 : Nat) : Int) := by omega
  rw [e, Int.natCast_ediv]
theorem flp39 (len ch : Nat) (w : World) (hl : len ≤ 16) (h1 : 1 ≤ ch) (hch : ch ≤ 16) : Calls Tryz.prog 39 #[.int .u64 len, .int .u64 ch] w fun e w' => ∃ (g : Nat) (f : Value), e = .returned (.pointer (some ⟨g, 0, none⟩)) ∧ w.heap.size ≤ g ∧ Below w.heap.size w w' ∧
    Blk w' g 176 #[f, .int .u64 ch, .int .u64 ((len + ch - 1) / ch : Nat), .int .u64 len, .int .u64 ((len + ch - 1) / ch : Nat), .int .u64 2, .int .u64 len, .int .u64 len, .int .u64 ch] := by
  have hz : ((ch : Int) == 0) = false := by simp; omega
  rw [← calls_eq len ch h1]
  go_enter Tryz.func39, Tryz.ntmps39
  go_wp2
  go_ret
  exact ⟨_, _, rfl, Nat.le_refl _, (Below.refl _ _).alloc (Nat.le_refl _) _, Blk.new _ _ _⟩
theorem flp36len (bits ch : Nat) (w : World) (hE : ErrAt w 4) : Calls Tryz.prog 36 #[.int .u64 0, .int .u64 bits, .int .u64 ch] w (Fails w) := by
  obtain ⟨t, v, hv⟩ := hE
  go_enter Tryz.func36, Tryz.ntmps36
  go_wp2
  go_region
  all_goals go_wp2
  all_goals go_ret2
  all_goals exact ⟨⟨_, _, rfl⟩, (Below.refl _ _).drew⟩
theorem flp36bits (len bits ch : Nat) (w : World) (h0 : 1 ≤ len) (hl : len ≤ 16) (hb : bits = 0 ∨ 64 < bits) (hE : ErrAt w 5) : Calls Tryz.prog 36 #[.int .u64 len, .int .u64 bits, .int .u64 ch] w (Fails w) := by
  obtain ⟨t, v, hv⟩ := hE
  have hz : ((len : Int) == 0) = false := by simp; omega
  rcases hb with rfl | hb
  · go_enter Tryz.func36, Tryz.ntmps36
    go_wp2
    go_region
    all_goals go_wp2
    all_goals go_ret2
    all_goals exact ⟨⟨_, _, rfl⟩, (Below.refl _ _).drew⟩
  · have hz2 : ((bits : Int) == 0) = false := by simp; omega
    go_enter Tryz.func36, Tryz.ntmps36
    go_wp2
    go_region
    all_goals go_wp2
    all_goals go_ret2
    all_goals exact ⟨⟨_, _, rfl⟩, (Below.refl _ _).drew⟩
theorem flp36ch (len bits : Nat) (w : World) (h0 : 1 ≤ len) (hl : len ≤ 16) (hb : 1 ≤ bits) (hb2 : bits ≤ 64) (hE : ErrAt w 6) : Calls Tryz.prog 36 #[.int .u64 len, .int .u64 bits, .int .u64 0] w (Fails w) := by
  obtain ⟨t, v, hv⟩ := hE
  have hz : ((len : Int) == 0) = false := by simp; omega
  have hz2 : ((bits : Int) == 0) = false := by simp; omega
  go_enter Tryz.func36, Tryz.ntmps36
  go_wp2
  go_region
  all_goals go_wp2
  all_goals go_ret2
  all_goals exact ⟨⟨_, _, rfl⟩, (Below.refl _ _).drew⟩
theorem flp36 (len bits ch : Nat) (w : World) (h0 : 1 ≤ len) (hl : len ≤ 16) (hb : 1 ≤ bits) (hb2 : bits ≤ 64) (hc : 1 ≤ ch) (hc2 : ch ≤ 16) : Calls Tryz.prog 36 #[.int .u64 len, .int .u64 bits, .int .u64 ch] w
    fun e w' => ∃ (g : Nat) (f : Value), e = .returned (.tuple #[.pointer (some ⟨g, 0, none⟩), .nilIface]) ∧ w.heap.size ≤ g ∧ Below w.heap.size w w' ∧
      Blk w' g 172 #[f, .int .u64 ch, .int .u64 ((len * bits + ch - 1) / ch : Nat), .int .u64 (len * bits : Nat), .int .u64 ((len * bits + ch - 1) / ch : Nat), .int .u64 1, .int .u64 len, .int .u64 len, .int .u64 bits, .int .u64 ch] := by
  have hz : ((len : Int) == 0) = false := by simp; omega
  have hz2 : ((bits : Int) == 0) = false := by simp; omega
  have hz3 : ((ch : Int) == 0) = false := by simp; omega
  rw [← calls_eq _ ch hc]
  have hm : len * bits ≤ 16 * 64 := Nat.mul_le_mul hl hb2
  have hm' : (len : Int) * (bits : Int) ≤ 1024 := by
    have := Int.natCast_mul len bits; omega
  have hm0 : 0 ≤ (len : Int) * (bits : Int) := by
    have := Int.natCast_mul len bits; omega
  have H := hide (Int.natCast_mul len bits)
  clear hm
  go_enter Tryz.func36, Tryz.ntmps36
  go_wp2
  go_ret2
  refine ⟨w.heap.size, .func (.func 47) #[.pointer (some ⟨w.heap.size, 0, none⟩)] #[], rfl, Nat.le_refl _, (Below.refl _ _).alloc (Nat.le_refl _) _, ?_⟩
  rw [H.out]
  exact Blk.new _ _ _
theorem flp34big (m : Int) (w : World) (h : 9223372036854775808 ≤ m) (hE : ErrAt w 3) : Calls Tryz.prog 34 #[.int .u64 m] w (Fails w) := by
  obtain ⟨t, v, hv⟩ := hE
  go_enter Tryz.func34, Tryz.ntmps34
  go_wp2
  go_region
  all_goals go_wp2
  all_goals go_ret2
  all_goals exact ⟨⟨_, _, rfl⟩, (Below.refl _ _).drew⟩
theorem part161 (w : World) (b : Nat) (cs : Array Value) (h : Blk w b 161 cs) : Sem.run Tryz.prog (partAt ⟨b, 1, none⟩ 0 0) w = .ok ⟨b, 1, none⟩ w :=
  run_partAt h 1 8 (by have h : Tryz.prog.cellsOf 161 = 9 := by kernel_rfl
                       rw [h]; decide) (by kernel_rfl)
theorem bitLen_bounds (m : Nat) (h : m < 9223372036854775808) : Lib.bitLen m ≤ 63 ∧ m < 2 ^ Lib.bitLen m ∧ 2 ^ Lib.bitLen m ≤ 9223372036854775808 := by
  have h1 := Lib.bitLen_le m 63 (by omega) h
  refine ⟨h1, ?_, Nat.pow_le_pow_right (by omega) h1⟩
  by_cases h0 : m = 0
  · subst h0; decide
  · exact (Lib.bitLenAux_bounds 64 m (by omega) h0).2.2
set_option maxRecDepth 100000 in
theorem flp34b (m : Int) (b : Nat) (w : World) (h0 : 0 ≤ m) (h1 : m < 9223372036854775808) (hb : Lib.bitLen m.toNat = b) : Calls Tryz.prog 34 #[.int .u64 m] w
    fun e w' => ∃ (g : Nat) (f x : Value), e = .returned (.tuple #[.pointer (some ⟨g, 0, none⟩), .nilIface]) ∧ w.heap.size ≤ g ∧ Below w.heap.size w w' ∧
      Blk w' g 161 #[f, .int .u64 (2 * (b : Int)), .int .u64 (2 * (b : Int)), .int .u64 0, .int .u64 (2 * (b : Int) + 1), .int .u64 1, .int .u64 b, .int .u64 m, x] := by
  have HB := bitLen_bounds m.toNat (by omega)
  rw [hb] at HB
  have hb1 := HB.1
  have hoff : 0 ≤ IntKind.u64.wrap (IntKind.u64.wrap (IntKind.u64.wrap (2 ^ b) - 1) - m) ∧ IntKind.u64.wrap (IntKind.u64.wrap (IntKind.u64.wrap (2 ^ b) - 1) - m) < 18446744069414584321 := by
    obtain ⟨_, h2, h3⟩ := HB
    have e : (2 : Int) ^ b = ((2 ^ b : Nat) : Int) := by rw [Int.natCast_pow]; rfl
    rw [IntKind.wrap_u64, IntKind.wrap_u64, IntKind.wrap_u64, e]
    generalize (2 : Nat) ^ b = p at h2 h3 ⊢
    omega
  clear HB
  have HO := hide hoff
  have HL := hide hb
  clear hoff hb
  go_enter Tryz.func34, Tryz.ntmps34
  go_wp2_with fail
  refine (len30 m _ (by omega) (by omega)).mono ?_
  rintro e w' ⟨rfl, rfl⟩
  rw [HL.out]
  go_wp2_with fail
  refine (set45 w.heap.size 8 _ 161 _ _ (Blk.new w 161 _) (by simp) HO.out.1 HO.out.2).mono ?_
  rintro e w1 ⟨rfl, hg1, x, hx⟩
  have hB : Below w.heap.size w w1 := below_of_grown ((Below.refl _ _).alloc (Nat.le_refl _) _) hg1 (by simp) (Nat.le_refl _)
  have hx1 : Blk w1 w.heap.size 161 #[.nilFunc, .int .u64 0, .int .u64 0, .int .u64 0, .int .u64 0, .int .u64 0, .int .u64 b, .int .u64 m, .int .u64 x] := hx
  clear hg1 hx
  have c0 := hx1.cell 0
  have c1 := hx1.cell 1
  have c2 := hx1.cell 2
  have c3 := hx1.cell 3
  have c4 := hx1.cell 4
  have c5 := hx1.cell 5
  have hf := hx1.frozen
  simp only [List.getElem?_toArray, List.getElem?_cons_zero, List.getElem?_cons_succ] at c0 c1 c2 c3 c4 c5
  have HX := hide hx1
  clear hx1
  have hp := part161 _ w.heap.size _ ((((HX.out.set_ 2 (.int .u64 (2 * (b : Int)))).set_ 3 (.int .u64 0)).set_ 5 (.int .u64 1)).set_ 4 (.int .u64 (2 * (b : Int) + 1)))
  go_wp2_with fail
  go_ret2
  refine ⟨w.heap.size, _, .int .u64 x, rfl, Nat.le_refl _, ?_, ((((((HX.out.set_ 2 _).set_ 3 _).set_ 5 _).set_ 4 _).set_ 1 _).set_ 0 _)⟩
  exact (((((hB.setCell (p := ⟨_, 2, none⟩) (Nat.le_refl _) _).setCell (p := ⟨_, 3, none⟩) (Nat.le_refl _) _).setCell (p := ⟨_, 5, none⟩) (Nat.le_refl _) _).setCell (p := ⟨_, 4, none⟩) (Nat.le_refl _) _).setCell (p := ⟨_, 1, none⟩) (Nat.le_refl _) _).setCell (p := ⟨_, 0, none⟩) (Nat.le_refl _) _
end Go.Proofs.YtkacahdogfchfaaGreatDoor
