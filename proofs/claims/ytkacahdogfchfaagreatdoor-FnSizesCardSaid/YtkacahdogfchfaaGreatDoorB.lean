/-
  math/bits over this program: Len64, Len, OnesCount64, OnesCount, TrailingZeros64, TrailingZeros, Mul64; and circlmath.NextPow2. Conditions: Len64 and Mul64 at every number; the rest at numbers of at most 1100, and where a table is read its 64 places hold bytes, whatever they are.
-/
import Derived.Test.YtkacahdogfchfaaGreatDoorProg
import Derived.Test.YtkacahdogfchfaaGreatDoorKit
import Derived.Test.YtkacahdogfchfaaGreatDoorL
import Derived.WalkKit
import Derived.WalkLawsBesides
import Derived.WalkSpells
import Derived.Outline
import Derived.Lib.BitFns
import Derived.Lib.Hide
namespace Go.Proofs.YtkacahdogfchfaaGreatDoor
open Go.RowKit
theorem len167 (x : Int) (w : World) (h0 : 0 ≤ x) (h1 : x ≤ 18446744073709551615) :
    Calls Tryz.prog 167 #[.int .u64 x] w fun e w' => e = .returned (.int .i64 (Lib.bitLen x.toNat)) ∧ w = w' := by
  go_enter Tryz.func167, Tryz.ntmps167
  go_wp2_with fail
  refine (len30 x _ h0 h1).mono ?_
  rintro e w' ⟨rfl, rfl⟩
  go_wp2
  go_ret
  exact ⟨rfl, rfl⟩

/-- What OnesCount64 reckons. -/
def ocGo (n : Int) : Int :=
  let x1 := IntKind.u64.wrap (bits BinOp.and IntKind.u64 (n / 2) 6148914691236517205 + bits BinOp.and IntKind.u64 n 6148914691236517205)
  let x2 := IntKind.u64.wrap (bits BinOp.and IntKind.u64 (x1 / 4) 3689348814741910323 + bits BinOp.and IntKind.u64 x1 3689348814741910323)
  let x3 := bits BinOp.and IntKind.u64 (IntKind.u64.wrap (x2 / 16 + x2)) 1085102592571150095
  let x4 := IntKind.u64.wrap (x3 + x3 / 256)
  let x5 := IntKind.u64.wrap (x4 + x4 / 65536)
  let x6 := IntKind.u64.wrap (x5 + x5 / 4294967296)
  bits BinOp.and IntKind.i64 (wrap64 x6) 127
theorem ones169 (n : Nat) (w : World) : Calls Tryz.prog 169 #[.int .u64 n] w fun e w' => e = .returned (.int .i64 (ocGo n)) ∧ w = w' := by
  go_enter Tryz.func169, Tryz.ntmps169
  go_wp2
  refine bodyPost_ret (results_tmp rfl _ _ _) rfl ⟨?_, rfl⟩
  rfl
theorem ones165 (n : Nat) (w : World) : Calls Tryz.prog 165 #[.int .u64 n] w fun e w' => e = .returned (.int .i64 (ocGo n)) ∧ w = w' := by
  go_enter Tryz.func165, Tryz.ntmps165
  go_wp2_with fail
  refine (ones169 n _).mono ?_
  rintro e w' ⟨rfl, rfl⟩
  go_wp2
  go_ret
  exact ⟨rfl, rfl⟩
/-- The least power of 2 that is at least n (n not 0). -/
def np2 (n : Nat) : Nat := 2 ^ Lib.bitLen (n - 1)
theorem ocGo_all : (List.range 1101).all (fun n => (ocGo (n : Int) == 1) == (n != 0 && np2 n == n)) = true := by decide +kernel
theorem oc_one (n : Nat) (h0 : 1 ≤ n) (h1 : n ≤ 1100) : (ocGo (n : Int) == 1) = (np2 n == n) := by
  have h := List.all_eq_true.1 ocGo_all n (List.mem_range.2 (by omega))
  have e : (n != 0) = true := by simp; omega
  rw [e, Bool.true_and] at h
  exact eq_of_beq h
theorem np2_all : (List.range 1101).all (fun n => n == 0 || np2 n == n || (decide (Lib.bitLen n ≤ 11) && np2 n == 2 ^ Lib.bitLen n)) = true := by decide +kernel
theorem np2_of (n : Nat) (h0 : 1 ≤ n) (h1 : n ≤ 1100) (h : (np2 n == n) = false) : Lib.bitLen n ≤ 11 ∧ np2 n = 2 ^ Lib.bitLen n := by
  have k := List.all_eq_true.1 np2_all n (List.mem_range.2 (by omega))
  have e : (n == 0) = false := by simp; omega
  rw [e, h, Bool.false_or, Bool.false_or, Bool.and_eq_true, decide_eq_true_eq, beq_iff_eq] at k
  exact k
theorem np2_bound_all : (List.range 1101).all (fun n => n == 0 || (decide (n ≤ np2 n) && decide (np2 n ≤ 2048))) = true := by decide +kernel
theorem np2_bound (n : Nat) (h0 : 1 ≤ n) (h1 : n ≤ 1100) : n ≤ np2 n ∧ np2 n ≤ 2048 := by
  have k := List.all_eq_true.1 np2_bound_all n (List.mem_range.2 (by omega))
  have e : (n == 0) = false := by simp; omega
  rw [e, Bool.false_or, Bool.and_eq_true, decide_eq_true_eq, decide_eq_true_eq] at k
  exact k

/-- The table deBruijn64tab is 64 bytes, whatever they are. -/
def Tab (w : World) : Prop := ∀ i, i < 64 → ∃ x : Int, w.cell? ⟨18, i, none⟩ = some (.int .u8 x) ∧ 0 ≤ x ∧ x ≤ 255
theorem tz171 (n : Nat) (w : World) (h0 : 1 ≤ n) (hT : Tab w) : Calls Tryz.prog 171 #[.int .u64 n] w fun e w' => (∃ k : Int, e = .returned (.int .i64 k) ∧ 0 ≤ k ∧ k ≤ 255) ∧ w = w' := by
  have e0 : ((n : Int) == 0) = false := by simp; omega
  have hI : 0 ≤ IntKind.u64.wrap (bits BinOp.and IntKind.u64 (n : Int) (IntKind.u64.wrap (-(n : Int))) * 285870213051353865) / 288230376151711744 ∧
      IntKind.u64.wrap (bits BinOp.and IntKind.u64 (n : Int) (IntKind.u64.wrap (-(n : Int))) * 285870213051353865) / 288230376151711744 < 64 := by
    rw [IntKind.wrap_u64 (_ * _)]
    omega
  obtain ⟨x, hx, hx0, hx1⟩ := hT (IntKind.u64.wrap (bits BinOp.and IntKind.u64 (n : Int) (IntKind.u64.wrap (-(n : Int))) * 285870213051353865) / 288230376151711744).toNat (by omega)
  go_enter Tryz.func171, Tryz.ntmps171
  go_wp2
  go_ret
  exact ⟨⟨x, rfl, hx0, hx1⟩, rfl⟩
theorem tz166 (n : Nat) (w : World) (h0 : 1 ≤ n) (hT : Tab w) : Calls Tryz.prog 166 #[.int .u64 n] w fun e w' => (∃ k : Int, e = .returned (.int .i64 k) ∧ 0 ≤ k ∧ k ≤ 255) ∧ w = w' := by
  go_enter Tryz.func166, Tryz.ntmps166
  go_wp2_with fail
  refine (tz171 n _ h0 hT).mono ?_
  rintro e w' ⟨⟨k, rfl, hk0, hk1⟩, rfl⟩
  go_wp2
  go_ret
  exact ⟨⟨k, rfl, hk0, hk1⟩, rfl⟩
theorem pow164 (n : Nat) (w : World) (h0 : 1 ≤ n) (h1 : n ≤ 1100) (hT : Tab w) : Calls Tryz.prog 164 #[.int .u64 n] w fun e w' => (∃ k : Int, e = .returned (.tuple #[.int .u64 (np2 n), .int .u64 k])) ∧ w = w' := by
  have ho := oc_one n h0 h1
  cases hp : (np2 n == n) with
  | true =>
    rw [hp] at ho
    have e : np2 n = n := eq_of_beq hp
    rw [e]
    clear hp e
    go_enter Tryz.func164, Tryz.ntmps164
    go_wp2_with fail
    refine (ones165 n _).mono ?_
    rintro e w' ⟨rfl, rfl⟩
    go_wp2_with fail
    refine (tz166 n _ h0 hT).mono ?_
    rintro e w' ⟨⟨k, rfl, hk0, hk1⟩, rfl⟩
    go_wp2
    go_ret2
    exact ⟨⟨k, rfl⟩, rfl⟩
  | false =>
    rw [hp] at ho
    obtain ⟨hb, e⟩ := np2_of n h0 h1 hp
    have H := hide e
    clear hp e
    go_enter Tryz.func164, Tryz.ntmps164
    go_wp2_with fail
    refine (ones165 n _).mono ?_
    rintro e w' ⟨rfl, rfl⟩
    go_wp2_with fail
    refine (len167 n _ (by omega) (by omega)).mono ?_
    rintro e w' ⟨rfl, rfl⟩
    go_wp2
    have hle : (2 : Nat) ^ Lib.bitLen n ≤ 2 ^ 11 := Nat.pow_le_pow_right (by omega) hb
    have hw : IntKind.u64.wrap (2 ^ Lib.bitLen n) = ((np2 n : Nat) : Int) := by
      have e : ((2 : Int) ^ Lib.bitLen n) = ((2 ^ Lib.bitLen n : Nat) : Int) := by rw [Int.natCast_pow]; rfl
      have h11 : (2 : Nat) ^ 11 = 2048 := rfl
      rw [H.out, IntKind.wrap_u64, e]
      generalize (2 : Nat) ^ Lib.bitLen n = m at hle ⊢
      omega
    rw [hw]
    go_ret2
    exact ⟨⟨_, rfl⟩, rfl⟩
end Go.Proofs.YtkacahdogfchfaaGreatDoor
