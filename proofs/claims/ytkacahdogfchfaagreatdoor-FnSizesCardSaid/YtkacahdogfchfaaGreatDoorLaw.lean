/-
  laws.FnSizes is true at every input: the cases. Conditions: the error variables hold errors, the table of math/bits is laid, the context's bytes read.
-/
import Derived.Test.YtkacahdogfchfaaGreatDoorFn
namespace Go.Proofs.YtkacahdogfchfaaGreatDoor
open Go.RowKit
theorem nat_of (x : Int) (h : 0 ≤ x) : ∃ n : Nat, x = (n : Int) := ⟨x.toNat, (Int.toNat_of_nonneg h).symm⟩
theorem nil10 (k s l b c m : Int) (A : Option Addr) (n cp : Nat) (w : World) (hm0 : 0 ≤ m) (hE : ∀ i, i ≤ 9 → ErrAt w i) (hS : Small s l b c n) (hk : ¬ KindOk k s l b c m) :
    Calls Tryz.prog 10 #[.agg #[.int .i64 k, .int .i64 s, .int .i64 l, .int .i64 b, .int .i64 c, .int .u64 m, .slice A n cp]] w (Nil w) := by
  obtain ⟨s0, s1, l0, l1, b0, b1, c0, c1, hn⟩ := hS
  unfold KindOk at hk
  by_cases e1 : k = 1
  · subst e1
    exact small10_1few l b c m s A n cp w (by omega) s0 (hE 2 (by omega))
  by_cases e2 : k = 2
  · subst e2
    by_cases hm : m < 9223372036854775808
    · exact small10_2few l b c m _ s A n cp w hm0 hm rfl (by omega) s0 (hE 2 (by omega))
    · exact small10_2big l b c m s A n cp w (by omega) s0 s1 (hE 3 (by omega))
  exact small10_0 k l b c m s A n cp w e1 e2
theorem nil11 (k s l b c m : Int) (A : Option Addr) (n cp : Nat) (w : World) (hm0 : 0 ≤ m) (hE : ∀ i, i ≤ 9 → ErrAt w i) (hS : Small s l b c n) (hk : ¬ KindOk k s l b c m) :
    Calls Tryz.prog 11 #[.agg #[.int .i64 k, .int .i64 s, .int .i64 l, .int .i64 b, .int .i64 c, .int .u64 m, .slice A n cp]] w (Nil w) := by
  obtain ⟨s0, s1, l0, l1, b0, b1, c0, c1, hn⟩ := hS
  unfold KindOk at hk
  by_cases e3 : k = 3
  · subst e3
    obtain ⟨bn, rfl⟩ := nat_of b b0
    obtain ⟨cn, rfl⟩ := nat_of c c0
    by_cases hl : l = 0
    · subst hl
      exact large11_3len bn cn m s A n cp w (by omega) (by omega) s0 s1 (hE 4 (by omega))
    obtain ⟨ln, rfl⟩ := nat_of l l0
    by_cases hb : bn = 0 ∨ 64 < bn
    · exact large11_3bits ln bn cn m s A n cp w (by omega) (by omega) hb (by omega) (by omega) s0 s1 (hE 5 (by omega))
    by_cases hc : cn = 0
    · subst hc
      exact large11_3ch ln bn m s A n cp w (by omega) (by omega) (by omega) (by omega) s0 s1 (hE 6 (by omega))
    exact large11_3few ln bn cn m s A n cp w (by omega) (by omega) (by omega) (by omega) (by omega) (by omega) (by omega) s0 (hE 2 (by omega))
  by_cases e4 : k = 4
  · subst e4
    obtain ⟨cn, rfl⟩ := nat_of c c0
    by_cases hl : l = 0
    · subst hl
      exact large11_4len cn b m s A n cp w (by omega) s0 s1 (hE 0 (by omega))
    obtain ⟨ln, rfl⟩ := nat_of l l0
    by_cases hc : cn = 0
    · subst hc
      exact large11_4ch ln b m s A n cp w (by omega) (by omega) s0 s1 (hE 1 (by omega))
    exact large11_4few ln cn b m s A n cp w (by omega) (by omega) (by omega) (by omega) (by omega) s0 (hE 2 (by omega))
  by_cases e5 : k = 5
  · subst e5
    obtain ⟨cn, rfl⟩ := nat_of c c0
    by_cases hl : l = 0
    · subst hl
      exact large11_5len cn b m s A n cp w (by omega) s0 s1 (hE 7 (by omega))
    obtain ⟨ln, rfl⟩ := nat_of l l0
    by_cases hm : (ln : Int) < m
    · exact large11_5max ln cn b m s A n cp w (by omega) (by omega) hm (by omega) s0 s1 (hE 8 (by omega))
    by_cases hc : cn = 0
    · subst hc
      exact large11_5ch ln b m s A n cp w (by omega) (by omega) (by omega) s0 s1 (hE 9 (by omega))
    exact large11_5few ln cn _ b m s A n cp w (by omega) (by omega) hm0 (by omega) (by omega) (by omega) rfl (by omega) s0 (hE 2 (by omega))
  exact large11_0 k l b c m s A n cp w e3 e4 e5
theorem lists (k s l b c m : Int) (A : Option Addr) (n cp : Nat) (w : World) (hm0 : 0 ≤ m) (hT : Tab w) (hb : Bytes w A n) (hS : Small s l b c n) (hk : KindOk k s l b c m) :
    ∃ v0 v1 v2 v3 v4 v5 v6 v7 v8 v9 : Int, ∀ W, Below w.heap.size w W → Calls Tryz.prog 6 #[.agg #[.int .i64 k, .int .i64 s, .int .i64 l, .int .i64 b, .int .i64 c, .int .u64 m, .slice A n cp]] W (fun e w' => Listed W w' e #[.int .i64 v0, .int .i64 v1, .int .i64 v2, .int .i64 v3, .int .i64 v4, .int .i64 v5, .int .i64 v6, .int .i64 v7, .int .i64 v8, .int .i64 v9]) ∧
      Calls Tryz.prog 9 #[.agg #[.int .i64 k, .int .i64 s, .int .i64 l, .int .i64 b, .int .i64 c, .int .u64 m, .slice A n cp]] W (fun e w' => ∃ g : Nat, e = .returned (.slice (some ⟨g, 0, none⟩) 10 10) ∧ W.heap.size ≤ g ∧ Below W.heap.size W w' ∧ Blk w' g 3 #[.int .i64 v0, .int .i64 v1, .int .i64 v2, .int .i64 v3, .int .i64 v4, .int .i64 v5, .int .i64 v6, .int .i64 v7, .int .i64 v8, .int .i64 v9]) := by
  obtain ⟨s0, s1, l0, l1, b0, b1, c0, c1, hn⟩ := hS
  obtain ⟨hs, hk⟩ := hk
  rcases hk with rfl | ⟨rfl, hm⟩ | ⟨rfl, hl, hb1, hb2, hc⟩ | ⟨rfl, hl, hc⟩ | ⟨rfl, hl, hc, hm⟩
  · exact ⟨_, _, _, _, _, _, _, _, _, _, fun W h => ⟨sizes6_1 l b c m s A n cp W hs s1 hn (hb.below h) (hT.below h),
      spec9_zero 1 l b c m s 1 0 1 1 2 1 2 A n cp W s0 s1 rfl (by decide) (by decide) (by decide) (by decide) (by decide) (by decide) (fun V _ => circ22_1 s l b c m A n cp V)⟩⟩
  · exact ⟨_, _, _, _, _, _, _, _, _, _, fun W h => ⟨sizes6_2 l b c m _ _ s A n cp W hm0 hm rfl rfl hs s1 hn (hb.below h) (hT.below h),
      by
        have hbl := (bitLen_bounds m.toNat (by omega)).1
        exact spec9_zero 2 l b c m s _ 0 1 _ 1 (2 * Lib.bitLen m.toNat) _ A n cp W s0 s1 rfl (by omega) (by omega) (by decide) (by decide) (by omega) rfl (fun V _ => by simpa using circ22_2 s l b c m _ A n cp V hm0 hm rfl)⟩⟩
  · obtain ⟨ln, rfl⟩ := nat_of l l0
    obtain ⟨bn, rfl⟩ := nat_of b b0
    obtain ⟨cn, rfl⟩ := nat_of c c0
    have hcn : 1 ≤ cn ∧ cn ≤ 16 := by omega
    have hp : 1 ≤ ln * bn := Nat.mul_pos (by omega) (by omega)
    have hp2 : ln * bn ≤ 16 * 64 := Nat.mul_le_mul (by omega) (by omega)
    obtain ⟨mb, hmb⟩ : ∃ x, ln * bn = x := ⟨_, rfl⟩
    rw [hmb] at hp hp2
    obtain ⟨calls, hcalls⟩ : ∃ x, (mb + cn - 1) / cn = x := ⟨_, rfl⟩
    have hc1 : 1 ≤ calls := by rw [← hcalls, Nat.le_div_iff_mul_le (by omega)]; omega
    have hc2 : calls ≤ 1060 := by
      have := Nat.div_le_self (mb + cn - 1) cn
      omega
    have e : 2 * (32 * s) = 32 * s * 2 := by omega
    refine ⟨_, _, _, _, _, _, _, _, _, _, fun W h => ⟨sizes6_3 ln bn cn mb calls _ m s A n cp W (by omega) (by omega) (by omega) (by omega) (by omega) (by omega) hmb hcalls rfl hs s1 hn (hb.below h) (hT.below h), ?_⟩⟩
    have h9 := spec9_more 3 (ln : Int) (bn : Int) (cn : Int) m s (mb : Int) (calls : Int) (ln : Int) 1 (2 * (cn : Int)) calls _ A n cp W s0 s1 (by omega) (by omega) (by decide) (by decide) (by omega) (by omega) (by omega) rfl (fun V _ => by
      have h := circ22_3 s ln bn cn m A n cp V (by omega) (by omega) (by omega) (by omega)
      rw [← Int.natCast_mul, hmb, calls_eq mb cn hcn.1, hcalls] at h
      exact h)
    rw [e] at h9
    exact h9
  · obtain ⟨ln, rfl⟩ := nat_of l l0
    obtain ⟨cn, rfl⟩ := nat_of c c0
    have hcn : 1 ≤ cn ∧ cn ≤ 16 := by omega
    obtain ⟨calls, hcalls⟩ : ∃ x, (ln + cn - 1) / cn = x := ⟨_, rfl⟩
    have hc1 : 1 ≤ calls := by rw [← hcalls, Nat.le_div_iff_mul_le (by omega)]; omega
    have hc2 : calls ≤ 1060 := by
      have := Nat.div_le_self (ln + cn - 1) cn
      omega
    have e : 2 * (32 * s) = 32 * s * 2 := by omega
    refine ⟨_, _, _, _, _, _, _, _, _, _, fun W h => ⟨sizes6_4 ln cn calls _ b m s A n cp W (by omega) (by omega) (by omega) (by omega) hcalls rfl hs s1 hn (hb.below h) (hT.below h), ?_⟩⟩
    have h9 := spec9_more 4 (ln : Int) b (cn : Int) m s (ln : Int) (calls : Int) (ln : Int) 2 (2 * (cn : Int)) calls _ A n cp W s0 s1 (by omega) (by omega) (by decide) (by decide) (by omega) (by omega) (by omega) rfl (fun V _ => by
      have h := circ22_4 s ln cn b m A n cp V (by omega) (by omega) (by omega) (by omega)
      rw [calls_eq ln cn hcn.1, hcalls] at h
      exact h)
    rw [e] at h9
    exact h9
  · obtain ⟨ln, rfl⟩ := nat_of l l0
    obtain ⟨cn, rfl⟩ := nat_of c c0
    have hcn : 1 ≤ cn ∧ cn ≤ 16 := by omega
    obtain ⟨bl, hbl⟩ : ∃ x, Lib.bitLen m.toNat = x := ⟨_, rfl⟩
    have hbl2 : bl ≤ 5 := by rw [← hbl]; exact Lib.bitLen_le m.toNat 5 (by omega) (by omega)
    obtain ⟨calls, hcalls⟩ : ∃ x, ((ln + bl) + cn - 1) / cn = x := ⟨_, rfl⟩
    have hc1 : 1 ≤ calls := by rw [← hcalls, Nat.le_div_iff_mul_le (by omega)]; omega
    have hc2 : calls ≤ 1060 := by
      have := Nat.div_le_self ((ln + bl) + cn - 1) cn
      omega
    have e : 2 * (32 * s) = 32 * s * 2 := by omega
    refine ⟨_, _, _, _, _, _, _, _, _, _, fun W h => ⟨sizes6_5 ln cn bl calls _ b m s A n cp W (by omega) (by omega) hm0 hm (by omega) (by omega) hbl hcalls rfl hs s1 hn (hb.below h) (hT.below h), ?_⟩⟩
    have h9 := spec9_more 5 (ln : Int) b (cn : Int) m s ((ln : Int) + (bl : Int)) (calls : Int) (ln : Int) 2 (2 * (cn : Int)) calls _ A n cp W s0 s1 (by omega) (by omega) (by decide) (by decide) (by omega) (by omega) (by omega) rfl (fun V _ => by
      have h := circ22_5 s ln cn bl b m A n cp V (by omega) (by omega) (by omega) (by omega) hm0 hm hbl
      have hce := calls_eq (ln + bl) cn hcn.1
      rw [Int.natCast_add, hcalls] at hce
      rw [hce] at h
      exact h)
    rw [e] at h9
    exact h9
/-- laws.FnSizes returns true. -/
theorem law3 (k s l b c m : Int) (A : Option Addr) (n cp : Nat) (w : World) (hm0 : 0 ≤ m) (hE : ∀ i, i ≤ 9 → ErrAt w i) (hT : Tab w) (hb : Bytes w A n) :
    Calls Tryz.prog 3 #[.agg #[.int .i64 k, .int .i64 s, .int .i64 l, .int .i64 b, .int .i64 c, .int .u64 m, .slice A n cp]] w fun e w' => e = .returned (.bool true) ∧ Below w.heap.size w w' :=
  fn3 k s l b c m A n cp w
    (fun hS hk W h => sizes6_nil k l b c m s A n cp W
      (fun V hV => nil10 k s l b c m A n cp V hm0 (fun i hi => ((hE i hi).below h).below hV) hS hk)
      (fun V hV => nil11 k s l b c m A n cp V hm0 (fun i hi => ((hE i hi).below h).below hV) hS hk))
    (fun hS hk => lists k s l b c m A n cp w hm0 hT hb hS hk)
end Go.Proofs.YtkacahdogfchfaaGreatDoor
