/-
  The specification's side: fieldOf, power2, domain, polyLength. Conditions: at most 1,090 gadget calls.
-/
import Derived.Test.YtkacahdogfchfaaGreatDoorT
import Derived.Test.YtkacahdogfchfaaGreatDoorB
import Derived.Deep.DeepCutAuto
namespace Go.Proofs.YtkacahdogfchfaaGreatDoor
open Go.RowKit
/-- A field's six cells. -/
def Fld (e : Ending) : Prop := ∃ a b c d x y : Int, e = .returned (.agg #[.int .u64 a, .int .u64 b, .int .i64 c, .int .u64 d, .int .u64 x, .int .i64 y])
theorem size47 : (Tryz.prog.info? 47).map (·.size) = some 6 := by kernel_rfl
theorem field29 (k : Int) (w : World) : Calls Tryz.prog 29 #[.int .i64 k] w fun e w' => Fld e ∧ Below w.heap.size w w' := by
  go_enter Tryz.func29, Tryz.ntmps29
  go_wp2
  all_goals exact bodyPost_ret (results_cell_row Tryz.results29 _ _ w.heap.size 47 _ (0, 0) _ (by rfl) (Blk.new w 47 _) Tryz.underlying47 rfl (by rw [size47]; rfl)) rfl ⟨⟨_, _, _, _, _, _, rfl⟩, (Below.refl _ _).alloc (Nat.le_refl _) _⟩
theorem np2_tab : (List.range 1101).all (fun n => (List.range 12).all fun j => n == 0 || !(decide (n ≤ 2 ^ j) && (j == 0 || decide (2 ^ (j - 1) < n))) || np2 n == 2 ^ j) = true := by decide +kernel
theorem np2_at (n j : Nat) (h0 : 1 ≤ n) (h1 : n ≤ 1100) (hj : j ≤ 11) (h2 : n ≤ 2 ^ j) (h3 : j = 0 ∨ 2 ^ (j - 1) < n) : np2 n = 2 ^ j := by
  have k := List.all_eq_true.1 (List.all_eq_true.1 np2_tab n (List.mem_range.2 (by omega))) j (List.mem_range.2 (by omega))
  have hn : (n == 0) = false := by simp; omega
  have hd : (j == 0 || decide (2 ^ (j - 1) < n)) = true := by
    rcases h3 with h3 | h3
    · simp [h3]
    · simp [h3]
  rw [hn, hd, decide_eq_true h2] at k
  simpa using k
theorem pow42_0 (n : Nat) (h1 : 1 ≤ n) (h2 : n ≤ 1) (w : World) : Calls Tryz.prog 42 #[.int .i64 n] w fun e w' => e = .returned (.tuple #[.int .i64 1, .int .i64 0]) ∧ w = w' := by
  go_enter Tryz.func42, Tryz.ntmps42
  go_wp2
  refine wp_loop_rounds 1 ?_
  rw [rounds_succ]
  go_wp2
  go_ret2
  exact ⟨rfl, rfl⟩
theorem pow42_1 (n : Nat) (h1 : 1 < n) (h2 : n ≤ 2) (w : World) : Calls Tryz.prog 42 #[.int .i64 n] w fun e w' => e = .returned (.tuple #[.int .i64 2, .int .i64 1]) ∧ w = w' := by
  go_enter Tryz.func42, Tryz.ntmps42
  go_wp2
  refine wp_loop_rounds 2 ?_
  rw [rounds_succ]
  go_wp2
  rw [rounds_succ]
  go_wp2
  go_ret2
  exact ⟨rfl, rfl⟩
theorem pow42_2 (n : Nat) (h1 : 2 < n) (h2 : n ≤ 4) (w : World) : Calls Tryz.prog 42 #[.int .i64 n] w fun e w' => e = .returned (.tuple #[.int .i64 4, .int .i64 2]) ∧ w = w' := by
  go_enter Tryz.func42, Tryz.ntmps42
  go_wp2
  refine wp_loop_rounds 3 ?_
  rw [rounds_succ]
  go_wp2
  rw [rounds_succ]
  go_wp2
  rw [rounds_succ]
  go_wp2
  go_ret2
  exact ⟨rfl, rfl⟩
theorem pow42_3 (n : Nat) (h1 : 4 < n) (h2 : n ≤ 8) (w : World) : Calls Tryz.prog 42 #[.int .i64 n] w fun e w' => e = .returned (.tuple #[.int .i64 8, .int .i64 3]) ∧ w = w' := by
  go_enter Tryz.func42, Tryz.ntmps42
  go_wp2
  refine wp_loop_rounds 4 ?_
  rw [rounds_succ]
  go_wp2
  rw [rounds_succ]
  go_wp2
  rw [rounds_succ]
  go_wp2
  rw [rounds_succ]
  go_wp2
  go_ret2
  exact ⟨rfl, rfl⟩
theorem pow42_4 (n : Nat) (h1 : 8 < n) (h2 : n ≤ 16) (w : World) : Calls Tryz.prog 42 #[.int .i64 n] w fun e w' => e = .returned (.tuple #[.int .i64 16, .int .i64 4]) ∧ w = w' := by
  go_enter Tryz.func42, Tryz.ntmps42
  go_wp2
  refine wp_loop_rounds 5 ?_
  rw [rounds_succ]
  go_wp2
  rw [rounds_succ]
  go_wp2
  rw [rounds_succ]
  go_wp2
  rw [rounds_succ]
  go_wp2
  rw [rounds_succ]
  go_wp2
  go_ret2
  exact ⟨rfl, rfl⟩
theorem pow42_5 (n : Nat) (h1 : 16 < n) (h2 : n ≤ 32) (w : World) : Calls Tryz.prog 42 #[.int .i64 n] w fun e w' => e = .returned (.tuple #[.int .i64 32, .int .i64 5]) ∧ w = w' := by
  go_enter Tryz.func42, Tryz.ntmps42
  go_wp2
  refine wp_loop_rounds 6 ?_
  rw [rounds_succ]
  go_wp2
  rw [rounds_succ]
  go_wp2
  rw [rounds_succ]
  go_wp2
  rw [rounds_succ]
  go_wp2
  rw [rounds_succ]
  go_wp2
  rw [rounds_succ]
  go_wp2
  go_ret2
  exact ⟨rfl, rfl⟩
theorem pow42_6 (n : Nat) (h1 : 32 < n) (h2 : n ≤ 64) (w : World) : Calls Tryz.prog 42 #[.int .i64 n] w fun e w' => e = .returned (.tuple #[.int .i64 64, .int .i64 6]) ∧ w = w' := by
  go_enter Tryz.func42, Tryz.ntmps42
  go_wp2
  refine wp_loop_rounds 7 ?_
  rw [rounds_succ]
  go_wp2
  rw [rounds_succ]
  go_wp2
  rw [rounds_succ]
  go_wp2
  rw [rounds_succ]
  go_wp2
  rw [rounds_succ]
  go_wp2
  rw [rounds_succ]
  go_wp2
  rw [rounds_succ]
  go_wp2
  go_ret2
  exact ⟨rfl, rfl⟩
theorem pow42_7 (n : Nat) (h1 : 64 < n) (h2 : n ≤ 128) (w : World) : Calls Tryz.prog 42 #[.int .i64 n] w fun e w' => e = .returned (.tuple #[.int .i64 128, .int .i64 7]) ∧ w = w' := by
  go_enter Tryz.func42, Tryz.ntmps42
  go_wp2
  refine wp_loop_rounds 8 ?_
  rw [rounds_succ]
  go_wp2
  rw [rounds_succ]
  go_wp2
  rw [rounds_succ]
  go_wp2
  rw [rounds_succ]
  go_wp2
  rw [rounds_succ]
  go_wp2
  rw [rounds_succ]
  go_wp2
  rw [rounds_succ]
  go_wp2
  rw [rounds_succ]
  go_wp2
  go_ret2
  exact ⟨rfl, rfl⟩
theorem pow42_8 (n : Nat) (h1 : 128 < n) (h2 : n ≤ 256) (w : World) : Calls Tryz.prog 42 #[.int .i64 n] w fun e w' => e = .returned (.tuple #[.int .i64 256, .int .i64 8]) ∧ w = w' := by
  go_enter Tryz.func42, Tryz.ntmps42
  go_wp2
  refine wp_loop_rounds 9 ?_
  rw [rounds_succ]
  go_wp2
  rw [rounds_succ]
  go_wp2
  rw [rounds_succ]
  go_wp2
  rw [rounds_succ]
  go_wp2
  rw [rounds_succ]
  go_wp2
  rw [rounds_succ]
  go_wp2
  rw [rounds_succ]
  go_wp2
  rw [rounds_succ]
  go_wp2
  rw [rounds_succ]
  go_wp2
  go_ret2
  exact ⟨rfl, rfl⟩
theorem pow42_9 (n : Nat) (h1 : 256 < n) (h2 : n ≤ 512) (w : World) : Calls Tryz.prog 42 #[.int .i64 n] w fun e w' => e = .returned (.tuple #[.int .i64 512, .int .i64 9]) ∧ w = w' := by
  go_enter Tryz.func42, Tryz.ntmps42
  go_wp2
  refine wp_loop_rounds 10 ?_
  rw [rounds_succ]
  go_wp2
  rw [rounds_succ]
  go_wp2
  rw [rounds_succ]
  go_wp2
  rw [rounds_succ]
  go_wp2
  rw [rounds_succ]
  go_wp2
  rw [rounds_succ]
  go_wp2
  rw [rounds_succ]
  go_wp2
  rw [rounds_succ]
  go_wp2
  rw [rounds_succ]
  go_wp2
  rw [rounds_succ]
  go_wp2
  go_ret2
  exact ⟨rfl, rfl⟩
theorem pow42_10 (n : Nat) (h1 : 512 < n) (h2 : n ≤ 1024) (w : World) : Calls Tryz.prog 42 #[.int .i64 n] w fun e w' => e = .returned (.tuple #[.int .i64 1024, .int .i64 10]) ∧ w = w' := by
  go_enter Tryz.func42, Tryz.ntmps42
  go_wp2
  refine wp_loop_rounds 11 ?_
  rw [rounds_succ]
  go_wp2
  rw [rounds_succ]
  go_wp2
  rw [rounds_succ]
  go_wp2
  rw [rounds_succ]
  go_wp2
  rw [rounds_succ]
  go_wp2
  rw [rounds_succ]
  go_wp2
  rw [rounds_succ]
  go_wp2
  rw [rounds_succ]
  go_wp2
  rw [rounds_succ]
  go_wp2
  rw [rounds_succ]
  go_wp2
  rw [rounds_succ]
  go_wp2
  go_ret2
  exact ⟨rfl, rfl⟩
theorem pow42_11 (n : Nat) (h1 : 1024 < n) (h2 : n ≤ 2048) (w : World) : Calls Tryz.prog 42 #[.int .i64 n] w fun e w' => e = .returned (.tuple #[.int .i64 2048, .int .i64 11]) ∧ w = w' := by
  go_enter Tryz.func42, Tryz.ntmps42
  go_wp2
  refine wp_loop_rounds 12 ?_
  rw [rounds_succ]
  go_wp2
  rw [rounds_succ]
  go_wp2
  rw [rounds_succ]
  go_wp2
  rw [rounds_succ]
  go_wp2
  rw [rounds_succ]
  go_wp2
  rw [rounds_succ]
  go_wp2
  rw [rounds_succ]
  go_wp2
  rw [rounds_succ]
  go_wp2
  rw [rounds_succ]
  go_wp2
  rw [rounds_succ]
  go_wp2
  rw [rounds_succ]
  go_wp2
  rw [rounds_succ]
  go_wp2
  go_ret2
  exact ⟨rfl, rfl⟩
theorem pow42 (n q : Nat) (h0 : 1 ≤ n) (h1 : n ≤ 1100) (hq : np2 n = q) (w : World) : Calls Tryz.prog 42 #[.int .i64 n] w fun e w' => (∃ k : Int, e = .returned (.tuple #[.int .i64 q, .int .i64 k])) ∧ w = w' := by
  rcases Nat.lt_or_ge 1 n with g0 | g0
  rotate_left
  · have e : q = 1 := hq.symm.trans (np2_at n 0 h0 h1 (by omega) (by omega) (.inl rfl))
    subst e
    exact (pow42_0 n (by omega) g0 w).mono fun _ _ h => ⟨⟨_, h.1⟩, h.2⟩
  rcases Nat.lt_or_ge 2 n with g1 | g1
  rotate_left
  · have e : q = 2 := hq.symm.trans (np2_at n 1 h0 h1 (by omega) (by omega) (.inr (by omega)))
    subst e
    exact (pow42_1 n (by omega) g1 w).mono fun _ _ h => ⟨⟨_, h.1⟩, h.2⟩
  rcases Nat.lt_or_ge 4 n with g2 | g2
  rotate_left
  · have e : q = 4 := hq.symm.trans (np2_at n 2 h0 h1 (by omega) (by omega) (.inr (by omega)))
    subst e
    exact (pow42_2 n (by omega) g2 w).mono fun _ _ h => ⟨⟨_, h.1⟩, h.2⟩
  rcases Nat.lt_or_ge 8 n with g3 | g3
  rotate_left
  · have e : q = 8 := hq.symm.trans (np2_at n 3 h0 h1 (by omega) (by omega) (.inr (by omega)))
    subst e
    exact (pow42_3 n (by omega) g3 w).mono fun _ _ h => ⟨⟨_, h.1⟩, h.2⟩
  rcases Nat.lt_or_ge 16 n with g4 | g4
  rotate_left
  · have e : q = 16 := hq.symm.trans (np2_at n 4 h0 h1 (by omega) (by omega) (.inr (by omega)))
    subst e
    exact (pow42_4 n (by omega) g4 w).mono fun _ _ h => ⟨⟨_, h.1⟩, h.2⟩
  rcases Nat.lt_or_ge 32 n with g5 | g5
  rotate_left
  · have e : q = 32 := hq.symm.trans (np2_at n 5 h0 h1 (by omega) (by omega) (.inr (by omega)))
    subst e
    exact (pow42_5 n (by omega) g5 w).mono fun _ _ h => ⟨⟨_, h.1⟩, h.2⟩
  rcases Nat.lt_or_ge 64 n with g6 | g6
  rotate_left
  · have e : q = 64 := hq.symm.trans (np2_at n 6 h0 h1 (by omega) (by omega) (.inr (by omega)))
    subst e
    exact (pow42_6 n (by omega) g6 w).mono fun _ _ h => ⟨⟨_, h.1⟩, h.2⟩
  rcases Nat.lt_or_ge 128 n with g7 | g7
  rotate_left
  · have e : q = 128 := hq.symm.trans (np2_at n 7 h0 h1 (by omega) (by omega) (.inr (by omega)))
    subst e
    exact (pow42_7 n (by omega) g7 w).mono fun _ _ h => ⟨⟨_, h.1⟩, h.2⟩
  rcases Nat.lt_or_ge 256 n with g8 | g8
  rotate_left
  · have e : q = 256 := hq.symm.trans (np2_at n 8 h0 h1 (by omega) (by omega) (.inr (by omega)))
    subst e
    exact (pow42_8 n (by omega) g8 w).mono fun _ _ h => ⟨⟨_, h.1⟩, h.2⟩
  rcases Nat.lt_or_ge 512 n with g9 | g9
  rotate_left
  · have e : q = 512 := hq.symm.trans (np2_at n 9 h0 h1 (by omega) (by omega) (.inr (by omega)))
    subst e
    exact (pow42_9 n (by omega) g9 w).mono fun _ _ h => ⟨⟨_, h.1⟩, h.2⟩
  rcases Nat.lt_or_ge 1024 n with g10 | g10
  rotate_left
  · have e : q = 1024 := hq.symm.trans (np2_at n 10 h0 h1 (by omega) (by omega) (.inr (by omega)))
    subst e
    exact (pow42_10 n (by omega) g10 w).mono fun _ _ h => ⟨⟨_, h.1⟩, h.2⟩
  have e : q = 2048 := hq.symm.trans (np2_at n 11 h0 h1 (by omega) (by omega) (.inr (by omega)))
  subst e
  exact (pow42_11 n (by omega) (by omega) w).mono fun _ _ h => ⟨⟨_, h.1⟩, h.2⟩
theorem size49 : (Tryz.prog.info? 49).map (·.size) = some 21 := by kernel_rfl
theorem dom31 (cs : Array Value) (calls q : Nat) (h18 : cs[18]? = some (.int .i64 calls)) (hc : calls ≤ 1090) (hq : np2 (1 + calls) = q) (w : World) : Calls Tryz.prog 31 #[.agg cs] w
    fun e w' => (∃ k : Int, e = .returned (.tuple #[.int .i64 q, .int .i64 k])) ∧ Below w.heap.size w w' := by
  have he : Hid ((1 + (calls : Int)) = ((1 + calls : Nat) : Int)) := hide (by omega)
  have hq := hide hq
  have c18 : (w.alloc (.cells cs 49)).cell? ⟨w.heap.size, 18, none⟩ = some (.int .i64 calls) := ((Blk.new w 49 cs).cell 18).trans h18
  go_enter Tryz.func31, Tryz.ntmps31
  go_wp2_with fail
  rw [he.out]
  refine (pow42 (1 + calls) q (by omega) (by omega) hq.out _).mono ?_
  rintro e w' ⟨⟨k, rfl⟩, rfl⟩
  go_wp2
  go_ret2
  exact ⟨⟨_, rfl⟩, (Below.refl _ _).alloc (Nat.le_refl _) _⟩
theorem poly23 (cs : Array Value) (calls q : Nat) (hs : cs.size = 21) (h18 : cs[18]? = some (.int .i64 calls)) (hc : calls ≤ 1090) (hq : np2 (1 + calls) = q) (w : World) : Calls Tryz.prog 23 #[.agg cs] w
    fun e w' => e = .returned (.int .i64 (1 + 2 * ((q : Int) - 1))) ∧ Below w.heap.size w w' := by
  have hN : 1 ≤ q ∧ q ≤ 2048 := by
    have := np2_bound (1 + calls) (by omega) (by omega)
    omega
  have H := hide (fun W => dom31 cs calls q h18 hc hq W)
  have HB := hide (Blk.new w 49 cs)
  have hb0 : Below w.heap.size w (w.alloc (.cells cs 49)) := (Below.refl _ _).alloc (Nat.le_refl _) _
  clear hq
  go_enter Tryz.func23, Tryz.ntmps23
  go_upto_region 1 with fail
  generalize w.alloc (.cells cs 49) = W at *
  refine wp_region_lit ?_
  refine wpList_load_row rfl 49 _ rfl w.heap.size (by rfl) 49 cs (0, 0) _ HB.out Tryz.underlying49 rfl (by rw [size49, hs]) ?_
  go_wp2_with fail
  refine (H.out _).mono ?_
  rintro e w' ⟨⟨k, rfl⟩, hbl⟩
  have HF := hide (hb0.trans (hbl.mono hb0.size))
  clear hbl hb0
  go_wp2
  go_ret
  exact ⟨rfl, HF.out⟩
end Go.Proofs.YtkacahdogfchfaaGreatDoor
