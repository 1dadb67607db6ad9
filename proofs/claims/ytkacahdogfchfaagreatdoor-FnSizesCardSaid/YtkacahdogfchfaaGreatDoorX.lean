/-
  NewXof of both fields, and what it calls: AppendLE16, AppendBE32, AppendBE16, NewTurboShake128. Conditions: a context of at most 4096 bytes that can be read.
-/
import Derived.Test.YtkacahdogfchfaaGreatDoorProg
import Derived.Test.YtkacahdogfchfaaGreatDoorKit
import Derived.WalkKit
import Derived.WalkLawsBesides
import Derived.WalkSpells
import Derived.Outline
namespace Go.Proofs.YtkacahdogfchfaaGreatDoor
open Go.RowKit
theorem info5 : (Tryz.prog.info? 5).map (fun i => (i.zero, i.size, i.bytes)) = some (some (.int .u8 0), 1, 1) := by kernel_rfl
theorem le16 (w : World) (g n cap : Nat) (v : Int) (hd : Hd w g cap) (hn : n + 2 ≤ cap) :
    Calls Tryz.prog 54 #[.slice (some ⟨g, 0, none⟩) n cap, .int .u16 v] w fun e w' => e = .returned (.slice (some ⟨g, 0, none⟩) (n + 2) cap) ∧ Hd w' g cap ∧ w.grownBy w' (some g) := by
  obtain ⟨i5, hi5, hz1, hz2, hz3⟩ := info_parts info5
  go_enter Tryz.func54, Tryz.ntmps54
  go_wp2_with (at_builtin; refine wpList_app rfl _ _ _ rfl i5 Tryz.underlying23 hi5 hz2 g n cap (hd.alloc _) _ _ _ (by rfl) (by rfl) ?hb hn ?_)
  case hb => exact bytes_new _ _ (by simp [Ones, Value.oneCell'])
  intro w' hd' hg'
  have hg := grown_of_alloc hg'
  clear hg'
  go_wp2
  go_ret
  exact ⟨rfl, hd', hg⟩
theorem be16 (w : World) (g n cap : Nat) (v : Int) (hd : Hd w g cap) (hn : n + 2 ≤ cap) :
    Calls Tryz.prog 56 #[.slice (some ⟨g, 0, none⟩) n cap, .int .u16 v] w fun e w' => e = .returned (.slice (some ⟨g, 0, none⟩) (n + 2) cap) ∧ Hd w' g cap ∧ w.grownBy w' (some g) := by
  obtain ⟨i5, hi5, hz1, hz2, hz3⟩ := info_parts info5
  go_enter Tryz.func56, Tryz.ntmps56
  go_wp2_with (at_builtin; refine wpList_app rfl _ _ _ rfl i5 Tryz.underlying23 hi5 hz2 g n cap (hd.alloc _) _ _ _ (by rfl) (by rfl) ?hb hn ?_)
  case hb => exact bytes_new _ _ (by simp [Ones, Value.oneCell'])
  intro w' hd' hg'
  have hg := grown_of_alloc hg'
  clear hg'
  go_wp2
  go_ret
  exact ⟨rfl, hd', hg⟩
theorem be32 (w : World) (g n cap : Nat) (v : Int) (hd : Hd w g cap) (hn : n + 4 ≤ cap) :
    Calls Tryz.prog 55 #[.slice (some ⟨g, 0, none⟩) n cap, .int .u32 v] w fun e w' => e = .returned (.slice (some ⟨g, 0, none⟩) (n + 4) cap) ∧ Hd w' g cap ∧ w.grownBy w' (some g) := by
  obtain ⟨i5, hi5, hz1, hz2, hz3⟩ := info_parts info5
  go_enter Tryz.func55, Tryz.ntmps55
  go_wp2_with (at_builtin; refine wpList_app rfl _ _ _ rfl i5 Tryz.underlying23 hi5 hz2 g n cap (hd.alloc _) _ _ _ (by rfl) (by rfl) ?hb hn ?_)
  case hb => exact bytes_new _ _ (by simp [Ones, Value.oneCell'])
  intro w' hd' hg'
  have hg := grown_of_alloc hg'
  clear hg'
  go_wp2
  go_ret
  exact ⟨rfl, hd', hg⟩
theorem size81 : (Tryz.prog.info? 81).map (·.size) = some 200 := by kernel_rfl
theorem zones81 : Ones Tryz.zeroCells81 := by unfold Ones; kernel_rfl
theorem state57 (w : World) : Calls Tryz.prog 57 #[.int .u8 1] w fun e w' => ∃ cs : Array Value, e = .returned (.agg cs) ∧ cs.size = 200 ∧ Ones cs ∧ Below w.heap.size w w' := by
  go_enter Tryz.func57, Tryz.ntmps57
  go_wp2_with (refine wpList_store_row rfl 81 _ _ rfl _ _ (by rfl) (by rfl) 81 _ (heap_alloc_new _ _) ?h1 ?h2 ?h3 ?_)
  case h1 => simp [size81]
  case h2 => simp
  case h3 => exact ((zones81.set_ 25 rfl).set_ 28 rfl).set_ 199 rfl
  go_wp2
  exact bodyPost_ret (results_cell_row rfl _ _ w.heap.size 81 _ (0, 0) _ (by rfl) (setRow_heap _ _ _ _ _ _ (heap_alloc_new _ _)) Tryz.underlying81 rfl (by simp [size81])) rfl
    ⟨_, rfl, by simp, ((zones81.set_ 25 rfl).set_ 28 rfl).set_ 199 rfl, below_setRow ((Below.refl _ _).alloc (Nat.le_refl _) _) (Nat.le_refl _) _⟩
theorem run_mk (n : Nat) (hn : n ≤ 4096) (W : World) : (Instr.makeSlice 23 (.int .i64 0) (.int .u64 (2 + (8 + (n : Int)) + 1))).run Tryz.prog W = .ok (.slice (some ⟨W.heap.size, 0, none⟩) 0 (n + 11)) (W.alloc (.cells (madeCells #[.int .u8 0] (n + 11)) 5)) := by
  obtain ⟨i5, hi5, hz1, hz2, hz3⟩ := info_parts info5
  have h := run_make (P := Tryz.prog) W 23 5 i5 _ Tryz.underlying23 hi5 hz1 .i64 .u64 0 (2 + (8 + (n : Int)) + 1) (by omega) (by omega) (by rw [hz3]; omega) (by omega)
  rw [h, hz2]
  have e : (2 + (8 + (n : Int)) + 1).toNat = n + 11 := by omega
  rw [e]
  simp [Value.cells]
theorem arr266 (W : World) (B c : Nat) : (Instr.arrayAt 266 (.slice (some ⟨B, 8, none⟩) 2 c)).run Tryz.prog W = .ok (.pointer (some ⟨B, 8, none⟩)) W := by kernel_rfl
theorem size83 : (Tryz.prog.info? 83).map (·.size) = some 202 := by kernel_rfl
theorem zones83 : Ones Tryz.zeroCells83 := by unfold Ones; kernel_rfl
set_option maxRecDepth 100000 in
set_option maxHeartbeats 1000000 in
theorem xof43 (w : World) (id : Int) (A : Option Addr) (n c : Nat) (hn : n ≤ 4096) (hb : Bytes w A n) : Calls Tryz.prog 43 #[.int .u32 id, .slice A n c] w fun e w' => ∃ cs : Array Value, e = .returned (.tuple #[.agg cs, .nilIface]) ∧ cs.size = 202 ∧ Ones cs ∧ Below w.heap.size w w' := by
  have hmk := run_mk n hn
  have harr := arr266
  obtain ⟨i5, hi5, hz1, hz2, hz3⟩ := info_parts info5
  go_enter Tryz.func43, Tryz.ntmps43
  go_wp2_with fail
  refine (le16 _ (w.heap.size + 1) 0 (n + 11) _ ?hd0 (by omega)).mono ?_
  case hd0 => exact ⟨_, by simpa using Blk.new (w.alloc _) 5 _, size_madeCells _ _⟩
  rintro e w1 ⟨rfl, hd1, hg1⟩
  have X1 : XS w w1 83 w.heap.size (w.heap.size + 1) (n + 11) := by
    refine XS.grown ⟨((Below.refl _ _).alloc (Nat.le_refl _) _).alloc (by simp) _, Nat.le_refl _, by omega, by omega, ⟨_, (Blk.new w 83 _).alloc _, ?_, ?_⟩, ⟨_, by simpa using Blk.new (w.alloc _) 5 _, size_madeCells _ _⟩⟩ hg1 hd1
    · simp
    · exact zones83.set_ 1 rfl
  obtain ⟨u1, hu1⟩ := X1.cell1 1 (by omega)
  have hf1 := X1.frozen 1
  clear hd1 hg1
  go_wp2_with (at_builtin; refine wpList_app rfl _ _ _ rfl i5 Tryz.underlying23 hi5 hz2 (w.heap.size + 1) 2 (n + 11) ((X1.set_ 1 rfl).alloc _).hd _ 1 _ (by rfl) (by rfl) ?hb (by omega) ?_)
  case hb => exact bytes_one _ _ _ _ (by simp)
  intro w2 hd2 hg2
  have X2 := ((X1.set_ 1 rfl).alloc _).grown hg2 hd2
  obtain ⟨u2, hu2⟩ := X2.cell1 1 (by omega)
  have hf2 := X2.frozen 1
  clear hd2 hg2 X1 hu1 hf1
  go_wp2_with (at_builtin; refine wpList_app rfl _ _ _ rfl i5 Tryz.underlying23 hi5 hz2 (w.heap.size + 1) 3 (n + 11) ((X2.set_ 1 rfl).alloc _).hd _ 1 _ (by rfl) (by rfl) ?hb (by omega) ?_)
  case hb => exact bytes_one _ _ _ _ (by simp)
  intro w3 hd3 hg3
  have X3 := ((X2.set_ 1 rfl).alloc _).grown hg3 hd3
  obtain ⟨u3, hu3⟩ := X3.cell1 1 (by omega)
  have hf3 := X3.frozen 1
  clear hd3 hg3 X2 hu2 hf2
  go_wp2_with fail
  refine (be32 _ (w.heap.size + 1) 4 (n + 11) _ (X3.set_ 1 rfl).hd (by omega)).mono ?_
  rintro e w4 ⟨rfl, hd4, hg4⟩
  have X4 := (X3.set_ 1 rfl).grown hg4 hd4
  obtain ⟨u4, hu4⟩ := X4.cell1 1 (by omega)
  have hf4 := X4.frozen 1
  clear hd4 hg4 X3 hu3 hf3
  go_wp2_with fail
  refine (be16 _ (w.heap.size + 1) 8 (n + 11) _ (X4.set_ 1 rfl).hd (by omega)).mono ?_
  rintro e w5 ⟨rfl, hd5, hg5⟩
  have X5 := (X4.set_ 1 rfl).grown hg5 hd5
  obtain ⟨u5, hu5⟩ := X5.cell1 1 (by omega)
  have hf5 := X5.frozen 1
  clear hd5 hg5 X4 hu4 hf4
  go_wp2_with (at_builtin; refine wpList_app rfl _ _ _ rfl i5 Tryz.underlying23 hi5 hz2 (w.heap.size + 1) 10 (n + 11) (X5.set_ 1 rfl).hd _ n _ (by rfl) (by rfl) ?hb (by omega) ?_)
  case hb => exact hb.below (X5.set_ 1 rfl).below
  intro w6 hd6 hg6
  have X6 := (X5.set_ 1 rfl).grown hg6 hd6
  obtain ⟨u6, hu6⟩ := X6.cell1 1 (by omega)
  have hf6 := X6.frozen 1
  clear hd6 hg6 X5 hu5 hf5
  go_wp2_with (at_builtin; refine wpList_app rfl _ _ _ rfl i5 Tryz.underlying23 hi5 hz2 (w.heap.size + 1) (10 + n) (n + 11) ((X6.set_ 1 rfl).alloc _).hd _ 1 _ (by rfl) (by rfl) ?hb (by omega) ?_)
  case hb => exact bytes_one _ _ _ _ (by simp)
  intro w7 hd7 hg7
  have X7 := ((X6.set_ 1 rfl).alloc _).grown hg7 hd7
  obtain ⟨u7, hu7⟩ := X7.cell1 1 (by omega)
  have hf7 := X7.frozen 1
  clear hd7 hg7 X6 hu6 hf6
  obtain ⟨v7, hv7⟩ := X7.cell1 0 (by omega)
  have hz7 := X7.frozen 0
  go_wp2_with fail
  refine (state57 _).mono ?_
  rintro e w8 ⟨cs8, rfl, hs8, ho8, hb8⟩
  have X8 := ((X7.set_ 1 rfl).set_ 0 rfl).more hb8
  clear hb8 X7 hu7 hf7 hv7 hz7
  obtain ⟨ds8, hd8, hs8', ho8'⟩ := X8.blk
  have hst8 := run_put_mid (P := Tryz.prog) hd8 2 cs8 (by omega) ho8
  have X9 := X8.setCells 2 cs8 ho8
  generalize w8.setCells w.heap.size 2 cs8.toList = w9 at *
  clear X8 hd8 hs8' ho8'
  obtain ⟨ds, hd1, hd2, hd3⟩ := X9.blk
  have hb9 := X9.below
  clear X9
  have hst9 := run_put_row (P := Tryz.prog) hd1 ds rfl hd3
  have HD1 := hide hd1
  clear hd1
  go_wp2_with fail
  refine wp_load_row 83 _ rfl w.heap.size (by rfl) 83 ds (0, 0) _ HD1.out Tryz.underlying83 rfl (by rw [size83, hd2]) ?_
  go_wp2
  exact bodyPost_ret (results_cell_tmp Tryz.results43 _ _ w.heap.size 83 ds _ (by rfl) (HD1.out.setRow ds) Tryz.underlying83 rfl (by rw [size83, hd2])) rfl ⟨_, rfl, hd2, hd3, below_setRow hb9 (Nat.le_refl _) _⟩
theorem size109 : (Tryz.prog.info? 109).map (·.size) = some 202 := by kernel_rfl
theorem zones109 : Ones Tryz.zeroCells109 := by unfold Ones; kernel_rfl
set_option maxRecDepth 100000 in
set_option maxHeartbeats 1000000 in
theorem xof48 (w : World) (id : Int) (A : Option Addr) (n c : Nat) (hn : n ≤ 4096) (hb : Bytes w A n) : Calls Tryz.prog 48 #[.int .u32 id, .slice A n c] w fun e w' => ∃ cs : Array Value, e = .returned (.tuple #[.agg cs, .nilIface]) ∧ cs.size = 202 ∧ Ones cs ∧ Below w.heap.size w w' := by
  have hmk := run_mk n hn
  have harr := arr266
  obtain ⟨i5, hi5, hz1, hz2, hz3⟩ := info_parts info5
  go_enter Tryz.func48, Tryz.ntmps48
  go_wp2_with fail
  refine (le16 _ (w.heap.size + 1) 0 (n + 11) _ ?hd0 (by omega)).mono ?_
  case hd0 => exact ⟨_, by simpa using Blk.new (w.alloc _) 5 _, size_madeCells _ _⟩
  rintro e w1 ⟨rfl, hd1, hg1⟩
  have X1 : XS w w1 109 w.heap.size (w.heap.size + 1) (n + 11) := by
    refine XS.grown ⟨((Below.refl _ _).alloc (Nat.le_refl _) _).alloc (by simp) _, Nat.le_refl _, by omega, by omega, ⟨_, (Blk.new w 109 _).alloc _, ?_, ?_⟩, ⟨_, by simpa using Blk.new (w.alloc _) 5 _, size_madeCells _ _⟩⟩ hg1 hd1
    · simp
    · exact zones109.set_ 1 rfl
  obtain ⟨u1, hu1⟩ := X1.cell1 1 (by omega)
  have hf1 := X1.frozen 1
  clear hd1 hg1
  go_wp2_with (at_builtin; refine wpList_app rfl _ _ _ rfl i5 Tryz.underlying23 hi5 hz2 (w.heap.size + 1) 2 (n + 11) ((X1.set_ 1 rfl).alloc _).hd _ 1 _ (by rfl) (by rfl) ?hb (by omega) ?_)
  case hb => exact bytes_one _ _ _ _ (by simp)
  intro w2 hd2 hg2
  have X2 := ((X1.set_ 1 rfl).alloc _).grown hg2 hd2
  obtain ⟨u2, hu2⟩ := X2.cell1 1 (by omega)
  have hf2 := X2.frozen 1
  clear hd2 hg2 X1 hu1 hf1
  go_wp2_with (at_builtin; refine wpList_app rfl _ _ _ rfl i5 Tryz.underlying23 hi5 hz2 (w.heap.size + 1) 3 (n + 11) ((X2.set_ 1 rfl).alloc _).hd _ 1 _ (by rfl) (by rfl) ?hb (by omega) ?_)
  case hb => exact bytes_one _ _ _ _ (by simp)
  intro w3 hd3 hg3
  have X3 := ((X2.set_ 1 rfl).alloc _).grown hg3 hd3
  obtain ⟨u3, hu3⟩ := X3.cell1 1 (by omega)
  have hf3 := X3.frozen 1
  clear hd3 hg3 X2 hu2 hf2
  go_wp2_with fail
  refine (be32 _ (w.heap.size + 1) 4 (n + 11) _ (X3.set_ 1 rfl).hd (by omega)).mono ?_
  rintro e w4 ⟨rfl, hd4, hg4⟩
  have X4 := (X3.set_ 1 rfl).grown hg4 hd4
  obtain ⟨u4, hu4⟩ := X4.cell1 1 (by omega)
  have hf4 := X4.frozen 1
  clear hd4 hg4 X3 hu3 hf3
  go_wp2_with fail
  refine (be16 _ (w.heap.size + 1) 8 (n + 11) _ (X4.set_ 1 rfl).hd (by omega)).mono ?_
  rintro e w5 ⟨rfl, hd5, hg5⟩
  have X5 := (X4.set_ 1 rfl).grown hg5 hd5
  obtain ⟨u5, hu5⟩ := X5.cell1 1 (by omega)
  have hf5 := X5.frozen 1
  clear hd5 hg5 X4 hu4 hf4
  go_wp2_with (at_builtin; refine wpList_app rfl _ _ _ rfl i5 Tryz.underlying23 hi5 hz2 (w.heap.size + 1) 10 (n + 11) (X5.set_ 1 rfl).hd _ n _ (by rfl) (by rfl) ?hb (by omega) ?_)
  case hb => exact hb.below (X5.set_ 1 rfl).below
  intro w6 hd6 hg6
  have X6 := (X5.set_ 1 rfl).grown hg6 hd6
  obtain ⟨u6, hu6⟩ := X6.cell1 1 (by omega)
  have hf6 := X6.frozen 1
  clear hd6 hg6 X5 hu5 hf5
  go_wp2_with (at_builtin; refine wpList_app rfl _ _ _ rfl i5 Tryz.underlying23 hi5 hz2 (w.heap.size + 1) (10 + n) (n + 11) ((X6.set_ 1 rfl).alloc _).hd _ 1 _ (by rfl) (by rfl) ?hb (by omega) ?_)
  case hb => exact bytes_one _ _ _ _ (by simp)
  intro w7 hd7 hg7
  have X7 := ((X6.set_ 1 rfl).alloc _).grown hg7 hd7
  obtain ⟨u7, hu7⟩ := X7.cell1 1 (by omega)
  have hf7 := X7.frozen 1
  clear hd7 hg7 X6 hu6 hf6
  obtain ⟨v7, hv7⟩ := X7.cell1 0 (by omega)
  have hz7 := X7.frozen 0
  go_wp2_with fail
  refine (state57 _).mono ?_
  rintro e w8 ⟨cs8, rfl, hs8, ho8, hb8⟩
  have X8 := ((X7.set_ 1 rfl).set_ 0 rfl).more hb8
  clear hb8 X7 hu7 hf7 hv7 hz7
  obtain ⟨ds8, hd8, hs8', ho8'⟩ := X8.blk
  have hst8 := run_put_mid (P := Tryz.prog) hd8 2 cs8 (by omega) ho8
  have X9 := X8.setCells 2 cs8 ho8
  generalize w8.setCells w.heap.size 2 cs8.toList = w9 at *
  clear X8 hd8 hs8' ho8'
  obtain ⟨ds, hd1, hd2, hd3⟩ := X9.blk
  have hb9 := X9.below
  clear X9
  have hst9 := run_put_row (P := Tryz.prog) hd1 ds rfl hd3
  have HD1 := hide hd1
  clear hd1
  go_wp2_with fail
  refine wp_load_row 109 _ rfl w.heap.size (by rfl) 109 ds (0, 0) _ HD1.out Tryz.underlying109 rfl (by rw [size109, hd2]) ?_
  go_wp2
  exact bodyPost_ret (results_cell_tmp Tryz.results48 _ _ w.heap.size 109 ds _ (by rfl) (HD1.out.setRow ds) Tryz.underlying109 rfl (by rw [size109, hd2])) rfl ⟨_, rfl, hd2, hd3, below_setRow hb9 (Nat.le_refl _) _⟩
end Go.Proofs.YtkacahdogfchfaaGreatDoor
