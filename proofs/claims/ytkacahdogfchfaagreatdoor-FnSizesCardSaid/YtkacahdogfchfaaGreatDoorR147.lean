/-
  Params at the histogram: the ten lengths, read off the vote's two blocks. Conditions: what those blocks hold; the table of math/bits is laid.
-/
import Derived.Test.YtkacahdogfchfaaGreatDoorKit4
namespace Go.Proofs.YtkacahdogfchfaaGreatDoor
open Go.RowKit
theorem m121j (g : Nat) (w : World) (f : Nat) : (method (f + 1) 121 (.pointer (some ⟨g, 0, none⟩)) "JointRandLength").run Tryz.prog w = (do let v ← loadVar 148 ⟨g, 3, none⟩; pure (156, v) : Sem (FuncId × Value)).run Tryz.prog w := by kernel_rfl
theorem m121m (g : Nat) (w : World) (f : Nat) : (method (f + 1) 121 (.pointer (some ⟨g, 0, none⟩)) "MeasurementLength").run Tryz.prog w = (do let v ← loadVar 148 ⟨g, 3, none⟩; pure (157, v) : Sem (FuncId × Value)).run Tryz.prog w := by kernel_rfl
theorem m121o (g : Nat) (w : World) (f : Nat) : (method (f + 1) 121 (.pointer (some ⟨g, 0, none⟩)) "OutputLength").run Tryz.prog w = (do let v ← loadVar 148 ⟨g, 3, none⟩; pure (158, v) : Sem (FuncId × Value)).run Tryz.prog w := by kernel_rfl
theorem m121e (g : Nat) (w : World) (f : Nat) : (method (f + 1) 121 (.pointer (some ⟨g, 0, none⟩)) "EvalOutputLength").run Tryz.prog w = (do let v ← loadVar 148 ⟨g, 3, none⟩; pure (155, v) : Sem (FuncId × Value)).run Tryz.prog w := by kernel_rfl
theorem m121q (g : Nat) (w : World) (f : Nat) : (method (f + 1) 121 (.pointer (some ⟨g, 0, none⟩)) "QueryRandLength").run Tryz.prog w = (do let v ← loadVar 148 ⟨g, 3, none⟩; pure (161, v) : Sem (FuncId × Value)).run Tryz.prog w := by kernel_rfl
theorem m121p (g : Nat) (w : World) (f : Nat) : (method (f + 1) 121 (.pointer (some ⟨g, 0, none⟩)) "ProveRandLength").run Tryz.prog w = .ok (182, .pointer (some ⟨g, 1, none⟩)) w := by kernel_rfl
theorem m121l (g : Nat) (w : World) (f : Nat) : (method (f + 1) 121 (.pointer (some ⟨g, 0, none⟩)) "ProofLength").run Tryz.prog w = .ok (181, .pointer (some ⟨g, 1, none⟩)) w := by kernel_rfl
theorem m121v (g : Nat) (w : World) (f : Nat) : (method (f + 1) 121 (.pointer (some ⟨g, 0, none⟩)) "VerifierLength").run Tryz.prog w = .ok (183, .pointer (some ⟨g, 1, none⟩)) w := by kernel_rfl
theorem n121 (a : Addr) (w : World) (f : Nat) :
    (nilAhead (f + 1) 121 (.pointer (some a)) "JointRandLength").run Tryz.prog w = .ok (some false) w ∧
    (nilAhead (f + 1) 121 (.pointer (some a)) "MeasurementLength").run Tryz.prog w = .ok (some false) w ∧
    (nilAhead (f + 1) 121 (.pointer (some a)) "OutputLength").run Tryz.prog w = .ok (some false) w ∧
    (nilAhead (f + 1) 121 (.pointer (some a)) "EvalOutputLength").run Tryz.prog w = .ok (some false) w ∧
    (nilAhead (f + 1) 121 (.pointer (some a)) "QueryRandLength").run Tryz.prog w = .ok (some false) w ∧
    (nilAhead (f + 1) 121 (.pointer (some a)) "ProveRandLength").run Tryz.prog w = .ok (some false) w ∧
    (nilAhead (f + 1) 121 (.pointer (some a)) "ProofLength").run Tryz.prog w = .ok (some false) w ∧
    (nilAhead (f + 1) 121 (.pointer (some a)) "VerifierLength").run Tryz.prog w = .ok (some false) w := by
  refine ⟨?_, ?_, ?_, ?_, ?_, ?_, ?_, ?_⟩ <;> kernel_rfl
theorem limbs147 {w0 w : World} {B p fg : Nat} {T : TypeId} {cs fs : Array Value} {rand s : Int} (hP : P3 cs fg rand s) (p0 p1 p2 p3 : Value) (q0 : fs[3]? = some p0) (q1 : fs[4]? = some p1) (q2 : fs[5]? = some p2) (q3 : fs[6]? = some p3)
    (h : PCore w0 B p fg T 176 cs fs w) : Limbs w0 B p fg T 176 cs fs (.agg #[p0, p1, p2, p3]) 121 rand s w := by
  have hl := run_get_params h.flp 3 p0 p1 p2 p3 q0 q1 q2 q3
  refine ⟨(h.blk.cell 0).trans hP.flp, (h.blk.cell 203).trans hP.rand, (h.blk.cell 204).trans hP.sh, fun f => ?_, fun f => ?_, fun f => ?_, fun f => ?_, fun f => ?_, fun i => h.zfrozen i, h.zcell 0 (by omega), h.zcell 1 (by omega), h.zcell 2 (by omega), h.zcell 3 (by omega), h.zcell 4 (by omega), h.zcell 5 (by omega), h.zcell 6 (by omega), h.zcell 7 (by omega), h.zcell 8 (by omega), h.zcell 9 (by omega), h⟩
  · rw [m121j, Sem.run_bind, hl]; rfl
  · rw [m121m, Sem.run_bind, hl]; rfl
  · rw [m121o, Sem.run_bind, hl]; rfl
  · rw [m121e, Sem.run_bind, hl]; rfl
  · rw [m121q, Sem.run_bind, hl]; rfl
theorem size34r147 : (Tryz.prog.info? 34).map (·.size) = some 10 := by kernel_rfl
set_option maxRecDepth 100000 in
set_option maxHeartbeats 4000000 in
theorem par147 (p fg : Nat) (cs fs : Array Value) (meas jr ev out rand s : Int) (ch calls q : Nat) (w : World) (hT : Tab w) (hB : Blk w p 125 cs) (hP : P3 cs fg rand s) (hF : Blk w fg 176 fs)
    (g1 : fs[1]? = some (.int .u64 ch)) (g2 : fs[2]? = some (.int .u64 calls)) (g3 : fs[3]? = some (.int .u64 meas)) (g4 : fs[4]? = some (.int .u64 jr)) (g5 : fs[5]? = some (.int .u64 ev)) (g6 : fs[6]? = some (.int .u64 out)) (hch : ch ≤ 16) (he : 0 ≤ ev) (he2 : ev ≤ 4096) (hc : calls ≤ 1090) (hq : np2 (1 + calls) = q) :
    Calls Tryz.prog 147 #[.pointer (some ⟨p, 0, none⟩)] w fun e w' => e = .returned (.agg #[.int .u64 jr, .int .u64 meas, .int .u64 out, .int .u64 ev, .int .u64 (1 + ev), .int .u64 (2 * (ch : Int)), .int .u64 ((2 * (ch : Int)) + (1 + 2 * ((q : Int) - 1))), .int .u64 (2 + (2 * (ch : Int))), .int .u64 rand, .int .u8 s]) ∧ Below w.heap.size w w' := by
  have hC : PCore w w.heap.size p fg 125 176 cs fs (w.alloc (.cells #[.int .u64 0, .int .u64 0, .int .u64 0, .int .u64 0, .int .u64 0, .int .u64 0, .int .u64 0, .int .u64 0, .int .u64 0, .int .u8 0] 34)) :=
    ⟨(Below.refl _ _).alloc (Nat.le_refl _) _, Nat.le_refl _, hB.alloc _, hF.alloc _, hT.below ((Below.refl _ _).alloc (Nat.le_refl _) _), ⟨_, Blk.new w 34 _, rfl⟩, by have := hB.lt; omega, by have := hF.lt; omega, by have := hT.lt; omega⟩
  have H := hide (And.intro g1 (And.intro g2 (And.intro g3 (And.intro g4 (And.intro g5 g6)))))
  have HQ := hide hq
  have hL := fun W (h : PCore w w.heap.size p fg 125 176 cs fs W) => limbs147 hP _ _ _ _ H.out.2.2.1 H.out.2.2.2.1 H.out.2.2.2.2.1 H.out.2.2.2.2.2 h
  have HC := hide hC
  have HL := hide hL
  have hn := n121 ⟨fg, 0, none⟩
  have hm1 := m121p fg
  have hm2 := m121l fg
  have hm3 := m121v fg
  have hN : 1 ≤ q ∧ q ≤ 2048 := by
    have := np2_bound (1 + calls) (by omega) (by omega)
    omega
  clear hC hL hB hF hT hP hq g1 g2 g3 g4 g5 g6
  go_enter Tryz.func147, Tryz.ntmps147
  go_wp2_with fail
  go_region_held3 (fun w' => w'.cell? ⟨p, 0, none⟩ = some (.pointer (some ⟨fg, 0, none⟩)) ∧ w'.cell? ⟨p, 203, none⟩ = some (.int .u64 rand) ∧ w'.cell? ⟨p, 204, none⟩ = some (.int .u8 s) ∧
    (∀ f, (method (f + 1) 121 (.pointer (some ⟨fg, 0, none⟩)) "JointRandLength").run Tryz.prog w' = .ok (156, .agg #[.int .u64 meas, .int .u64 jr, .int .u64 ev, .int .u64 out]) w') ∧
    (∀ f, (method (f + 1) 121 (.pointer (some ⟨fg, 0, none⟩)) "MeasurementLength").run Tryz.prog w' = .ok (157, .agg #[.int .u64 meas, .int .u64 jr, .int .u64 ev, .int .u64 out]) w') ∧
    (∀ f, (method (f + 1) 121 (.pointer (some ⟨fg, 0, none⟩)) "OutputLength").run Tryz.prog w' = .ok (158, .agg #[.int .u64 meas, .int .u64 jr, .int .u64 ev, .int .u64 out]) w') ∧
    (∀ f, (method (f + 1) 121 (.pointer (some ⟨fg, 0, none⟩)) "EvalOutputLength").run Tryz.prog w' = .ok (155, .agg #[.int .u64 meas, .int .u64 jr, .int .u64 ev, .int .u64 out]) w') ∧
    (∀ f, (method (f + 1) 121 (.pointer (some ⟨fg, 0, none⟩)) "QueryRandLength").run Tryz.prog w' = .ok (161, .agg #[.int .u64 meas, .int .u64 jr, .int .u64 ev, .int .u64 out]) w') ∧
    (∀ i, w'.frozen? ⟨w.heap.size, i, none⟩ = false) ∧ w'.cell? ⟨w.heap.size, 0, none⟩ = some (zof w' w.heap.size 0) ∧ w'.cell? ⟨w.heap.size, 1, none⟩ = some (zof w' w.heap.size 1) ∧ w'.cell? ⟨w.heap.size, 2, none⟩ = some (zof w' w.heap.size 2) ∧ w'.cell? ⟨w.heap.size, 3, none⟩ = some (zof w' w.heap.size 3) ∧ w'.cell? ⟨w.heap.size, 4, none⟩ = some (zof w' w.heap.size 4) ∧ w'.cell? ⟨w.heap.size, 5, none⟩ = some (zof w' w.heap.size 5) ∧ w'.cell? ⟨w.heap.size, 6, none⟩ = some (zof w' w.heap.size 6) ∧ w'.cell? ⟨w.heap.size, 7, none⟩ = some (zof w' w.heap.size 7) ∧ w'.cell? ⟨w.heap.size, 8, none⟩ = some (zof w' w.heap.size 8) ∧ w'.cell? ⟨w.heap.size, 9, none⟩ = some (zof w' w.heap.size 9) ∧
    Hid (PCore w w.heap.size p fg 125 176 cs fs w'))
    ((refine HL.out _ ?_; first | with_reducible exact (core_last (by assumption)).put10 _ _ _ _ _ _ _ _ _ _ | with_reducible exact HC.out.drew | with_reducible exact PCore.more (by assumption) (core_last (by assumption))))
    (first
      | (go_at_call 156; refine (param156 _ _ _ _ _ rfl _).mono ?_; rintro e w' ⟨rfl, hbl⟩)
      | (go_at_call 157; refine (param157 _ _ _ _ _ rfl _).mono ?_; rintro e w' ⟨rfl, hbl⟩)
      | (go_at_call 158; refine (param158 _ _ _ _ _ rfl _).mono ?_; rintro e w' ⟨rfl, hbl⟩)
      | (go_at_call 155; refine (param155 _ _ _ _ _ rfl _).mono ?_; rintro e w' ⟨rfl, hbl⟩)
      | (go_at_call 161; refine (param161 _ _ _ _ _ rfl he he2 _).mono ?_; rintro e w' ⟨rfl, hbl⟩)
      | (go_at_call 182; refine (prove182 176 fg ch _ _ (PCore.flp (core_last (by assumption))) H.out.1 hch).mono ?_; rintro e w' ⟨rfl, hbl⟩)
      | (go_at_call 181; refine (proof181 176 fg ch calls q HQ.out _ _ (PCore.flp (core_last (by assumption))) H.out.1 hch H.out.2.1 hc (PCore.tab (core_last (by assumption)))).mono ?_; rintro e w' ⟨rfl, hbl⟩)
      | (go_at_call 183; refine (verif183 176 fg ch _ _ (PCore.flp (core_last (by assumption))) H.out.1 hch).mono ?_; rintro e w9 ⟨rfl, hbl⟩; have hsave := hide (PCore.more hbl (core_last (by assumption)))))
  obtain ⟨row, hr1, hr2⟩ := hsave.out.out
  have hr := ((((((((((hr1.set_ 0 (.int .u64 jr)).set_ 1 (.int .u64 meas)).set_ 2 (.int .u64 out)).set_ 3 (.int .u64 ev)).set_ 4 (.int .u64 (1 + ev))).set_ 5 (.int .u64 (2 * (ch : Int)))).set_ 6 (.int .u64 ((2 * (ch : Int)) + (1 + 2 * ((q : Int) - 1))))).set_ 7 (.int .u64 (2 + (2 * (ch : Int))))).set_ 8 (.int .u64 rand)).set_ 9 (.int .u8 s))
  rw [put10_row row hr2] at hr
  have HR := hide (And.intro hr (hsave.out.put10 (.int .u64 jr) (.int .u64 meas) (.int .u64 out) (.int .u64 ev) (.int .u64 (1 + ev)) (.int .u64 (2 * (ch : Int))) (.int .u64 ((2 * (ch : Int)) + (1 + 2 * ((q : Int) - 1)))) (.int .u64 (2 + (2 * (ch : Int)))) (.int .u64 rand) (.int .u8 s)).below)
  clear hr hr1
  go_wp2_with fail
  exact bodyPost_ret (results_cell_row Tryz.results147 _ _ w.heap.size 34 _ (0, 0) _ (by rfl) HR.out.1 Tryz.underlying34 rfl (by rw [size34r147]; rfl)) rfl ⟨rfl, HR.out.2⟩
set_option maxRecDepth 100000 in
set_option maxHeartbeats 1000000 in
theorem params143 (p fg : Nat) (cs fs : Array Value) (meas jr ev out rand s : Int) (ch calls q : Nat) (w : World) (hT : Tab w) (hB : Blk w p 125 cs) (hP : P3 cs fg rand s) (hF : Blk w fg 176 fs)
    (g1 : fs[1]? = some (.int .u64 ch)) (g2 : fs[2]? = some (.int .u64 calls)) (g3 : fs[3]? = some (.int .u64 meas)) (g4 : fs[4]? = some (.int .u64 jr)) (g5 : fs[5]? = some (.int .u64 ev)) (g6 : fs[6]? = some (.int .u64 out)) (hch : ch ≤ 16) (he : 0 ≤ ev) (he2 : ev ≤ 4096) (hc : calls ≤ 1090) (hq : np2 (1 + calls) = q) :
    Calls Tryz.prog 143 #[.pointer (some ⟨p, 0, none⟩)] w fun e w' => e = .returned (.agg #[.int .u64 jr, .int .u64 meas, .int .u64 out, .int .u64 ev, .int .u64 (1 + ev), .int .u64 (2 * (ch : Int)), .int .u64 ((2 * (ch : Int)) + (1 + 2 * ((q : Int) - 1))), .int .u64 (2 + (2 * (ch : Int))), .int .u64 rand, .int .u8 s]) ∧ Below w.heap.size w w' := by
  have hb0 : Below w.heap.size w (w.alloc (.cells #[.int .u64 0, .int .u64 0, .int .u64 0, .int .u64 0, .int .u64 0, .int .u64 0, .int .u64 0, .int .u64 0, .int .u64 0, .int .u8 0] 34)) := (Below.refl _ _).alloc (Nat.le_refl _) _
  have H := hide (par147 p fg cs fs meas jr ev out rand s ch calls q _ (hT.below hb0) (hB.alloc _) hP (hF.alloc _) g1 g2 g3 g4 g5 g6 hch he he2 hc hq)
  have HB := hide hb0
  clear hb0 hT hB hP hF g1 g2 g3 g4 g5 g6 he he2 hc hq hch
  go_enter Tryz.func143, Tryz.ntmps143
  go_wp2_with fail
  refine H.out.mono ?_
  rintro e w1 ⟨rfl, hbl⟩
  have hK := (Blk.new w 34 #[.int .u64 0, .int .u64 0, .int .u64 0, .int .u64 0, .int .u64 0, .int .u64 0, .int .u64 0, .int .u64 0, .int .u64 0, .int .u8 0]).below hbl (by simp)
  have c0 := hK.cell 0
  have c1 := hK.cell 1
  have c2 := hK.cell 2
  have c3 := hK.cell 3
  have c4 := hK.cell 4
  have c5 := hK.cell 5
  have c6 := hK.cell 6
  have c7 := hK.cell 7
  have c8 := hK.cell 8
  have c9 := hK.cell 9
  have hf := hK.frozen
  simp only [List.getElem?_toArray, List.getElem?_cons_zero, List.getElem?_cons_succ] at c0 c1 c2 c3 c4 c5 c6 c7 c8 c9
  have hr := ((((((((((hK.set_ 0 (.int .u64 jr)).set_ 1 (.int .u64 meas)).set_ 2 (.int .u64 out)).set_ 3 (.int .u64 ev)).set_ 4 (.int .u64 (1 + ev))).set_ 5 (.int .u64 (2 * (ch : Int)))).set_ 6 (.int .u64 ((2 * (ch : Int)) + (1 + 2 * ((q : Int) - 1))))).set_ 7 (.int .u64 (2 + (2 * (ch : Int))))).set_ 8 (.int .u64 rand)).set_ 9 (.int .u8 s))
  rw [put10_row _ rfl] at hr
  have hBf := (((((((((((HB.out.trans (hbl.mono (by simp))).setCell (p := ⟨w.heap.size, 0, none⟩) (Nat.le_refl _) (.int .u64 jr)).setCell (p := ⟨w.heap.size, 1, none⟩) (Nat.le_refl _) (.int .u64 meas)).setCell (p := ⟨w.heap.size, 2, none⟩) (Nat.le_refl _) (.int .u64 out)).setCell (p := ⟨w.heap.size, 3, none⟩) (Nat.le_refl _) (.int .u64 ev)).setCell (p := ⟨w.heap.size, 4, none⟩) (Nat.le_refl _) (.int .u64 (1 + ev))).setCell (p := ⟨w.heap.size, 5, none⟩) (Nat.le_refl _) (.int .u64 (2 * (ch : Int)))).setCell (p := ⟨w.heap.size, 6, none⟩) (Nat.le_refl _) (.int .u64 ((2 * (ch : Int)) + (1 + 2 * ((q : Int) - 1))))).setCell (p := ⟨w.heap.size, 7, none⟩) (Nat.le_refl _) (.int .u64 (2 + (2 * (ch : Int))))).setCell (p := ⟨w.heap.size, 8, none⟩) (Nat.le_refl _) (.int .u64 rand)).setCell (p := ⟨w.heap.size, 9, none⟩) (Nat.le_refl _) (.int .u8 s))
  have HR := hide (And.intro hr hBf)
  clear hr hBf hK hbl H HB
  go_wp2_with fail
  exact bodyPost_ret (results_cell_row Tryz.results143 _ _ w.heap.size 34 _ (0, 0) _ (by rfl) HR.out.1 Tryz.underlying34 rfl (by rw [size34r147]; rfl)) rfl ⟨rfl, HR.out.2⟩
end Go.Proofs.YtkacahdogfchfaaGreatDoor
