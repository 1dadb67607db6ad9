/-
  prio3.New at the count: under two shares it hands back an error; else the filled struct. Conditions: those of NewXof; the flp's block is known.
-/
import Derived.Test.YtkacahdogfchfaaGreatDoorN
import Derived.Test.YtkacahdogfchfaaGreatDoorX
import Derived.Test.YtkacahdogfchfaaGreatDoorQ
namespace Go.Proofs.YtkacahdogfchfaaGreatDoor
open Go.RowKit
theorem size85 : (Tryz.prog.info? 85).map (·.size) = some 205 := by kernel_rfl
theorem zsize85 : Tryz.zeroCells85.size = 205 := by kernel_rfl
theorem zones85 : Ones Tryz.zeroCells85 := by unfold Ones; kernel_rfl
set_option maxRecDepth 100000 in
set_option maxHeartbeats 2000000 in
theorem new32few (g : Nat) (s : Int) (A : Option Addr) (n c : Nat) (id : Int) (w : World) (h1 : s < 2) (hE : ErrAt w 2) : Calls Tryz.prog 32 #[.pointer (some ⟨g, 0, none⟩), .int .u32 id, .int .u8 s, .slice A n c] w
    fun e w' => ∃ (cs : Array Value) (t : TypeId) (v : Value), e = .returned (.tuple #[.agg cs, .iface t v]) ∧ cs.size = 205 ∧ Ones cs ∧ Below w.heap.size w w' := by
  obtain ⟨t, v, hv⟩ := hE
  have hlt : 2 < w.heap.size := by
    rcases Nat.lt_or_ge 2 w.heap.size with h | h
    · exact h
    · simp [World.cell?, Array.getElem?_eq_none h] at hv
  have hst : Sem.run Tryz.prog (storeCells ⟨w.heap.size, 0, none⟩ Tryz.zeroCells85.toList) (w.alloc (.cells Tryz.zeroCells85 85)).drew = .ok () (w.alloc (.cells Tryz.zeroCells85 85)).drew := by
    have h := run_put_row (P := Tryz.prog) (Blk.new w 85 Tryz.zeroCells85).drew Tryz.zeroCells85 rfl zones85
    rw [h]
    congr 1
    exact congrArg World.drew (World.setRow_alloc_new w Tryz.zeroCells85 Tryz.zeroCells85 85)
  have hv' : (w.alloc (.cells Tryz.zeroCells85 85)).drew.cell? ⟨2, 0, none⟩ = some (.iface t v) := by
    rw [← hv]; exact ((Below.refl _ w).alloc (Nat.le_refl _) _).cell (p := ⟨2, 0, none⟩) hlt
  have hB : Below w.heap.size w (w.alloc (.cells Tryz.zeroCells85 85)).drew := ((Below.refl _ w).alloc (Nat.le_refl _) _).drew
  have HB := hide (Blk.new w 85 Tryz.zeroCells85).drew
  clear hlt hv
  go_enter Tryz.func32, Tryz.ntmps32
  go_wp2_with fail
  generalize w.alloc (.cells Tryz.zeroCells85 85) = W at *
  obtain ⟨zc, hzc⟩ : ∃ zc, zc = Tryz.zeroCells85 := ⟨_, rfl⟩
  rw [← hzc] at hst HB
  have hz1 : zc.size = 205 ∧ Ones zc := by rw [hzc]; exact ⟨zsize85, zones85⟩
  clear hzc
  refine wp_region_any (by kernel_rfl) ?_
  change wpAny _ _ _ _ _ _ _ (World.drew _)
  refine wpAny_ready (rs := [0,1]) (by kernel_rfl) (by simp) ?_
  refine AllReady.cons rfl (fun K hK => ?_) (AllReady.cons rfl (fun K hK => ?_) AllReady.nil)
  · refine step_load_row rfl 85 (.tmp 8) rfl (some 12) rfl _ rfl 85 zc _ HB.out Tryz.underlying85 rfl (by rw [size85, hz1.1]) ?_
    refine hK _ _ ?_
    clear hK K
    refine wpAny_ready (rs := [1,2]) (by kernel_rfl) (by simp) ?_
    refine AllReady.cons rfl (fun K hK => ?_) (AllReady.cons rfl (fun K hK => ?_) AllReady.nil)
    · go_simp
      refine hK _ _ ?_
      clear hK K
      refine wpAny_ready (rs := [2]) (by kernel_rfl) (by simp) ?_
      refine AllReady.cons rfl (fun K hK => ?_) AllReady.nil
      go_simp
      refine hK _ _ ?_
      clear hK K
      refine wpAny_ready (rs := [3]) (by kernel_rfl) (by simp) ?_
      refine AllReady.cons rfl (fun K hK => ?_) AllReady.nil
      go_simp
      refine hK _ _ ?_
      clear hK K
      refine wpAny_done (by kernel_rfl) ?_ _
      go_wp2
      exact bodyPost_ret (results_cell_tmp Tryz.results32 _ _ w.heap.size 85 zc _ (by rfl) HB.out Tryz.underlying85 rfl (by rw [size85, hz1.1])) rfl ⟨_, _, _, rfl, hz1.1, hz1.2, hB⟩
    · go_simp
      refine hK _ _ ?_
      clear hK K
      refine wpAny_ready (rs := [1]) (by kernel_rfl) (by simp) ?_
      refine AllReady.cons rfl (fun K hK => ?_) AllReady.nil
      go_simp
      refine hK _ _ ?_
      clear hK K
      refine wpAny_ready (rs := [3]) (by kernel_rfl) (by simp) ?_
      refine AllReady.cons rfl (fun K hK => ?_) AllReady.nil
      go_simp
      refine hK _ _ ?_
      clear hK K
      refine wpAny_done (by kernel_rfl) ?_ _
      go_wp2
      exact bodyPost_ret (results_cell_tmp Tryz.results32 _ _ w.heap.size 85 zc _ (by rfl) HB.out Tryz.underlying85 rfl (by rw [size85, hz1.1])) rfl ⟨_, _, _, rfl, hz1.1, hz1.2, hB⟩
  · go_simp
    refine hK _ _ ?_
    clear hK K
    refine wpAny_ready (rs := [0]) (by kernel_rfl) (by simp) ?_
    refine AllReady.cons rfl (fun K hK => ?_) AllReady.nil
    refine step_load_row rfl 85 (.tmp 8) rfl (some 12) rfl _ rfl 85 zc _ HB.out Tryz.underlying85 rfl (by rw [size85, hz1.1]) ?_
    refine hK _ _ ?_
    clear hK K
    refine wpAny_ready (rs := [2]) (by kernel_rfl) (by simp) ?_
    refine AllReady.cons rfl (fun K hK => ?_) AllReady.nil
    go_simp
    refine hK _ _ ?_
    clear hK K
    refine wpAny_ready (rs := [3]) (by kernel_rfl) (by simp) ?_
    refine AllReady.cons rfl (fun K hK => ?_) AllReady.nil
    go_simp
    refine hK _ _ ?_
    clear hK K
    refine wpAny_done (by kernel_rfl) ?_ _
    go_wp2
    exact bodyPost_ret (results_cell_tmp Tryz.results32 _ _ w.heap.size 85 zc _ (by rfl) HB.out Tryz.underlying85 rfl (by rw [size85, hz1.1])) rfl ⟨_, _, _, rfl, hz1.1, hz1.2, hB⟩
theorem nilAhead74j (a : Addr) (w : World) (f : Nat) : (nilAhead (f + 1) 74 (.pointer (some a)) "JointRandLength").run Tryz.prog w = .ok (some false) w := by kernel_rfl
theorem meth74j (g : Nat) (w : World) (f : Nat) : (method (f + 1) 74 (.pointer (some ⟨g, 0, none⟩)) "JointRandLength").run Tryz.prog w = (do let v ← loadVar 148 ⟨g, 2, none⟩; pure (156, v) : Sem (FuncId × Value)).run Tryz.prog w := by kernel_rfl
theorem jr74 (g : Nat) (w : World) (f : Nat) (cs : Array Value) (hB : Blk w g 154 cs) (p0 p1 p2 p3 : Value) (h0 : cs[2]? = some p0) (h1 : cs[3]? = some p1) (h2 : cs[4]? = some p2) (h3 : cs[5]? = some p3) :
    (method (f + 1) 74 (.pointer (some ⟨g, 0, none⟩)) "JointRandLength").run Tryz.prog w = .ok (156, .agg #[p0, p1, p2, p3]) w := by
  rw [meth74j, Sem.run_bind, run_get_params hB 2 p0 p1 p2 p3 h0 h1 h2 h3]
  rfl
set_option maxRecDepth 100000 in
set_option maxHeartbeats 2000000 in
theorem new32 (g : Nat) (s : Int) (A : Option Addr) (n c : Nat) (id : Int) (w : World) (h0 : 2 ≤ s) (h1 : s ≤ 255) (hn : n ≤ 4096) (hb : Bytes w A n)
    (fs : Array Value) (hF : Blk w g 154 fs) (p0 p2 p3 : Value) (jr : Int) (q0 : fs[2]? = some p0) (q1 : fs[3]? = some (.int .u64 jr)) (q2 : fs[4]? = some p2) (q3 : fs[5]? = some p3) (hj : jr = 0) :
    Calls Tryz.prog 32 #[.pointer (some ⟨g, 0, none⟩), .int .u32 id, .int .u8 s, .slice A n c] w
    fun e w' => ∃ (cs : Array Value), e = .returned (.tuple #[.agg cs, .nilIface]) ∧ P3 cs g (32 * s) s ∧ Below w.heap.size w w' := by
  subst hj
  have X1 : PS w (w.alloc (.cells (Tryz.zeroCells85.setIfInBounds 0 (.pointer (some ⟨g, 0, none⟩))) 85)) 85 w.heap.size (Tryz.zeroCells85.setIfInBounds 0 (.pointer (some ⟨g, 0, none⟩))) :=
    ⟨(Below.refl _ w).alloc (Nat.le_refl _) _, Nat.le_refl _, Blk.new w 85 _, Array.size_setIfInBounds.trans zsize85, zones85.set_ 0 rfl⟩
  have hF1 := hide (hF.alloc (.cells (Tryz.zeroCells85.setIfInBounds 0 (.pointer (some ⟨g, 0, none⟩))) 85))
  have hlt := hF.lt
  have hb1 := hide hb
  have HX1 := hide X1
  clear hF hb X1
  have Q := hide (And.intro q0 (And.intro q1 (And.intro q2 q3)))
  clear q0 q1 q2 q3
  go_enter Tryz.func32, Tryz.ntmps32
  go_wp2_with fail
  refine (xof43 _ id A n c hn (hb1.out.keep (by simp) (fun p hp => HX1.out.below.cell hp))).mono ?_
  rintro e w2 ⟨xs, rfl, hxs, hox, hbl⟩
  have X2 := HX1.out.more hbl
  have hF3 := hF1.out.below hbl (by simp; omega)
  clear hbl hF1 HX1 hb1
  have hst2 := run_put_mid (P := Tryz.prog) X2.blk 1 xs (by rw [X2.size]; omega) hox
  obtain ⟨cs2, X3, hk3⟩ := X2.setCells 1 xs hox
  have hk0 : cs2[0]? = some (.pointer (some ⟨g, 0, none⟩)) := by
    rw [hk3 0 (by omega), Array.getElem?_setIfInBounds_self_of_lt (by rw [zsize85]; omega)]
  have hF4 : Blk (w2.setCells w.heap.size 1 xs.toList) g 154 fs := hF3.below (B := w.heap.size) (below_setCells (Below.refl _ _) (Nat.le_refl _) _ _) hlt
  generalize w2.setCells w.heap.size 1 xs.toList = w3 at *
  clear X2 hF3 hk3
  obtain ⟨u3, hu3⟩ := X3.cell1 203 (by omega)
  obtain ⟨u4, hu4⟩ := X3.cell1 204 (by omega)
  have hf3 := X3.frozen 203
  have hf4 := X3.frozen 204
  have X5 := (X3.set_ 204 (v := .int .u8 s) rfl).set_ 203 (v := .int .u64 (32 * s)) rfl
  have hF5 := (hF4.far (p := ⟨w.heap.size, 204, none⟩) (by show g ≠ w.heap.size; omega) (.int .u8 s)).far (p := ⟨w.heap.size, 203, none⟩) (by show g ≠ w.heap.size; omega) (.int .u64 (32 * s))
  have hm := fun fu => jr74 g _ fu _ hF5 _ _ _ _ Q.out.1 Q.out.2.1 Q.out.2.2.1 Q.out.2.2.2
  have hna := fun W fu => nilAhead74j ⟨g, 0, none⟩ W fu
  have HX5 := hide X5
  clear X3 X5 hF4 hF5
  go_wp2_with fail
  refine (param156 _ _ _ _ 0 rfl _).mono ?_
  rintro e w4 ⟨rfl, hbl⟩
  have X6 := HX5.out.more hbl
  clear hbl HX5 hu3 hu4 hf3 hf4 hst2 hm hna
  have X7 := X6
  have hP : P3 ((cs2.setIfInBounds 204 (.int .u8 s)).setIfInBounds 203 (.int .u64 (32 * s))) g (32 * s) s := by
    have hz := X7.size
    simp only [Array.size_setIfInBounds] at hz
    refine ⟨X7.size, X7.ones, ?_, ?_, ?_⟩
    · rw [Array.getElem?_setIfInBounds_ne (by omega), Array.getElem?_setIfInBounds_ne (by omega), hk0]
    · simp [hz]
    · rw [Array.getElem?_setIfInBounds_ne (by omega)]; simp [hz]
  generalize ((cs2.setIfInBounds 204 (.int .u8 s)).setIfInBounds 203 (.int .u64 (32 * s))) = cs6 at *
  have hst9 := run_put_row (P := Tryz.prog) X7.blk cs6 rfl X7.ones
  have HX6 := hide X7
  have hz6 := hP.size
  clear X6 X7 hk0
  go_wp2_with fail
  refine wp_load_row 85 _ rfl w.heap.size (by rfl) 85 cs6 (0, 0) _ HX6.out.blk Tryz.underlying85 rfl (by rw [size85, hP.size]) ?_
  go_wp2
  exact bodyPost_ret (results_cell_tmp Tryz.results32 _ _ w.heap.size 85 cs6 _ (by rfl) HX6.out.setRow.blk Tryz.underlying85 rfl (by rw [size85, hP.size])) rfl ⟨_, rfl, hP, HX6.out.setRow.below⟩
end Go.Proofs.YtkacahdogfchfaaGreatDoor
