/-
  spec.circuitOf at each of the five kinds: what its cells are. Conditions: the input is a small one of that kind.
-/
import Derived.Test.YtkacahdogfchfaaGreatDoorSp
import Derived.Test.YtkacahdogfchfaaGreatDoorN
import Derived.Test.YtkacahdogfchfaaGreatDoorKit5
namespace Go.Proofs.YtkacahdogfchfaaGreatDoor
open Go.RowKit
theorem below_put21 {B : Nat} {a w : World} (h : Below B a w) {g : Nat} (hg : B ≤ g) (v0 v1 v2 v3 v4 v5 v6 v7 v8 v9 v10 v11 v12 v13 v14 v15 v16 v17 v18 v19 v20 : Value) : Below B a ((((((((((((((((((((((w.setCell ⟨g, 0, none⟩ v0).setCell ⟨g, 1, none⟩ v1).setCell ⟨g, 2, none⟩ v2).setCell ⟨g, 3, none⟩ v3).setCell ⟨g, 4, none⟩ v4).setCell ⟨g, 5, none⟩ v5).setCell ⟨g, 6, none⟩ v6).setCell ⟨g, 7, none⟩ v7).setCell ⟨g, 8, none⟩ v8).setCell ⟨g, 9, none⟩ v9).setCell ⟨g, 10, none⟩ v10).setCell ⟨g, 11, none⟩ v11).setCell ⟨g, 12, none⟩ v12).setCell ⟨g, 13, none⟩ v13).setCell ⟨g, 14, none⟩ v14).setCell ⟨g, 15, none⟩ v15).setCell ⟨g, 16, none⟩ v16).setCell ⟨g, 17, none⟩ v17).setCell ⟨g, 18, none⟩ v18).setCell ⟨g, 19, none⟩ v19).setCell ⟨g, 20, none⟩ v20)) :=
  (((((((((((((((((((((h.setCell (p := ⟨g, 0, none⟩) hg v0).setCell (p := ⟨g, 1, none⟩) hg v1).setCell (p := ⟨g, 2, none⟩) hg v2).setCell (p := ⟨g, 3, none⟩) hg v3).setCell (p := ⟨g, 4, none⟩) hg v4).setCell (p := ⟨g, 5, none⟩) hg v5).setCell (p := ⟨g, 6, none⟩) hg v6).setCell (p := ⟨g, 7, none⟩) hg v7).setCell (p := ⟨g, 8, none⟩) hg v8).setCell (p := ⟨g, 9, none⟩) hg v9).setCell (p := ⟨g, 10, none⟩) hg v10).setCell (p := ⟨g, 11, none⟩) hg v11).setCell (p := ⟨g, 12, none⟩) hg v12).setCell (p := ⟨g, 13, none⟩) hg v13).setCell (p := ⟨g, 14, none⟩) hg v14).setCell (p := ⟨g, 15, none⟩) hg v15).setCell (p := ⟨g, 16, none⟩) hg v16).setCell (p := ⟨g, 17, none⟩) hg v17).setCell (p := ⟨g, 18, none⟩) hg v18).setCell (p := ⟨g, 19, none⟩) hg v19).setCell (p := ⟨g, 20, none⟩) hg v20)
theorem core22 {a b c d e f g : Prop} {B : Nat} {a0 w : World} (h : a ∧ b ∧ c ∧ d ∧ e ∧ f ∧ g ∧ Hid (Below B a0 w)) : Below B a0 w := h.2.2.2.2.2.2.2
/-- The cells of the input's box, where the world has kept them. -/
theorem box22 {W0 : World} {B : Nat} {cs : Array Value} {a0 a1 a2 a3 a4 a5 a6 : Value} (hcs : cs = #[a0, a1, a2, a3, a4, a5, a6]) (hK : Blk W0 B 25 cs) (w' : World) (h : Below W0.heap.size W0 w') :
    w'.cell? ⟨B, 0, none⟩ = some a0 ∧ w'.cell? ⟨B, 1, none⟩ = some a1 ∧ w'.cell? ⟨B, 2, none⟩ = some a2 ∧ w'.cell? ⟨B, 3, none⟩ = some a3 ∧ w'.cell? ⟨B, 4, none⟩ = some a4 ∧ w'.cell? ⟨B, 5, none⟩ = some a5 ∧ w'.cell? ⟨B, 6, none⟩ = some a6 ∧ Hid (Below W0.heap.size W0 w') := by
  subst hcs
  have h1 := hK.below h hK.lt
  exact ⟨h1.cell 0, h1.cell 1, h1.cell 2, h1.cell 3, h1.cell 4, h1.cell 5, h1.cell 6, h⟩
/-- What circuitOf hands back: its cells by number. -/
structure Circ (cs : Array Value) (meas jr out ev ar calls : Int) : Prop where
  size : cs.size = 21
  ones : Ones cs
  c13 : cs[13]? = some (.int .i64 meas)
  c14 : cs[14]? = some (.int .i64 jr)
  c15 : cs[15]? = some (.int .i64 out)
  c16 : cs[16]? = some (.int .i64 ev)
  c17 : cs[17]? = some (.int .i64 ar)
  c18 : cs[18]? = some (.int .i64 calls)
set_option maxRecDepth 100000 in
set_option maxHeartbeats 4000000 in
theorem circ22_1 (s : Int) (l b c m : Int) (A : Option Addr) (n cp : Nat) (w : World) : Calls Tryz.prog 22 #[.agg #[.int .i64 1, .int .i64 s, .int .i64 l, .int .i64 b, .int .i64 c, .int .u64 m, .slice A n cp]] w
    fun e w' => (∃ cs : Array Value, e = .returned (.agg cs) ∧ Circ cs 1 0 1 1 2 1) ∧ Below w.heap.size w w' := by
  have hB := fun w' h => box22 (W0 := (w.alloc (.cells #[.int .i64 1, .int .i64 s, .int .i64 l, .int .i64 b, .int .i64 c, .int .u64 m, .slice A n cp] 25)).alloc (.cells #[.int .i64 0, .int .i64 0, .int .i64 0, .int .i64 0, .int .i64 0, .int .u64 0, .slice none 0 0, .int .u64 0, .int .u64 0, .int .i64 0, .int .u64 0, .int .u64 0, .int .i64 0, .int .i64 0, .int .i64 0, .int .i64 0, .int .i64 0, .int .i64 0, .int .i64 0, .int .i64 0, .int .u64 0] 49)) rfl ((Blk.new w 25 #[.int .i64 1, .int .i64 s, .int .i64 l, .int .i64 b, .int .i64 c, .int .u64 m, .slice A n cp]).alloc _) w' h
  have HB := hide hB
  clear hB
  go_enter Tryz.func22, Tryz.ntmps22
  go_upto_region 1 with fail
  go_cut [3] (fun s3 wx => ∃ (g : Nat) (fa fb fc fd fx fy : Int), s3 = .pointer (some ⟨g, 0, none⟩) ∧ w.heap.size + 2 ≤ g ∧ Below (w.heap.size + 2) ((w.alloc (.cells #[.int .i64 1, .int .i64 s, .int .i64 l, .int .i64 b, .int .i64 c, .int .u64 m, .slice A n cp] 25)).alloc (.cells #[.int .i64 0, .int .i64 0, .int .i64 0, .int .i64 0, .int .i64 0, .int .u64 0, .slice none 0 0, .int .u64 0, .int .u64 0, .int .i64 0, .int .u64 0, .int .u64 0, .int .i64 0, .int .i64 0, .int .i64 0, .int .i64 0, .int .i64 0, .int .i64 0, .int .i64 0, .int .i64 0, .int .u64 0] 49)) wx ∧ Blk wx g 49 #[.int .i64 1, .int .i64 s, .int .i64 l, .int .i64 b, .int .i64 c, .int .u64 m, .slice A n cp, .int .u64 fa, .int .u64 fb, .int .i64 fc, .int .u64 fd, .int .u64 fx, .int .i64 fy, .int .i64 1, .int .i64 0, .int .i64 1, .int .i64 1, .int .i64 2, .int .i64 1, .int .i64 0, .int .u64 0])
  case first =>
    refine wp_region_held_drew (S := (fun w' => w'.cell? ⟨w.heap.size, 0, none⟩ = some (.int .i64 1) ∧ w'.cell? ⟨w.heap.size, 1, none⟩ = some (.int .i64 s) ∧ w'.cell? ⟨w.heap.size, 2, none⟩ = some (.int .i64 l) ∧ w'.cell? ⟨w.heap.size, 3, none⟩ = some (.int .i64 b) ∧ w'.cell? ⟨w.heap.size, 4, none⟩ = some (.int .i64 c) ∧ w'.cell? ⟨w.heap.size, 5, none⟩ = some (.int .u64 m) ∧ w'.cell? ⟨w.heap.size, 6, none⟩ = some (.slice A n cp) ∧ Hid (Below ((w.alloc (.cells #[.int .i64 1, .int .i64 s, .int .i64 l, .int .i64 b, .int .i64 c, .int .u64 m, .slice A n cp] 25)).alloc (.cells #[.int .i64 0, .int .i64 0, .int .i64 0, .int .i64 0, .int .i64 0, .int .u64 0, .slice none 0 0, .int .u64 0, .int .u64 0, .int .i64 0, .int .u64 0, .int .u64 0, .int .i64 0, .int .i64 0, .int .i64 0, .int .i64 0, .int .i64 0, .int .i64 0, .int .i64 0, .int .i64 0, .int .u64 0] 49)).heap.size ((w.alloc (.cells #[.int .i64 1, .int .i64 s, .int .i64 l, .int .i64 b, .int .i64 c, .int .u64 m, .slice A n cp] 25)).alloc (.cells #[.int .i64 0, .int .i64 0, .int .i64 0, .int .i64 0, .int .i64 0, .int .u64 0, .slice none 0 0, .int .u64 0, .int .u64 0, .int .i64 0, .int .u64 0, .int .u64 0, .int .i64 0, .int .i64 0, .int .i64 0, .int .i64 0, .int .i64 0, .int .i64 0, .int .i64 0, .int .i64 0, .int .u64 0] 49)) w'))) (by kernel_rfl) (HB.out _ (Below.refl _ _).drew) (fun hHeld => ?_)
    refine take_to (i := 0) (some 5) (v := ?_) rfl (by kernel_rfl) (by kernel_rfl) (by kernel_rfl) (fun _ _ _ h => h) rfl (Or.inl ⟨by rfl, ?_⟩) (by assumption) ?_
    rotate_left
    · intro w hSw
      (try dsimp only at hSw)
      go_simp
      with_reducible rfl
    try simp only [Act.put, List.setIfInBounds_toArray, List.set_cons_zero, List.set_cons_succ]
    refine take_to (i := 1) (some 6) (v := ?_) rfl (by kernel_rfl) (by kernel_rfl) (by kernel_rfl) (fun _ _ _ h => h) rfl (Or.inl ⟨by rfl, ?_⟩) (by assumption) ?_
    rotate_left
    · intro w hSw
      (try dsimp only at hSw)
      go_simp
      with_reducible rfl
    try simp only [Act.put, List.setIfInBounds_toArray, List.set_cons_zero, List.set_cons_succ]
    refine take_to (i := 2) (some 7) (v := ?_) rfl (by kernel_rfl) (by kernel_rfl) (by kernel_rfl) (fun _ _ _ h => h) rfl (Or.inl ⟨by rfl, ?_⟩) (by assumption) ?_
    rotate_left
    · intro w hSw
      (try dsimp only at hSw)
      go_simp
      with_reducible rfl
    try simp only [Act.put, List.setIfInBounds_toArray, List.set_cons_zero, List.set_cons_succ]
    have hcore := core22 hHeld
    have hC := hide hcore
    clear hcore hHeld
    refine wpAnyH_ready (rs := [3, 5]) (by kernel_rfl) (by simp) ?_
    refine AllReadyH.cons rfl (fun K hK => ?_) (AllReadyH.cons rfl (fun K hK => ?_) AllReadyH.nil)
    · go_simp
      go_at_call 29
      refine (field29 _ _).mono ?_
      rintro e w1 ⟨⟨fa, fb, fc, fd, fx, fy, rfl⟩, hbl⟩
      go_wp2_with fail
      have hb1 := below_more hC.out hbl
      refine hK.out _ _ (HB.out _ hb1) (fun hHeld => ?_)
      clear hK K
      refine take_to (i := 4) (some 9) (v := ?_) rfl (by kernel_rfl) (by kernel_rfl) (by kernel_rfl) (fun _ _ _ h => h) rfl (Or.inl ⟨by rfl, ?_⟩) (by assumption) ?_
      rotate_left
      · intro w hSw
        clear hSw
        go_simp
        with_reducible rfl
      try simp only [Act.put, List.setIfInBounds_toArray, List.set_cons_zero, List.set_cons_succ]
      obtain ⟨V, hV⟩ : ∃ V : Array Value, V = #[.int .i64 1, .int .i64 s, .int .i64 l, .int .i64 b, .int .i64 c, .int .u64 m, .slice A n cp, .int .u64 fa, .int .u64 fb, .int .i64 fc, .int .u64 fd, .int .u64 fx, .int .i64 fy, .int .i64 1, .int .i64 0, .int .i64 1, .int .i64 1, .int .i64 2, .int .i64 1, .int .i64 0, .int .u64 0] := ⟨_, rfl⟩
      have hz : V.size = 21 := by rw [hV]; rfl
      have hst := run_put_new (P := Tryz.prog) (w := w1) (t := 49) #[.int .i64 0, .int .i64 0, .int .i64 0, .int .i64 0, .int .i64 0, .int .u64 0, .slice none 0 0, .int .u64 0, .int .u64 0, .int .i64 0, .int .u64 0, .int .u64 0, .int .i64 0, .int .i64 0, .int .i64 0, .int .i64 0, .int .i64 0, .int .i64 0, .int .i64 0, .int .i64 0, .int .u64 0] V (by rw [hz]; rfl) (by rw [hV]; simp [Ones, Value.oneCell'])
      rw [← hV]
      replace hV := hide hV
      have hH := hide hHeld
      clear hHeld
      refine wpAnyH_ready (rs := [5]) (by kernel_rfl) (by simp) ?_
      refine AllReadyH.cons rfl (fun K hK => ?_) AllReadyH.nil
      go_simp
      refine hK.out _ _ (HB.out _ (below_alloc_self _ hb1)) (fun hHeld => ?_)
      clear hK K hHeld
      refine wpAnyH_ready (rs := [6]) (by kernel_rfl) (by simp) ?_
      refine AllReadyH.cons rfl (fun K hK => ?_) AllReadyH.nil
      go_simp
      refine hK.out _ _ (HB.out _ (below_alloc_self _ hb1)) (fun hHeld => ?_)
      clear hK K hHeld
      refine wpAnyH_done (by kernel_rfl) ?_ _
      go_wp2_with fail
      go_meet
      exact ⟨w1.heap.size, fa, fb, fc, fd, fx, fy, rfl, by have := hb1.size; simpa using this, by simpa using below_alloc_self _ hb1, hV.out ▸ Blk.new w1 49 V⟩
    · go_simp
      have hb0 := (below_alloc_self (.cells #[.int .i64 0, .int .i64 0, .int .i64 0, .int .i64 0, .int .i64 0, .int .u64 0, .slice none 0 0, .int .u64 0, .int .u64 0, .int .i64 0, .int .u64 0, .int .u64 0, .int .i64 0, .int .i64 0, .int .i64 0, .int .i64 0, .int .i64 0, .int .i64 0, .int .i64 0, .int .i64 0, .int .u64 0] 49) (Below.refl ((w.alloc (.cells #[.int .i64 1, .int .i64 s, .int .i64 l, .int .i64 b, .int .i64 c, .int .u64 m, .slice A n cp] 25)).alloc (.cells #[.int .i64 0, .int .i64 0, .int .i64 0, .int .i64 0, .int .i64 0, .int .u64 0, .slice none 0 0, .int .u64 0, .int .u64 0, .int .i64 0, .int .u64 0, .int .u64 0, .int .i64 0, .int .i64 0, .int .i64 0, .int .i64 0, .int .i64 0, .int .i64 0, .int .i64 0, .int .i64 0, .int .u64 0] 49)).heap.size ((w.alloc (.cells #[.int .i64 1, .int .i64 s, .int .i64 l, .int .i64 b, .int .i64 c, .int .u64 m, .slice A n cp] 25)).alloc (.cells #[.int .i64 0, .int .i64 0, .int .i64 0, .int .i64 0, .int .i64 0, .int .u64 0, .slice none 0 0, .int .u64 0, .int .u64 0, .int .i64 0, .int .u64 0, .int .u64 0, .int .i64 0, .int .i64 0, .int .i64 0, .int .i64 0, .int .i64 0, .int .i64 0, .int .i64 0, .int .i64 0, .int .u64 0] 49)))).drew
      refine hK.out _ _ (HB.out _ hb0) (fun hHeld => ?_)
      clear hK K
      refine wpAnyH_ready (rs := [3]) (by kernel_rfl) (by simp) ?_
      refine AllReadyH.cons rfl (fun K hK => ?_) AllReadyH.nil
      go_simp
      go_at_call 29
      refine (field29 _ _).mono ?_
      rintro e w1 ⟨⟨fa, fb, fc, fd, fx, fy, rfl⟩, hbl⟩
      go_wp2_with fail
      have hb1 := below_more hb0 hbl
      have hg : Blk w1 (w.heap.size + 1 + 1) 49 #[.int .i64 0, .int .i64 0, .int .i64 0, .int .i64 0, .int .i64 0, .int .u64 0, .slice none 0 0, .int .u64 0, .int .u64 0, .int .i64 0, .int .u64 0, .int .u64 0, .int .i64 0, .int .i64 0, .int .i64 0, .int .i64 0, .int .i64 0, .int .i64 0, .int .i64 0, .int .i64 0, .int .u64 0] := by
        have h := ((Blk.new ((w.alloc (.cells #[.int .i64 1, .int .i64 s, .int .i64 l, .int .i64 b, .int .i64 c, .int .u64 m, .slice A n cp] 25)).alloc (.cells #[.int .i64 0, .int .i64 0, .int .i64 0, .int .i64 0, .int .i64 0, .int .u64 0, .slice none 0 0, .int .u64 0, .int .u64 0, .int .i64 0, .int .u64 0, .int .u64 0, .int .i64 0, .int .i64 0, .int .i64 0, .int .i64 0, .int .i64 0, .int .i64 0, .int .i64 0, .int .i64 0, .int .u64 0] 49)) 49 #[.int .i64 0, .int .i64 0, .int .i64 0, .int .i64 0, .int .i64 0, .int .u64 0, .slice none 0 0, .int .u64 0, .int .u64 0, .int .i64 0, .int .u64 0, .int .u64 0, .int .i64 0, .int .i64 0, .int .i64 0, .int .i64 0, .int .i64 0, .int .i64 0, .int .i64 0, .int .i64 0, .int .u64 0]).drew).below hbl (by simp)
        simpa using h
      clear hHeld
      refine hK.out _ _ (HB.out _ hb1) (fun hHeld => ?_)
      clear hK K
      refine take_to (i := 4) (some 9) (v := ?_) rfl (by kernel_rfl) (by kernel_rfl) (by kernel_rfl) (fun _ _ _ h => h) rfl (Or.inl ⟨by rfl, ?_⟩) (by assumption) ?_
      rotate_left
      · intro w hSw
        clear hSw
        go_simp
        with_reducible rfl
      try simp only [Act.put, List.setIfInBounds_toArray, List.set_cons_zero, List.set_cons_succ]
      obtain ⟨V, hV⟩ : ∃ V : Array Value, V = #[.int .i64 1, .int .i64 s, .int .i64 l, .int .i64 b, .int .i64 c, .int .u64 m, .slice A n cp, .int .u64 fa, .int .u64 fb, .int .i64 fc, .int .u64 fd, .int .u64 fx, .int .i64 fy, .int .i64 1, .int .i64 0, .int .i64 1, .int .i64 1, .int .i64 2, .int .i64 1, .int .i64 0, .int .u64 0] := ⟨_, rfl⟩
      have hz : V.size = 21 := by rw [hV]; rfl
      have hst := run_put_row (P := Tryz.prog) hg V (by rw [hz]; rfl) (by rw [hV]; simp [Ones, Value.oneCell'])
      rw [← hV]
      replace hV := hide hV
      have hH := hide hHeld
      have hG := hide (hg.setRow V)
      have hbr := below_setRow hb1 (g := w.heap.size + 1 + 1) (by simp) V
      clear hHeld hg
      refine wpAnyH_ready (rs := [6]) (by kernel_rfl) (by simp) ?_
      refine AllReadyH.cons rfl (fun K hK => ?_) AllReadyH.nil
      go_simp
      refine hK.out _ _ (HB.out _ hbr) (fun hHeld => ?_)
      clear hK K hHeld
      refine wpAnyH_done (by kernel_rfl) ?_ _
      go_wp2_with fail
      go_meet
      exact ⟨w.heap.size + 1 + 1, fa, fb, fc, fd, fx, fy, rfl, by omega, by simpa using hbr, hV.out ▸ hG.out⟩
  case rest =>
    obtain ⟨g, fa, fb, fc, fd, fx, fy, rfl, hg, hb, hK⟩ := hcut
    have hX := ((Blk.new w 25 #[.int .i64 1, .int .i64 s, .int .i64 l, .int .i64 b, .int .i64 c, .int .u64 m, .slice A n cp]).alloc (.cells #[.int .i64 0, .int .i64 0, .int .i64 0, .int .i64 0, .int .i64 0, .int .u64 0, .slice none 0 0, .int .u64 0, .int .u64 0, .int .i64 0, .int .u64 0, .int .u64 0, .int .i64 0, .int .i64 0, .int .i64 0, .int .i64 0, .int .i64 0, .int .i64 0, .int .i64 0, .int .i64 0, .int .u64 0] 49)).below hb (by omega)
    have hR := (Blk.new (w.alloc (.cells #[.int .i64 1, .int .i64 s, .int .i64 l, .int .i64 b, .int .i64 c, .int .u64 m, .slice A n cp] 25)) 49 #[.int .i64 0, .int .i64 0, .int .i64 0, .int .i64 0, .int .i64 0, .int .u64 0, .slice none 0 0, .int .u64 0, .int .u64 0, .int .i64 0, .int .u64 0, .int .u64 0, .int .i64 0, .int .i64 0, .int .i64 0, .int .i64 0, .int .i64 0, .int .i64 0, .int .i64 0, .int .i64 0, .int .u64 0]).below hb (by simp)
    simp only [World.size_alloc] at hR
    have hB0 := (((Below.refl _ w).alloc (Nat.le_refl _) _).alloc (by simp) _).trans (hb.mono (by omega))
    have hne : w.heap.size + 1 ≠ g := by omega
    have hgw : w.heap.size ≤ g := by omega
    have x0 := hX.cell 0
    have x1 := hX.cell 1
    have x2 := hX.cell 2
    have x3 := hX.cell 3
    have x4 := hX.cell 4
    have x5 := hX.cell 5
    have y13 := hK.cell 13
    have y14 := hK.cell 14
    have y15 := hK.cell 15
    have y16 := hK.cell 16
    have y17 := hK.cell 17
    have y18 := hK.cell 18
    have y19 := hK.cell 19
    have y20 := hK.cell 20
    have hfz := hK.frozen
    simp only [List.getElem?_toArray, List.getElem?_cons_zero, List.getElem?_cons_succ] at x0 x1 x2 x3 x4 x5 y13 y14 y15 y16 y17 y18 y19 y20
    have HK := hide (And.intro hK (And.intro hR (And.intro hB0 (And.intro hne hgw))))
    clear hX hK hR hB0 hb hg
    go_upto_region 26 with fail
    obtain ⟨hK, hR, hB0, hne, hgw⟩ := HK.out
    obtain ⟨V, hV⟩ : ∃ V : Array Value, V = #[.int .i64 1, .int .i64 s, .int .i64 l, .int .i64 b, .int .i64 c, .int .u64 m, .slice A n cp, .int .u64 fa, .int .u64 fb, .int .i64 fc, .int .u64 fd, .int .u64 fx, .int .i64 fy, .int .i64 1, .int .i64 0, .int .i64 1, .int .i64 1, .int .i64 2, .int .i64 1, .int .i64 0, .int .u64 0] := ⟨_, rfl⟩
    have hz : V.size = 21 := by rw [hV]; rfl
    have ho : Ones V := by rw [hV]; simp [Ones, Value.oneCell']
    have hKV := hK
    try simp only [List.setIfInBounds_toArray, List.set_cons_zero, List.set_cons_succ] at hKV
    rw [← hV] at hKV
    have hRV := hR
    have hBV := hB0
    have hst := run_put_row (P := Tryz.prog) hRV V (by rw [hz]; rfl) ho
    have hP : Circ V 1 0 1 1 2 1 := ⟨hz, ho, by rw [hV]; rfl, by rw [hV]; rfl, by rw [hV]; rfl, by rw [hV]; rfl, by rw [hV]; rfl, by rw [hV]; rfl⟩
    replace hV := hide hV
    have HF := hide (And.intro hKV (And.intro (hRV.setRow V) (And.intro (below_setRow hBV (g := w.heap.size + 1) (by omega) V) hP)))
    clear hK hR hB0 hKV hRV hBV hP
    refine wp_region_lit ?_
    refine wpList_load_row rfl 49 _ rfl g (by rfl) 49 V (0, 0) _ HF.out.1 Tryz.underlying49 rfl (by rw [size49, hz]) ?_
    go_wp2_with fail
    exact bodyPost_ret (results_cell_row Tryz.results22 _ _ (w.heap.size + 1) 49 V (0, 0) _ (by rfl) HF.out.2.1 Tryz.underlying49 rfl (by rw [size49, hz])) rfl ⟨⟨V, rfl, HF.out.2.2.2⟩, HF.out.2.2.1⟩
set_option maxRecDepth 100000 in
set_option maxHeartbeats 4000000 in
theorem circ22_2 (s : Int) (l b c m : Int) (bl : Nat) (A : Option Addr) (n cp : Nat) (w : World) (hm0 : 0 ≤ m) (hm : m < 9223372036854775808) (hL : Lib.bitLen m.toNat = bl) : Calls Tryz.prog 22 #[.agg #[.int .i64 2, .int .i64 s, .int .i64 l, .int .i64 b, .int .i64 c, .int .u64 m, .slice A n cp]] w
    fun e w' => (∃ cs : Array Value, e = .returned (.agg cs) ∧ Circ cs (2 * (bl : Int)) 0 1 (2 * (bl : Int) + 1) 1 (2 * (bl : Int))) ∧ Below w.heap.size w w' := by
  have hbl : bl ≤ 63 := by rw [← hL]; exact (bitLen_bounds m.toNat (by omega)).1
  have HL := hide hL
  clear hL
  obtain ⟨off, hoff⟩ : ∃ off : Int, IntKind.u64.wrap (IntKind.u64.wrap (IntKind.u64.wrap (2 ^ bl) - 1) - m) = off := ⟨_, rfl⟩
  have hB := fun w' h => box22 (W0 := (w.alloc (.cells #[.int .i64 2, .int .i64 s, .int .i64 l, .int .i64 b, .int .i64 c, .int .u64 m, .slice A n cp] 25)).alloc (.cells #[.int .i64 0, .int .i64 0, .int .i64 0, .int .i64 0, .int .i64 0, .int .u64 0, .slice none 0 0, .int .u64 0, .int .u64 0, .int .i64 0, .int .u64 0, .int .u64 0, .int .i64 0, .int .i64 0, .int .i64 0, .int .i64 0, .int .i64 0, .int .i64 0, .int .i64 0, .int .i64 0, .int .u64 0] 49)) rfl ((Blk.new w 25 #[.int .i64 2, .int .i64 s, .int .i64 l, .int .i64 b, .int .i64 c, .int .u64 m, .slice A n cp]).alloc _) w' h
  have HB := hide hB
  clear hB
  go_enter Tryz.func22, Tryz.ntmps22
  go_upto_region 1 with fail
  go_cut [3] (fun s3 wx => ∃ (g : Nat) (fa fb fc fd fx fy : Int), s3 = .pointer (some ⟨g, 0, none⟩) ∧ w.heap.size + 2 ≤ g ∧ Below (w.heap.size + 2) ((w.alloc (.cells #[.int .i64 2, .int .i64 s, .int .i64 l, .int .i64 b, .int .i64 c, .int .u64 m, .slice A n cp] 25)).alloc (.cells #[.int .i64 0, .int .i64 0, .int .i64 0, .int .i64 0, .int .i64 0, .int .u64 0, .slice none 0 0, .int .u64 0, .int .u64 0, .int .i64 0, .int .u64 0, .int .u64 0, .int .i64 0, .int .i64 0, .int .i64 0, .int .i64 0, .int .i64 0, .int .i64 0, .int .i64 0, .int .i64 0, .int .u64 0] 49)) wx ∧ Blk wx g 49 #[.int .i64 2, .int .i64 s, .int .i64 l, .int .i64 b, .int .i64 c, .int .u64 m, .slice A n cp, .int .u64 fa, .int .u64 fb, .int .i64 fc, .int .u64 fd, .int .u64 fx, .int .i64 fy, .int .i64 1, .int .i64 0, .int .i64 1, .int .i64 1, .int .i64 2, .int .i64 1, .int .i64 0, .int .u64 0])
  case first =>
    refine wp_region_held_drew (S := (fun w' => w'.cell? ⟨w.heap.size, 0, none⟩ = some (.int .i64 2) ∧ w'.cell? ⟨w.heap.size, 1, none⟩ = some (.int .i64 s) ∧ w'.cell? ⟨w.heap.size, 2, none⟩ = some (.int .i64 l) ∧ w'.cell? ⟨w.heap.size, 3, none⟩ = some (.int .i64 b) ∧ w'.cell? ⟨w.heap.size, 4, none⟩ = some (.int .i64 c) ∧ w'.cell? ⟨w.heap.size, 5, none⟩ = some (.int .u64 m) ∧ w'.cell? ⟨w.heap.size, 6, none⟩ = some (.slice A n cp) ∧ Hid (Below ((w.alloc (.cells #[.int .i64 2, .int .i64 s, .int .i64 l, .int .i64 b, .int .i64 c, .int .u64 m, .slice A n cp] 25)).alloc (.cells #[.int .i64 0, .int .i64 0, .int .i64 0, .int .i64 0, .int .i64 0, .int .u64 0, .slice none 0 0, .int .u64 0, .int .u64 0, .int .i64 0, .int .u64 0, .int .u64 0, .int .i64 0, .int .i64 0, .int .i64 0, .int .i64 0, .int .i64 0, .int .i64 0, .int .i64 0, .int .i64 0, .int .u64 0] 49)).heap.size ((w.alloc (.cells #[.int .i64 2, .int .i64 s, .int .i64 l, .int .i64 b, .int .i64 c, .int .u64 m, .slice A n cp] 25)).alloc (.cells #[.int .i64 0, .int .i64 0, .int .i64 0, .int .i64 0, .int .i64 0, .int .u64 0, .slice none 0 0, .int .u64 0, .int .u64 0, .int .i64 0, .int .u64 0, .int .u64 0, .int .i64 0, .int .i64 0, .int .i64 0, .int .i64 0, .int .i64 0, .int .i64 0, .int .i64 0, .int .i64 0, .int .u64 0] 49)) w'))) (by kernel_rfl) (HB.out _ (Below.refl _ _).drew) (fun hHeld => ?_)
    refine take_to (i := 0) (some 5) (v := ?_) rfl (by kernel_rfl) (by kernel_rfl) (by kernel_rfl) (fun _ _ _ h => h) rfl (Or.inl ⟨by rfl, ?_⟩) (by assumption) ?_
    rotate_left
    · intro w hSw
      (try dsimp only at hSw)
      go_simp
      with_reducible rfl
    try simp only [Act.put, List.setIfInBounds_toArray, List.set_cons_zero, List.set_cons_succ]
    refine take_to (i := 1) (some 6) (v := ?_) rfl (by kernel_rfl) (by kernel_rfl) (by kernel_rfl) (fun _ _ _ h => h) rfl (Or.inl ⟨by rfl, ?_⟩) (by assumption) ?_
    rotate_left
    · intro w hSw
      (try dsimp only at hSw)
      go_simp
      with_reducible rfl
    try simp only [Act.put, List.setIfInBounds_toArray, List.set_cons_zero, List.set_cons_succ]
    refine take_to (i := 2) (some 7) (v := ?_) rfl (by kernel_rfl) (by kernel_rfl) (by kernel_rfl) (fun _ _ _ h => h) rfl (Or.inl ⟨by rfl, ?_⟩) (by assumption) ?_
    rotate_left
    · intro w hSw
      (try dsimp only at hSw)
      go_simp
      with_reducible rfl
    try simp only [Act.put, List.setIfInBounds_toArray, List.set_cons_zero, List.set_cons_succ]
    have hcore := core22 hHeld
    have hC := hide hcore
    clear hcore hHeld
    refine wpAnyH_ready (rs := [3, 5]) (by kernel_rfl) (by simp) ?_
    refine AllReadyH.cons rfl (fun K hK => ?_) (AllReadyH.cons rfl (fun K hK => ?_) AllReadyH.nil)
    · go_simp
      go_at_call 29
      refine (field29 _ _).mono ?_
      rintro e w1 ⟨⟨fa, fb, fc, fd, fx, fy, rfl⟩, hbl⟩
      go_wp2_with fail
      have hb1 := below_more hC.out hbl
      refine hK.out _ _ (HB.out _ hb1) (fun hHeld => ?_)
      clear hK K
      refine take_to (i := 4) (some 9) (v := ?_) rfl (by kernel_rfl) (by kernel_rfl) (by kernel_rfl) (fun _ _ _ h => h) rfl (Or.inl ⟨by rfl, ?_⟩) (by assumption) ?_
      rotate_left
      · intro w hSw
        clear hSw
        go_simp
        with_reducible rfl
      try simp only [Act.put, List.setIfInBounds_toArray, List.set_cons_zero, List.set_cons_succ]
      obtain ⟨V, hV⟩ : ∃ V : Array Value, V = #[.int .i64 2, .int .i64 s, .int .i64 l, .int .i64 b, .int .i64 c, .int .u64 m, .slice A n cp, .int .u64 fa, .int .u64 fb, .int .i64 fc, .int .u64 fd, .int .u64 fx, .int .i64 fy, .int .i64 1, .int .i64 0, .int .i64 1, .int .i64 1, .int .i64 2, .int .i64 1, .int .i64 0, .int .u64 0] := ⟨_, rfl⟩
      have hz : V.size = 21 := by rw [hV]; rfl
      have hst := run_put_new (P := Tryz.prog) (w := w1) (t := 49) #[.int .i64 0, .int .i64 0, .int .i64 0, .int .i64 0, .int .i64 0, .int .u64 0, .slice none 0 0, .int .u64 0, .int .u64 0, .int .i64 0, .int .u64 0, .int .u64 0, .int .i64 0, .int .i64 0, .int .i64 0, .int .i64 0, .int .i64 0, .int .i64 0, .int .i64 0, .int .i64 0, .int .u64 0] V (by rw [hz]; rfl) (by rw [hV]; simp [Ones, Value.oneCell'])
      rw [← hV]
      replace hV := hide hV
      have hH := hide hHeld
      clear hHeld
      refine wpAnyH_ready (rs := [5]) (by kernel_rfl) (by simp) ?_
      refine AllReadyH.cons rfl (fun K hK => ?_) AllReadyH.nil
      go_simp
      refine hK.out _ _ (HB.out _ (below_alloc_self _ hb1)) (fun hHeld => ?_)
      clear hK K hHeld
      refine wpAnyH_ready (rs := [6]) (by kernel_rfl) (by simp) ?_
      refine AllReadyH.cons rfl (fun K hK => ?_) AllReadyH.nil
      go_simp
      refine hK.out _ _ (HB.out _ (below_alloc_self _ hb1)) (fun hHeld => ?_)
      clear hK K hHeld
      refine wpAnyH_done (by kernel_rfl) ?_ _
      go_wp2_with fail
      go_meet
      exact ⟨w1.heap.size, fa, fb, fc, fd, fx, fy, rfl, by have := hb1.size; simpa using this, by simpa using below_alloc_self _ hb1, hV.out ▸ Blk.new w1 49 V⟩
    · go_simp
      have hb0 := (below_alloc_self (.cells #[.int .i64 0, .int .i64 0, .int .i64 0, .int .i64 0, .int .i64 0, .int .u64 0, .slice none 0 0, .int .u64 0, .int .u64 0, .int .i64 0, .int .u64 0, .int .u64 0, .int .i64 0, .int .i64 0, .int .i64 0, .int .i64 0, .int .i64 0, .int .i64 0, .int .i64 0, .int .i64 0, .int .u64 0] 49) (Below.refl ((w.alloc (.cells #[.int .i64 2, .int .i64 s, .int .i64 l, .int .i64 b, .int .i64 c, .int .u64 m, .slice A n cp] 25)).alloc (.cells #[.int .i64 0, .int .i64 0, .int .i64 0, .int .i64 0, .int .i64 0, .int .u64 0, .slice none 0 0, .int .u64 0, .int .u64 0, .int .i64 0, .int .u64 0, .int .u64 0, .int .i64 0, .int .i64 0, .int .i64 0, .int .i64 0, .int .i64 0, .int .i64 0, .int .i64 0, .int .i64 0, .int .u64 0] 49)).heap.size ((w.alloc (.cells #[.int .i64 2, .int .i64 s, .int .i64 l, .int .i64 b, .int .i64 c, .int .u64 m, .slice A n cp] 25)).alloc (.cells #[.int .i64 0, .int .i64 0, .int .i64 0, .int .i64 0, .int .i64 0, .int .u64 0, .slice none 0 0, .int .u64 0, .int .u64 0, .int .i64 0, .int .u64 0, .int .u64 0, .int .i64 0, .int .i64 0, .int .i64 0, .int .i64 0, .int .i64 0, .int .i64 0, .int .i64 0, .int .i64 0, .int .u64 0] 49)))).drew
      refine hK.out _ _ (HB.out _ hb0) (fun hHeld => ?_)
      clear hK K
      refine wpAnyH_ready (rs := [3]) (by kernel_rfl) (by simp) ?_
      refine AllReadyH.cons rfl (fun K hK => ?_) AllReadyH.nil
      go_simp
      go_at_call 29
      refine (field29 _ _).mono ?_
      rintro e w1 ⟨⟨fa, fb, fc, fd, fx, fy, rfl⟩, hbl⟩
      go_wp2_with fail
      have hb1 := below_more hb0 hbl
      have hg : Blk w1 (w.heap.size + 1 + 1) 49 #[.int .i64 0, .int .i64 0, .int .i64 0, .int .i64 0, .int .i64 0, .int .u64 0, .slice none 0 0, .int .u64 0, .int .u64 0, .int .i64 0, .int .u64 0, .int .u64 0, .int .i64 0, .int .i64 0, .int .i64 0, .int .i64 0, .int .i64 0, .int .i64 0, .int .i64 0, .int .i64 0, .int .u64 0] := by
        have h := ((Blk.new ((w.alloc (.cells #[.int .i64 2, .int .i64 s, .int .i64 l, .int .i64 b, .int .i64 c, .int .u64 m, .slice A n cp] 25)).alloc (.cells #[.int .i64 0, .int .i64 0, .int .i64 0, .int .i64 0, .int .i64 0, .int .u64 0, .slice none 0 0, .int .u64 0, .int .u64 0, .int .i64 0, .int .u64 0, .int .u64 0, .int .i64 0, .int .i64 0, .int .i64 0, .int .i64 0, .int .i64 0, .int .i64 0, .int .i64 0, .int .i64 0, .int .u64 0] 49)) 49 #[.int .i64 0, .int .i64 0, .int .i64 0, .int .i64 0, .int .i64 0, .int .u64 0, .slice none 0 0, .int .u64 0, .int .u64 0, .int .i64 0, .int .u64 0, .int .u64 0, .int .i64 0, .int .i64 0, .int .i64 0, .int .i64 0, .int .i64 0, .int .i64 0, .int .i64 0, .int .i64 0, .int .u64 0]).drew).below hbl (by simp)
        simpa using h
      clear hHeld
      refine hK.out _ _ (HB.out _ hb1) (fun hHeld => ?_)
      clear hK K
      refine take_to (i := 4) (some 9) (v := ?_) rfl (by kernel_rfl) (by kernel_rfl) (by kernel_rfl) (fun _ _ _ h => h) rfl (Or.inl ⟨by rfl, ?_⟩) (by assumption) ?_
      rotate_left
      · intro w hSw
        clear hSw
        go_simp
        with_reducible rfl
      try simp only [Act.put, List.setIfInBounds_toArray, List.set_cons_zero, List.set_cons_succ]
      obtain ⟨V, hV⟩ : ∃ V : Array Value, V = #[.int .i64 2, .int .i64 s, .int .i64 l, .int .i64 b, .int .i64 c, .int .u64 m, .slice A n cp, .int .u64 fa, .int .u64 fb, .int .i64 fc, .int .u64 fd, .int .u64 fx, .int .i64 fy, .int .i64 1, .int .i64 0, .int .i64 1, .int .i64 1, .int .i64 2, .int .i64 1, .int .i64 0, .int .u64 0] := ⟨_, rfl⟩
      have hz : V.size = 21 := by rw [hV]; rfl
      have hst := run_put_row (P := Tryz.prog) hg V (by rw [hz]; rfl) (by rw [hV]; simp [Ones, Value.oneCell'])
      rw [← hV]
      replace hV := hide hV
      have hH := hide hHeld
      have hG := hide (hg.setRow V)
      have hbr := below_setRow hb1 (g := w.heap.size + 1 + 1) (by simp) V
      clear hHeld hg
      refine wpAnyH_ready (rs := [6]) (by kernel_rfl) (by simp) ?_
      refine AllReadyH.cons rfl (fun K hK => ?_) AllReadyH.nil
      go_simp
      refine hK.out _ _ (HB.out _ hbr) (fun hHeld => ?_)
      clear hK K hHeld
      refine wpAnyH_done (by kernel_rfl) ?_ _
      go_wp2_with fail
      go_meet
      exact ⟨w.heap.size + 1 + 1, fa, fb, fc, fd, fx, fy, rfl, by omega, by simpa using hbr, hV.out ▸ hG.out⟩
  case rest =>
    obtain ⟨g, fa, fb, fc, fd, fx, fy, rfl, hg, hb, hK⟩ := hcut
    have hX := ((Blk.new w 25 #[.int .i64 2, .int .i64 s, .int .i64 l, .int .i64 b, .int .i64 c, .int .u64 m, .slice A n cp]).alloc (.cells #[.int .i64 0, .int .i64 0, .int .i64 0, .int .i64 0, .int .i64 0, .int .u64 0, .slice none 0 0, .int .u64 0, .int .u64 0, .int .i64 0, .int .u64 0, .int .u64 0, .int .i64 0, .int .i64 0, .int .i64 0, .int .i64 0, .int .i64 0, .int .i64 0, .int .i64 0, .int .i64 0, .int .u64 0] 49)).below hb (by omega)
    have hR := (Blk.new (w.alloc (.cells #[.int .i64 2, .int .i64 s, .int .i64 l, .int .i64 b, .int .i64 c, .int .u64 m, .slice A n cp] 25)) 49 #[.int .i64 0, .int .i64 0, .int .i64 0, .int .i64 0, .int .i64 0, .int .u64 0, .slice none 0 0, .int .u64 0, .int .u64 0, .int .i64 0, .int .u64 0, .int .u64 0, .int .i64 0, .int .i64 0, .int .i64 0, .int .i64 0, .int .i64 0, .int .i64 0, .int .i64 0, .int .i64 0, .int .u64 0]).below hb (by simp)
    simp only [World.size_alloc] at hR
    have hB0 := (((Below.refl _ w).alloc (Nat.le_refl _) _).alloc (by simp) _).trans (hb.mono (by omega))
    have hne : w.heap.size + 1 ≠ g := by omega
    have hgw : w.heap.size ≤ g := by omega
    have x0 := hX.cell 0
    have x1 := hX.cell 1
    have x2 := hX.cell 2
    have x3 := hX.cell 3
    have x4 := hX.cell 4
    have x5 := hX.cell 5
    have y13 := hK.cell 13
    have y14 := hK.cell 14
    have y15 := hK.cell 15
    have y16 := hK.cell 16
    have y17 := hK.cell 17
    have y18 := hK.cell 18
    have y19 := hK.cell 19
    have y20 := hK.cell 20
    have hfz := hK.frozen
    simp only [List.getElem?_toArray, List.getElem?_cons_zero, List.getElem?_cons_succ] at x0 x1 x2 x3 x4 x5 y13 y14 y15 y16 y17 y18 y19 y20
    have HK := hide (And.intro hK (And.intro hR (And.intro hB0 (And.intro hne hgw))))
    clear hX hK hR hB0 hb hg
    go_wp2_with fail
    refine (len30 m _ (by omega) (by omega)).mono ?_
    rintro e w' ⟨rfl, rfl⟩
    rw [HL.out]
    go_upto_region 12 with fail
    obtain ⟨hK, hR, hB0, hne, hgw⟩ := HK.out
    obtain ⟨V, hV⟩ : ∃ V : Array Value, V = #[.int .i64 2, .int .i64 s, .int .i64 l, .int .i64 b, .int .i64 c, .int .u64 m, .slice A n cp, .int .u64 fa, .int .u64 fb, .int .i64 fc, .int .u64 fd, .int .u64 fx, .int .i64 fy, .int .i64 (2 * (bl : Int)), .int .i64 0, .int .i64 1, .int .i64 (2 * (bl : Int) + 1), .int .i64 1, .int .i64 (2 * (bl : Int)), .int .i64 (bl : Int), .int .u64 off] := ⟨_, rfl⟩
    have hz : V.size = 21 := by rw [hV]; rfl
    have ho : Ones V := by rw [hV]; simp [Ones, Value.oneCell']
    have hKV := ((((((hK.set_ 19 (.int .i64 (bl : Int))).set_ 20 (.int .u64 off)).set_ 13 (.int .i64 (2 * (bl : Int)))).set_ 16 (.int .i64 (2 * (bl : Int) + 1))).set_ 17 (.int .i64 1)).set_ 18 (.int .i64 (2 * (bl : Int))))
    try simp only [List.setIfInBounds_toArray, List.set_cons_zero, List.set_cons_succ] at hKV
    rw [← hV] at hKV
    have hRV := ((((((hR.far (p := ⟨g, 19, none⟩) hne (.int .i64 (bl : Int))).far (p := ⟨g, 20, none⟩) hne (.int .u64 off)).far (p := ⟨g, 13, none⟩) hne (.int .i64 (2 * (bl : Int)))).far (p := ⟨g, 16, none⟩) hne (.int .i64 (2 * (bl : Int) + 1))).far (p := ⟨g, 17, none⟩) hne (.int .i64 1)).far (p := ⟨g, 18, none⟩) hne (.int .i64 (2 * (bl : Int))))
    have hBV := ((((((hB0.setCell (p := ⟨g, 19, none⟩) hgw (.int .i64 (bl : Int))).setCell (p := ⟨g, 20, none⟩) hgw (.int .u64 off)).setCell (p := ⟨g, 13, none⟩) hgw (.int .i64 (2 * (bl : Int)))).setCell (p := ⟨g, 16, none⟩) hgw (.int .i64 (2 * (bl : Int) + 1))).setCell (p := ⟨g, 17, none⟩) hgw (.int .i64 1)).setCell (p := ⟨g, 18, none⟩) hgw (.int .i64 (2 * (bl : Int))))
    have hst := run_put_row (P := Tryz.prog) hRV V (by rw [hz]; rfl) ho
    have hP : Circ V (2 * (bl : Int)) 0 1 (2 * (bl : Int) + 1) 1 (2 * (bl : Int)) := ⟨hz, ho, by rw [hV]; rfl, by rw [hV]; rfl, by rw [hV]; rfl, by rw [hV]; rfl, by rw [hV]; rfl, by rw [hV]; rfl⟩
    replace hV := hide hV
    have HF := hide (And.intro hKV (And.intro (hRV.setRow V) (And.intro (below_setRow hBV (g := w.heap.size + 1) (by omega) V) hP)))
    clear hK hR hB0 hKV hRV hBV hP
    generalize ((((((wc.setCell ⟨g, 19, none⟩ (.int .i64 (bl : Int))).setCell ⟨g, 20, none⟩ (.int .u64 off)).setCell ⟨g, 13, none⟩ (.int .i64 (2 * (bl : Int)))).setCell ⟨g, 16, none⟩ (.int .i64 (2 * (bl : Int) + 1))).setCell ⟨g, 17, none⟩ (.int .i64 1)).setCell ⟨g, 18, none⟩ (.int .i64 (2 * (bl : Int)))) = W at hst HF ⊢
    refine wp_region_lit ?_
    refine wpList_load_row rfl 49 _ rfl g (by rfl) 49 V (0, 0) _ HF.out.1 Tryz.underlying49 rfl (by rw [size49, hz]) ?_
    go_wp2_with fail
    exact bodyPost_ret (results_cell_row Tryz.results22 _ _ (w.heap.size + 1) 49 V (0, 0) _ (by rfl) HF.out.2.1 Tryz.underlying49 rfl (by rw [size49, hz])) rfl ⟨⟨V, rfl, HF.out.2.2.2⟩, HF.out.2.2.1⟩
set_option maxRecDepth 100000 in
set_option maxHeartbeats 4000000 in
theorem circ22_3 (s : Int) (l b c : Nat) (m : Int) (A : Option Addr) (n cp : Nat) (w : World) (hl : l ≤ 16) (hb : b ≤ 64) (hc0 : 1 ≤ c) (hc : c ≤ 16) : Calls Tryz.prog 22 #[.agg #[.int .i64 3, .int .i64 s, .int .i64 (l : Int), .int .i64 (b : Int), .int .i64 (c : Int), .int .u64 m, .slice A n cp]] w
    fun e w' => (∃ cs : Array Value, e = .returned (.agg cs) ∧ Circ cs ((l : Int) * (b : Int)) (((l : Int) * (b : Int) + (c : Int) - 1) / (c : Int)) (l : Int) 1 (2 * (c : Int)) (((l : Int) * (b : Int) + (c : Int) - 1) / (c : Int))) ∧ Below w.heap.size w w' := by
  have hmu : (l : Int) * (b : Int) ≤ 1024 ∧ 0 ≤ (l : Int) * (b : Int) := by
    have h1 := Int.natCast_mul l b
    have h2 : l * b ≤ 16 * 64 := Nat.mul_le_mul hl hb
    omega
  have hzc : ((c : Int) == 0) = false := by simp; omega
  have hB := fun w' h => box22 (W0 := (w.alloc (.cells #[.int .i64 3, .int .i64 s, .int .i64 (l : Int), .int .i64 (b : Int), .int .i64 (c : Int), .int .u64 m, .slice A n cp] 25)).alloc (.cells #[.int .i64 0, .int .i64 0, .int .i64 0, .int .i64 0, .int .i64 0, .int .u64 0, .slice none 0 0, .int .u64 0, .int .u64 0, .int .i64 0, .int .u64 0, .int .u64 0, .int .i64 0, .int .i64 0, .int .i64 0, .int .i64 0, .int .i64 0, .int .i64 0, .int .i64 0, .int .i64 0, .int .u64 0] 49)) rfl ((Blk.new w 25 #[.int .i64 3, .int .i64 s, .int .i64 (l : Int), .int .i64 (b : Int), .int .i64 (c : Int), .int .u64 m, .slice A n cp]).alloc _) w' h
  have HB := hide hB
  clear hB
  go_enter Tryz.func22, Tryz.ntmps22
  go_upto_region 1 with fail
  go_cut [3] (fun s3 wx => ∃ (g : Nat) (fa fb fc fd fx fy : Int), s3 = .pointer (some ⟨g, 0, none⟩) ∧ w.heap.size + 2 ≤ g ∧ Below (w.heap.size + 2) ((w.alloc (.cells #[.int .i64 3, .int .i64 s, .int .i64 (l : Int), .int .i64 (b : Int), .int .i64 (c : Int), .int .u64 m, .slice A n cp] 25)).alloc (.cells #[.int .i64 0, .int .i64 0, .int .i64 0, .int .i64 0, .int .i64 0, .int .u64 0, .slice none 0 0, .int .u64 0, .int .u64 0, .int .i64 0, .int .u64 0, .int .u64 0, .int .i64 0, .int .i64 0, .int .i64 0, .int .i64 0, .int .i64 0, .int .i64 0, .int .i64 0, .int .i64 0, .int .u64 0] 49)) wx ∧ Blk wx g 49 #[.int .i64 3, .int .i64 s, .int .i64 (l : Int), .int .i64 (b : Int), .int .i64 (c : Int), .int .u64 m, .slice A n cp, .int .u64 fa, .int .u64 fb, .int .i64 fc, .int .u64 fd, .int .u64 fx, .int .i64 fy, .int .i64 1, .int .i64 0, .int .i64 1, .int .i64 1, .int .i64 2, .int .i64 1, .int .i64 0, .int .u64 0])
  case first =>
    refine wp_region_held_drew (S := (fun w' => w'.cell? ⟨w.heap.size, 0, none⟩ = some (.int .i64 3) ∧ w'.cell? ⟨w.heap.size, 1, none⟩ = some (.int .i64 s) ∧ w'.cell? ⟨w.heap.size, 2, none⟩ = some (.int .i64 (l : Int)) ∧ w'.cell? ⟨w.heap.size, 3, none⟩ = some (.int .i64 (b : Int)) ∧ w'.cell? ⟨w.heap.size, 4, none⟩ = some (.int .i64 (c : Int)) ∧ w'.cell? ⟨w.heap.size, 5, none⟩ = some (.int .u64 m) ∧ w'.cell? ⟨w.heap.size, 6, none⟩ = some (.slice A n cp) ∧ Hid (Below ((w.alloc (.cells #[.int .i64 3, .int .i64 s, .int .i64 (l : Int), .int .i64 (b : Int), .int .i64 (c : Int), .int .u64 m, .slice A n cp] 25)).alloc (.cells #[.int .i64 0, .int .i64 0, .int .i64 0, .int .i64 0, .int .i64 0, .int .u64 0, .slice none 0 0, .int .u64 0, .int .u64 0, .int .i64 0, .int .u64 0, .int .u64 0, .int .i64 0, .int .i64 0, .int .i64 0, .int .i64 0, .int .i64 0, .int .i64 0, .int .i64 0, .int .i64 0, .int .u64 0] 49)).heap.size ((w.alloc (.cells #[.int .i64 3, .int .i64 s, .int .i64 (l : Int), .int .i64 (b : Int), .int .i64 (c : Int), .int .u64 m, .slice A n cp] 25)).alloc (.cells #[.int .i64 0, .int .i64 0, .int .i64 0, .int .i64 0, .int .i64 0, .int .u64 0, .slice none 0 0, .int .u64 0, .int .u64 0, .int .i64 0, .int .u64 0, .int .u64 0, .int .i64 0, .int .i64 0, .int .i64 0, .int .i64 0, .int .i64 0, .int .i64 0, .int .i64 0, .int .i64 0, .int .u64 0] 49)) w'))) (by kernel_rfl) (HB.out _ (Below.refl _ _).drew) (fun hHeld => ?_)
    refine take_to (i := 0) (some 5) (v := ?_) rfl (by kernel_rfl) (by kernel_rfl) (by kernel_rfl) (fun _ _ _ h => h) rfl (Or.inl ⟨by rfl, ?_⟩) (by assumption) ?_
    rotate_left
    · intro w hSw
      (try dsimp only at hSw)
      go_simp
      with_reducible rfl
    try simp only [Act.put, List.setIfInBounds_toArray, List.set_cons_zero, List.set_cons_succ]
    refine take_to (i := 1) (some 6) (v := ?_) rfl (by kernel_rfl) (by kernel_rfl) (by kernel_rfl) (fun _ _ _ h => h) rfl (Or.inl ⟨by rfl, ?_⟩) (by assumption) ?_
    rotate_left
    · intro w hSw
      (try dsimp only at hSw)
      go_simp
      with_reducible rfl
    try simp only [Act.put, List.setIfInBounds_toArray, List.set_cons_zero, List.set_cons_succ]
    refine take_to (i := 2) (some 7) (v := ?_) rfl (by kernel_rfl) (by kernel_rfl) (by kernel_rfl) (fun _ _ _ h => h) rfl (Or.inl ⟨by rfl, ?_⟩) (by assumption) ?_
    rotate_left
    · intro w hSw
      (try dsimp only at hSw)
      go_simp
      with_reducible rfl
    try simp only [Act.put, List.setIfInBounds_toArray, List.set_cons_zero, List.set_cons_succ]
    have hcore := core22 hHeld
    have hC := hide hcore
    clear hcore hHeld
    refine wpAnyH_ready (rs := [3, 5]) (by kernel_rfl) (by simp) ?_
    refine AllReadyH.cons rfl (fun K hK => ?_) (AllReadyH.cons rfl (fun K hK => ?_) AllReadyH.nil)
    · go_simp
      go_at_call 29
      refine (field29 _ _).mono ?_
      rintro e w1 ⟨⟨fa, fb, fc, fd, fx, fy, rfl⟩, hbl⟩
      go_wp2_with fail
      have hb1 := below_more hC.out hbl
      refine hK.out _ _ (HB.out _ hb1) (fun hHeld => ?_)
      clear hK K
      refine take_to (i := 4) (some 9) (v := ?_) rfl (by kernel_rfl) (by kernel_rfl) (by kernel_rfl) (fun _ _ _ h => h) rfl (Or.inl ⟨by rfl, ?_⟩) (by assumption) ?_
      rotate_left
      · intro w hSw
        clear hSw
        go_simp
        with_reducible rfl
      try simp only [Act.put, List.setIfInBounds_toArray, List.set_cons_zero, List.set_cons_succ]
      obtain ⟨V, hV⟩ : ∃ V : Array Value, V = #[.int .i64 3, .int .i64 s, .int .i64 (l : Int), .int .i64 (b : Int), .int .i64 (c : Int), .int .u64 m, .slice A n cp, .int .u64 fa, .int .u64 fb, .int .i64 fc, .int .u64 fd, .int .u64 fx, .int .i64 fy, .int .i64 1, .int .i64 0, .int .i64 1, .int .i64 1, .int .i64 2, .int .i64 1, .int .i64 0, .int .u64 0] := ⟨_, rfl⟩
      have hz : V.size = 21 := by rw [hV]; rfl
      have hst := run_put_new (P := Tryz.prog) (w := w1) (t := 49) #[.int .i64 0, .int .i64 0, .int .i64 0, .int .i64 0, .int .i64 0, .int .u64 0, .slice none 0 0, .int .u64 0, .int .u64 0, .int .i64 0, .int .u64 0, .int .u64 0, .int .i64 0, .int .i64 0, .int .i64 0, .int .i64 0, .int .i64 0, .int .i64 0, .int .i64 0, .int .i64 0, .int .u64 0] V (by rw [hz]; rfl) (by rw [hV]; simp [Ones, Value.oneCell'])
      rw [← hV]
      replace hV := hide hV
      have hH := hide hHeld
      clear hHeld
      refine wpAnyH_ready (rs := [5]) (by kernel_rfl) (by simp) ?_
      refine AllReadyH.cons rfl (fun K hK => ?_) AllReadyH.nil
      go_simp
      refine hK.out _ _ (HB.out _ (below_alloc_self _ hb1)) (fun hHeld => ?_)
      clear hK K hHeld
      refine wpAnyH_ready (rs := [6]) (by kernel_rfl) (by simp) ?_
      refine AllReadyH.cons rfl (fun K hK => ?_) AllReadyH.nil
      go_simp
      refine hK.out _ _ (HB.out _ (below_alloc_self _ hb1)) (fun hHeld => ?_)
      clear hK K hHeld
      refine wpAnyH_done (by kernel_rfl) ?_ _
      go_wp2_with fail
      go_meet
      exact ⟨w1.heap.size, fa, fb, fc, fd, fx, fy, rfl, by have := hb1.size; simpa using this, by simpa using below_alloc_self _ hb1, hV.out ▸ Blk.new w1 49 V⟩
    · go_simp
      have hb0 := (below_alloc_self (.cells #[.int .i64 0, .int .i64 0, .int .i64 0, .int .i64 0, .int .i64 0, .int .u64 0, .slice none 0 0, .int .u64 0, .int .u64 0, .int .i64 0, .int .u64 0, .int .u64 0, .int .i64 0, .int .i64 0, .int .i64 0, .int .i64 0, .int .i64 0, .int .i64 0, .int .i64 0, .int .i64 0, .int .u64 0] 49) (Below.refl ((w.alloc (.cells #[.int .i64 3, .int .i64 s, .int .i64 (l : Int), .int .i64 (b : Int), .int .i64 (c : Int), .int .u64 m, .slice A n cp] 25)).alloc (.cells #[.int .i64 0, .int .i64 0, .int .i64 0, .int .i64 0, .int .i64 0, .int .u64 0, .slice none 0 0, .int .u64 0, .int .u64 0, .int .i64 0, .int .u64 0, .int .u64 0, .int .i64 0, .int .i64 0, .int .i64 0, .int .i64 0, .int .i64 0, .int .i64 0, .int .i64 0, .int .i64 0, .int .u64 0] 49)).heap.size ((w.alloc (.cells #[.int .i64 3, .int .i64 s, .int .i64 (l : Int), .int .i64 (b : Int), .int .i64 (c : Int), .int .u64 m, .slice A n cp] 25)).alloc (.cells #[.int .i64 0, .int .i64 0, .int .i64 0, .int .i64 0, .int .i64 0, .int .u64 0, .slice none 0 0, .int .u64 0, .int .u64 0, .int .i64 0, .int .u64 0, .int .u64 0, .int .i64 0, .int .i64 0, .int .i64 0, .int .i64 0, .int .i64 0, .int .i64 0, .int .i64 0, .int .i64 0, .int .u64 0] 49)))).drew
      refine hK.out _ _ (HB.out _ hb0) (fun hHeld => ?_)
      clear hK K
      refine wpAnyH_ready (rs := [3]) (by kernel_rfl) (by simp) ?_
      refine AllReadyH.cons rfl (fun K hK => ?_) AllReadyH.nil
      go_simp
      go_at_call 29
      refine (field29 _ _).mono ?_
      rintro e w1 ⟨⟨fa, fb, fc, fd, fx, fy, rfl⟩, hbl⟩
      go_wp2_with fail
      have hb1 := below_more hb0 hbl
      have hg : Blk w1 (w.heap.size + 1 + 1) 49 #[.int .i64 0, .int .i64 0, .int .i64 0, .int .i64 0, .int .i64 0, .int .u64 0, .slice none 0 0, .int .u64 0, .int .u64 0, .int .i64 0, .int .u64 0, .int .u64 0, .int .i64 0, .int .i64 0, .int .i64 0, .int .i64 0, .int .i64 0, .int .i64 0, .int .i64 0, .int .i64 0, .int .u64 0] := by
        have h := ((Blk.new ((w.alloc (.cells #[.int .i64 3, .int .i64 s, .int .i64 (l : Int), .int .i64 (b : Int), .int .i64 (c : Int), .int .u64 m, .slice A n cp] 25)).alloc (.cells #[.int .i64 0, .int .i64 0, .int .i64 0, .int .i64 0, .int .i64 0, .int .u64 0, .slice none 0 0, .int .u64 0, .int .u64 0, .int .i64 0, .int .u64 0, .int .u64 0, .int .i64 0, .int .i64 0, .int .i64 0, .int .i64 0, .int .i64 0, .int .i64 0, .int .i64 0, .int .i64 0, .int .u64 0] 49)) 49 #[.int .i64 0, .int .i64 0, .int .i64 0, .int .i64 0, .int .i64 0, .int .u64 0, .slice none 0 0, .int .u64 0, .int .u64 0, .int .i64 0, .int .u64 0, .int .u64 0, .int .i64 0, .int .i64 0, .int .i64 0, .int .i64 0, .int .i64 0, .int .i64 0, .int .i64 0, .int .i64 0, .int .u64 0]).drew).below hbl (by simp)
        simpa using h
      clear hHeld
      refine hK.out _ _ (HB.out _ hb1) (fun hHeld => ?_)
      clear hK K
      refine take_to (i := 4) (some 9) (v := ?_) rfl (by kernel_rfl) (by kernel_rfl) (by kernel_rfl) (fun _ _ _ h => h) rfl (Or.inl ⟨by rfl, ?_⟩) (by assumption) ?_
      rotate_left
      · intro w hSw
        clear hSw
        go_simp
        with_reducible rfl
      try simp only [Act.put, List.setIfInBounds_toArray, List.set_cons_zero, List.set_cons_succ]
      obtain ⟨V, hV⟩ : ∃ V : Array Value, V = #[.int .i64 3, .int .i64 s, .int .i64 (l : Int), .int .i64 (b : Int), .int .i64 (c : Int), .int .u64 m, .slice A n cp, .int .u64 fa, .int .u64 fb, .int .i64 fc, .int .u64 fd, .int .u64 fx, .int .i64 fy, .int .i64 1, .int .i64 0, .int .i64 1, .int .i64 1, .int .i64 2, .int .i64 1, .int .i64 0, .int .u64 0] := ⟨_, rfl⟩
      have hz : V.size = 21 := by rw [hV]; rfl
      have hst := run_put_row (P := Tryz.prog) hg V (by rw [hz]; rfl) (by rw [hV]; simp [Ones, Value.oneCell'])
      rw [← hV]
      replace hV := hide hV
      have hH := hide hHeld
      have hG := hide (hg.setRow V)
      have hbr := below_setRow hb1 (g := w.heap.size + 1 + 1) (by simp) V
      clear hHeld hg
      refine wpAnyH_ready (rs := [6]) (by kernel_rfl) (by simp) ?_
      refine AllReadyH.cons rfl (fun K hK => ?_) AllReadyH.nil
      go_simp
      refine hK.out _ _ (HB.out _ hbr) (fun hHeld => ?_)
      clear hK K hHeld
      refine wpAnyH_done (by kernel_rfl) ?_ _
      go_wp2_with fail
      go_meet
      exact ⟨w.heap.size + 1 + 1, fa, fb, fc, fd, fx, fy, rfl, by omega, by simpa using hbr, hV.out ▸ hG.out⟩
  case rest =>
    obtain ⟨g, fa, fb, fc, fd, fx, fy, rfl, hg, hb, hK⟩ := hcut
    have hX := ((Blk.new w 25 #[.int .i64 3, .int .i64 s, .int .i64 (l : Int), .int .i64 (b : Int), .int .i64 (c : Int), .int .u64 m, .slice A n cp]).alloc (.cells #[.int .i64 0, .int .i64 0, .int .i64 0, .int .i64 0, .int .i64 0, .int .u64 0, .slice none 0 0, .int .u64 0, .int .u64 0, .int .i64 0, .int .u64 0, .int .u64 0, .int .i64 0, .int .i64 0, .int .i64 0, .int .i64 0, .int .i64 0, .int .i64 0, .int .i64 0, .int .i64 0, .int .u64 0] 49)).below hb (by omega)
    have hR := (Blk.new (w.alloc (.cells #[.int .i64 3, .int .i64 s, .int .i64 (l : Int), .int .i64 (b : Int), .int .i64 (c : Int), .int .u64 m, .slice A n cp] 25)) 49 #[.int .i64 0, .int .i64 0, .int .i64 0, .int .i64 0, .int .i64 0, .int .u64 0, .slice none 0 0, .int .u64 0, .int .u64 0, .int .i64 0, .int .u64 0, .int .u64 0, .int .i64 0, .int .i64 0, .int .i64 0, .int .i64 0, .int .i64 0, .int .i64 0, .int .i64 0, .int .i64 0, .int .u64 0]).below hb (by simp)
    simp only [World.size_alloc] at hR
    have hB0 := (((Below.refl _ w).alloc (Nat.le_refl _) _).alloc (by simp) _).trans (hb.mono (by omega))
    have hne : w.heap.size + 1 ≠ g := by omega
    have hgw : w.heap.size ≤ g := by omega
    have x0 := hX.cell 0
    have x1 := hX.cell 1
    have x2 := hX.cell 2
    have x3 := hX.cell 3
    have x4 := hX.cell 4
    have x5 := hX.cell 5
    have y13 := hK.cell 13
    have y14 := hK.cell 14
    have y15 := hK.cell 15
    have y16 := hK.cell 16
    have y17 := hK.cell 17
    have y18 := hK.cell 18
    have y19 := hK.cell 19
    have y20 := hK.cell 20
    have hfz := hK.frozen
    simp only [List.getElem?_toArray, List.getElem?_cons_zero, List.getElem?_cons_succ] at x0 x1 x2 x3 x4 x5 y13 y14 y15 y16 y17 y18 y19 y20
    have HK := hide (And.intro hK (And.intro hR (And.intro hB0 (And.intro hne hgw))))
    clear hX hK hR hB0 hb hg
    go_upto_region 26 with fail
    obtain ⟨hK, hR, hB0, hne, hgw⟩ := HK.out
    obtain ⟨V, hV⟩ : ∃ V : Array Value, V = #[.int .i64 3, .int .i64 s, .int .i64 (l : Int), .int .i64 (b : Int), .int .i64 (c : Int), .int .u64 m, .slice A n cp, .int .u64 fa, .int .u64 fb, .int .i64 fc, .int .u64 fd, .int .u64 fx, .int .i64 fy, .int .i64 ((l : Int) * (b : Int)), .int .i64 (((l : Int) * (b : Int) + (c : Int) - 1) / (c : Int)), .int .i64 (l : Int), .int .i64 1, .int .i64 (2 * (c : Int)), .int .i64 (((l : Int) * (b : Int) + (c : Int) - 1) / (c : Int)), .int .i64 0, .int .u64 0] := ⟨_, rfl⟩
    have hz : V.size = 21 := by rw [hV]; rfl
    have ho : Ones V := by rw [hV]; simp [Ones, Value.oneCell']
    have hKV := (((((hK.set_ 13 (.int .i64 ((l : Int) * (b : Int)))).set_ 15 (.int .i64 (l : Int))).set_ 18 (.int .i64 (((l : Int) * (b : Int) + (c : Int) - 1) / (c : Int)))).set_ 14 (.int .i64 (((l : Int) * (b : Int) + (c : Int) - 1) / (c : Int)))).set_ 17 (.int .i64 (2 * (c : Int))))
    try simp only [List.setIfInBounds_toArray, List.set_cons_zero, List.set_cons_succ] at hKV
    rw [← hV] at hKV
    have hRV := (((((hR.far (p := ⟨g, 13, none⟩) hne (.int .i64 ((l : Int) * (b : Int)))).far (p := ⟨g, 15, none⟩) hne (.int .i64 (l : Int))).far (p := ⟨g, 18, none⟩) hne (.int .i64 (((l : Int) * (b : Int) + (c : Int) - 1) / (c : Int)))).far (p := ⟨g, 14, none⟩) hne (.int .i64 (((l : Int) * (b : Int) + (c : Int) - 1) / (c : Int)))).far (p := ⟨g, 17, none⟩) hne (.int .i64 (2 * (c : Int))))
    have hBV := (((((hB0.setCell (p := ⟨g, 13, none⟩) hgw (.int .i64 ((l : Int) * (b : Int)))).setCell (p := ⟨g, 15, none⟩) hgw (.int .i64 (l : Int))).setCell (p := ⟨g, 18, none⟩) hgw (.int .i64 (((l : Int) * (b : Int) + (c : Int) - 1) / (c : Int)))).setCell (p := ⟨g, 14, none⟩) hgw (.int .i64 (((l : Int) * (b : Int) + (c : Int) - 1) / (c : Int)))).setCell (p := ⟨g, 17, none⟩) hgw (.int .i64 (2 * (c : Int))))
    have hst := run_put_row (P := Tryz.prog) hRV V (by rw [hz]; rfl) ho
    have hP : Circ V ((l : Int) * (b : Int)) (((l : Int) * (b : Int) + (c : Int) - 1) / (c : Int)) (l : Int) 1 (2 * (c : Int)) (((l : Int) * (b : Int) + (c : Int) - 1) / (c : Int)) := ⟨hz, ho, by rw [hV]; rfl, by rw [hV]; rfl, by rw [hV]; rfl, by rw [hV]; rfl, by rw [hV]; rfl, by rw [hV]; rfl⟩
    replace hV := hide hV
    have HF := hide (And.intro hKV (And.intro (hRV.setRow V) (And.intro (below_setRow hBV (g := w.heap.size + 1) (by omega) V) hP)))
    clear hK hR hB0 hKV hRV hBV hP
    generalize (((((wc.setCell ⟨g, 13, none⟩ (.int .i64 ((l : Int) * (b : Int)))).setCell ⟨g, 15, none⟩ (.int .i64 (l : Int))).setCell ⟨g, 18, none⟩ (.int .i64 (((l : Int) * (b : Int) + (c : Int) - 1) / (c : Int)))).setCell ⟨g, 14, none⟩ (.int .i64 (((l : Int) * (b : Int) + (c : Int) - 1) / (c : Int)))).setCell ⟨g, 17, none⟩ (.int .i64 (2 * (c : Int)))) = W at hst HF ⊢
    refine wp_region_lit ?_
    refine wpList_load_row rfl 49 _ rfl g (by rfl) 49 V (0, 0) _ HF.out.1 Tryz.underlying49 rfl (by rw [size49, hz]) ?_
    go_wp2_with fail
    exact bodyPost_ret (results_cell_row Tryz.results22 _ _ (w.heap.size + 1) 49 V (0, 0) _ (by rfl) HF.out.2.1 Tryz.underlying49 rfl (by rw [size49, hz])) rfl ⟨⟨V, rfl, HF.out.2.2.2⟩, HF.out.2.2.1⟩
set_option maxRecDepth 100000 in
set_option maxHeartbeats 4000000 in
theorem circ22_4 (s : Int) (l c : Nat) (b m : Int) (A : Option Addr) (n cp : Nat) (w : World) (hl0 : 1 ≤ l) (hl : l ≤ 16) (hc0 : 1 ≤ c) (hc : c ≤ 16) : Calls Tryz.prog 22 #[.agg #[.int .i64 4, .int .i64 s, .int .i64 (l : Int), .int .i64 b, .int .i64 (c : Int), .int .u64 m, .slice A n cp]] w
    fun e w' => (∃ cs : Array Value, e = .returned (.agg cs) ∧ Circ cs (l : Int) (((l : Int) + (c : Int) - 1) / (c : Int)) (l : Int) 2 (2 * (c : Int)) (((l : Int) + (c : Int) - 1) / (c : Int))) ∧ Below w.heap.size w w' := by
  have hzc : ((c : Int) == 0) = false := by simp; omega
  have hB := fun w' h => box22 (W0 := (w.alloc (.cells #[.int .i64 4, .int .i64 s, .int .i64 (l : Int), .int .i64 b, .int .i64 (c : Int), .int .u64 m, .slice A n cp] 25)).alloc (.cells #[.int .i64 0, .int .i64 0, .int .i64 0, .int .i64 0, .int .i64 0, .int .u64 0, .slice none 0 0, .int .u64 0, .int .u64 0, .int .i64 0, .int .u64 0, .int .u64 0, .int .i64 0, .int .i64 0, .int .i64 0, .int .i64 0, .int .i64 0, .int .i64 0, .int .i64 0, .int .i64 0, .int .u64 0] 49)) rfl ((Blk.new w 25 #[.int .i64 4, .int .i64 s, .int .i64 (l : Int), .int .i64 b, .int .i64 (c : Int), .int .u64 m, .slice A n cp]).alloc _) w' h
  have HB := hide hB
  clear hB
  go_enter Tryz.func22, Tryz.ntmps22
  go_upto_region 1 with fail
  go_cut [3] (fun s3 wx => ∃ (g : Nat) (fa fb fc fd fx fy : Int), s3 = .pointer (some ⟨g, 0, none⟩) ∧ w.heap.size + 2 ≤ g ∧ Below (w.heap.size + 2) ((w.alloc (.cells #[.int .i64 4, .int .i64 s, .int .i64 (l : Int), .int .i64 b, .int .i64 (c : Int), .int .u64 m, .slice A n cp] 25)).alloc (.cells #[.int .i64 0, .int .i64 0, .int .i64 0, .int .i64 0, .int .i64 0, .int .u64 0, .slice none 0 0, .int .u64 0, .int .u64 0, .int .i64 0, .int .u64 0, .int .u64 0, .int .i64 0, .int .i64 0, .int .i64 0, .int .i64 0, .int .i64 0, .int .i64 0, .int .i64 0, .int .i64 0, .int .u64 0] 49)) wx ∧ Blk wx g 49 #[.int .i64 4, .int .i64 s, .int .i64 (l : Int), .int .i64 b, .int .i64 (c : Int), .int .u64 m, .slice A n cp, .int .u64 fa, .int .u64 fb, .int .i64 fc, .int .u64 fd, .int .u64 fx, .int .i64 fy, .int .i64 1, .int .i64 0, .int .i64 1, .int .i64 1, .int .i64 2, .int .i64 1, .int .i64 0, .int .u64 0])
  case first =>
    refine wp_region_held_drew (S := (fun w' => w'.cell? ⟨w.heap.size, 0, none⟩ = some (.int .i64 4) ∧ w'.cell? ⟨w.heap.size, 1, none⟩ = some (.int .i64 s) ∧ w'.cell? ⟨w.heap.size, 2, none⟩ = some (.int .i64 (l : Int)) ∧ w'.cell? ⟨w.heap.size, 3, none⟩ = some (.int .i64 b) ∧ w'.cell? ⟨w.heap.size, 4, none⟩ = some (.int .i64 (c : Int)) ∧ w'.cell? ⟨w.heap.size, 5, none⟩ = some (.int .u64 m) ∧ w'.cell? ⟨w.heap.size, 6, none⟩ = some (.slice A n cp) ∧ Hid (Below ((w.alloc (.cells #[.int .i64 4, .int .i64 s, .int .i64 (l : Int), .int .i64 b, .int .i64 (c : Int), .int .u64 m, .slice A n cp] 25)).alloc (.cells #[.int .i64 0, .int .i64 0, .int .i64 0, .int .i64 0, .int .i64 0, .int .u64 0, .slice none 0 0, .int .u64 0, .int .u64 0, .int .i64 0, .int .u64 0, .int .u64 0, .int .i64 0, .int .i64 0, .int .i64 0, .int .i64 0, .int .i64 0, .int .i64 0, .int .i64 0, .int .i64 0, .int .u64 0] 49)).heap.size ((w.alloc (.cells #[.int .i64 4, .int .i64 s, .int .i64 (l : Int), .int .i64 b, .int .i64 (c : Int), .int .u64 m, .slice A n cp] 25)).alloc (.cells #[.int .i64 0, .int .i64 0, .int .i64 0, .int .i64 0, .int .i64 0, .int .u64 0, .slice none 0 0, .int .u64 0, .int .u64 0, .int .i64 0, .int .u64 0, .int .u64 0, .int .i64 0, .int .i64 0, .int .i64 0, .int .i64 0, .int .i64 0, .int .i64 0, .int .i64 0, .int .i64 0, .int .u64 0] 49)) w'))) (by kernel_rfl) (HB.out _ (Below.refl _ _).drew) (fun hHeld => ?_)
    refine take_to (i := 0) (some 5) (v := ?_) rfl (by kernel_rfl) (by kernel_rfl) (by kernel_rfl) (fun _ _ _ h => h) rfl (Or.inl ⟨by rfl, ?_⟩) (by assumption) ?_
    rotate_left
    · intro w hSw
      (try dsimp only at hSw)
      go_simp
      with_reducible rfl
    try simp only [Act.put, List.setIfInBounds_toArray, List.set_cons_zero, List.set_cons_succ]
    refine take_to (i := 1) (some 6) (v := ?_) rfl (by kernel_rfl) (by kernel_rfl) (by kernel_rfl) (fun _ _ _ h => h) rfl (Or.inl ⟨by rfl, ?_⟩) (by assumption) ?_
    rotate_left
    · intro w hSw
      (try dsimp only at hSw)
      go_simp
      with_reducible rfl
    try simp only [Act.put, List.setIfInBounds_toArray, List.set_cons_zero, List.set_cons_succ]
    refine take_to (i := 2) (some 7) (v := ?_) rfl (by kernel_rfl) (by kernel_rfl) (by kernel_rfl) (fun _ _ _ h => h) rfl (Or.inl ⟨by rfl, ?_⟩) (by assumption) ?_
    rotate_left
    · intro w hSw
      (try dsimp only at hSw)
      go_simp
      with_reducible rfl
    try simp only [Act.put, List.setIfInBounds_toArray, List.set_cons_zero, List.set_cons_succ]
    have hcore := core22 hHeld
    have hC := hide hcore
    clear hcore hHeld
    refine wpAnyH_ready (rs := [3, 5]) (by kernel_rfl) (by simp) ?_
    refine AllReadyH.cons rfl (fun K hK => ?_) (AllReadyH.cons rfl (fun K hK => ?_) AllReadyH.nil)
    · go_simp
      go_at_call 29
      refine (field29 _ _).mono ?_
      rintro e w1 ⟨⟨fa, fb, fc, fd, fx, fy, rfl⟩, hbl⟩
      go_wp2_with fail
      have hb1 := below_more hC.out hbl
      refine hK.out _ _ (HB.out _ hb1) (fun hHeld => ?_)
      clear hK K
      refine take_to (i := 4) (some 9) (v := ?_) rfl (by kernel_rfl) (by kernel_rfl) (by kernel_rfl) (fun _ _ _ h => h) rfl (Or.inl ⟨by rfl, ?_⟩) (by assumption) ?_
      rotate_left
      · intro w hSw
        clear hSw
        go_simp
        with_reducible rfl
      try simp only [Act.put, List.setIfInBounds_toArray, List.set_cons_zero, List.set_cons_succ]
      obtain ⟨V, hV⟩ : ∃ V : Array Value, V = #[.int .i64 4, .int .i64 s, .int .i64 (l : Int), .int .i64 b, .int .i64 (c : Int), .int .u64 m, .slice A n cp, .int .u64 fa, .int .u64 fb, .int .i64 fc, .int .u64 fd, .int .u64 fx, .int .i64 fy, .int .i64 1, .int .i64 0, .int .i64 1, .int .i64 1, .int .i64 2, .int .i64 1, .int .i64 0, .int .u64 0] := ⟨_, rfl⟩
      have hz : V.size = 21 := by rw [hV]; rfl
      have hst := run_put_new (P := Tryz.prog) (w := w1) (t := 49) #[.int .i64 0, .int .i64 0, .int .i64 0, .int .i64 0, .int .i64 0, .int .u64 0, .slice none 0 0, .int .u64 0, .int .u64 0, .int .i64 0, .int .u64 0, .int .u64 0, .int .i64 0, .int .i64 0, .int .i64 0, .int .i64 0, .int .i64 0, .int .i64 0, .int .i64 0, .int .i64 0, .int .u64 0] V (by rw [hz]; rfl) (by rw [hV]; simp [Ones, Value.oneCell'])
      rw [← hV]
      replace hV := hide hV
      have hH := hide hHeld
      clear hHeld
      refine wpAnyH_ready (rs := [5]) (by kernel_rfl) (by simp) ?_
      refine AllReadyH.cons rfl (fun K hK => ?_) AllReadyH.nil
      go_simp
      refine hK.out _ _ (HB.out _ (below_alloc_self _ hb1)) (fun hHeld => ?_)
      clear hK K hHeld
      refine wpAnyH_ready (rs := [6]) (by kernel_rfl) (by simp) ?_
      refine AllReadyH.cons rfl (fun K hK => ?_) AllReadyH.nil
      go_simp
      refine hK.out _ _ (HB.out _ (below_alloc_self _ hb1)) (fun hHeld => ?_)
      clear hK K hHeld
      refine wpAnyH_done (by kernel_rfl) ?_ _
      go_wp2_with fail
      go_meet
      exact ⟨w1.heap.size, fa, fb, fc, fd, fx, fy, rfl, by have := hb1.size; simpa using this, by simpa using below_alloc_self _ hb1, hV.out ▸ Blk.new w1 49 V⟩
    · go_simp
      have hb0 := (below_alloc_self (.cells #[.int .i64 0, .int .i64 0, .int .i64 0, .int .i64 0, .int .i64 0, .int .u64 0, .slice none 0 0, .int .u64 0, .int .u64 0, .int .i64 0, .int .u64 0, .int .u64 0, .int .i64 0, .int .i64 0, .int .i64 0, .int .i64 0, .int .i64 0, .int .i64 0, .int .i64 0, .int .i64 0, .int .u64 0] 49) (Below.refl ((w.alloc (.cells #[.int .i64 4, .int .i64 s, .int .i64 (l : Int), .int .i64 b, .int .i64 (c : Int), .int .u64 m, .slice A n cp] 25)).alloc (.cells #[.int .i64 0, .int .i64 0, .int .i64 0, .int .i64 0, .int .i64 0, .int .u64 0, .slice none 0 0, .int .u64 0, .int .u64 0, .int .i64 0, .int .u64 0, .int .u64 0, .int .i64 0, .int .i64 0, .int .i64 0, .int .i64 0, .int .i64 0, .int .i64 0, .int .i64 0, .int .i64 0, .int .u64 0] 49)).heap.size ((w.alloc (.cells #[.int .i64 4, .int .i64 s, .int .i64 (l : Int), .int .i64 b, .int .i64 (c : Int), .int .u64 m, .slice A n cp] 25)).alloc (.cells #[.int .i64 0, .int .i64 0, .int .i64 0, .int .i64 0, .int .i64 0, .int .u64 0, .slice none 0 0, .int .u64 0, .int .u64 0, .int .i64 0, .int .u64 0, .int .u64 0, .int .i64 0, .int .i64 0, .int .i64 0, .int .i64 0, .int .i64 0, .int .i64 0, .int .i64 0, .int .i64 0, .int .u64 0] 49)))).drew
      refine hK.out _ _ (HB.out _ hb0) (fun hHeld => ?_)
      clear hK K
      refine wpAnyH_ready (rs := [3]) (by kernel_rfl) (by simp) ?_
      refine AllReadyH.cons rfl (fun K hK => ?_) AllReadyH.nil
      go_simp
      go_at_call 29
      refine (field29 _ _).mono ?_
      rintro e w1 ⟨⟨fa, fb, fc, fd, fx, fy, rfl⟩, hbl⟩
      go_wp2_with fail
      have hb1 := below_more hb0 hbl
      have hg : Blk w1 (w.heap.size + 1 + 1) 49 #[.int .i64 0, .int .i64 0, .int .i64 0, .int .i64 0, .int .i64 0, .int .u64 0, .slice none 0 0, .int .u64 0, .int .u64 0, .int .i64 0, .int .u64 0, .int .u64 0, .int .i64 0, .int .i64 0, .int .i64 0, .int .i64 0, .int .i64 0, .int .i64 0, .int .i64 0, .int .i64 0, .int .u64 0] := by
        have h := ((Blk.new ((w.alloc (.cells #[.int .i64 4, .int .i64 s, .int .i64 (l : Int), .int .i64 b, .int .i64 (c : Int), .int .u64 m, .slice A n cp] 25)).alloc (.cells #[.int .i64 0, .int .i64 0, .int .i64 0, .int .i64 0, .int .i64 0, .int .u64 0, .slice none 0 0, .int .u64 0, .int .u64 0, .int .i64 0, .int .u64 0, .int .u64 0, .int .i64 0, .int .i64 0, .int .i64 0, .int .i64 0, .int .i64 0, .int .i64 0, .int .i64 0, .int .i64 0, .int .u64 0] 49)) 49 #[.int .i64 0, .int .i64 0, .int .i64 0, .int .i64 0, .int .i64 0, .int .u64 0, .slice none 0 0, .int .u64 0, .int .u64 0, .int .i64 0, .int .u64 0, .int .u64 0, .int .i64 0, .int .i64 0, .int .i64 0, .int .i64 0, .int .i64 0, .int .i64 0, .int .i64 0, .int .i64 0, .int .u64 0]).drew).below hbl (by simp)
        simpa using h
      clear hHeld
      refine hK.out _ _ (HB.out _ hb1) (fun hHeld => ?_)
      clear hK K
      refine take_to (i := 4) (some 9) (v := ?_) rfl (by kernel_rfl) (by kernel_rfl) (by kernel_rfl) (fun _ _ _ h => h) rfl (Or.inl ⟨by rfl, ?_⟩) (by assumption) ?_
      rotate_left
      · intro w hSw
        clear hSw
        go_simp
        with_reducible rfl
      try simp only [Act.put, List.setIfInBounds_toArray, List.set_cons_zero, List.set_cons_succ]
      obtain ⟨V, hV⟩ : ∃ V : Array Value, V = #[.int .i64 4, .int .i64 s, .int .i64 (l : Int), .int .i64 b, .int .i64 (c : Int), .int .u64 m, .slice A n cp, .int .u64 fa, .int .u64 fb, .int .i64 fc, .int .u64 fd, .int .u64 fx, .int .i64 fy, .int .i64 1, .int .i64 0, .int .i64 1, .int .i64 1, .int .i64 2, .int .i64 1, .int .i64 0, .int .u64 0] := ⟨_, rfl⟩
      have hz : V.size = 21 := by rw [hV]; rfl
      have hst := run_put_row (P := Tryz.prog) hg V (by rw [hz]; rfl) (by rw [hV]; simp [Ones, Value.oneCell'])
      rw [← hV]
      replace hV := hide hV
      have hH := hide hHeld
      have hG := hide (hg.setRow V)
      have hbr := below_setRow hb1 (g := w.heap.size + 1 + 1) (by simp) V
      clear hHeld hg
      refine wpAnyH_ready (rs := [6]) (by kernel_rfl) (by simp) ?_
      refine AllReadyH.cons rfl (fun K hK => ?_) AllReadyH.nil
      go_simp
      refine hK.out _ _ (HB.out _ hbr) (fun hHeld => ?_)
      clear hK K hHeld
      refine wpAnyH_done (by kernel_rfl) ?_ _
      go_wp2_with fail
      go_meet
      exact ⟨w.heap.size + 1 + 1, fa, fb, fc, fd, fx, fy, rfl, by omega, by simpa using hbr, hV.out ▸ hG.out⟩
  case rest =>
    obtain ⟨g, fa, fb, fc, fd, fx, fy, rfl, hg, hb, hK⟩ := hcut
    have hX := ((Blk.new w 25 #[.int .i64 4, .int .i64 s, .int .i64 (l : Int), .int .i64 b, .int .i64 (c : Int), .int .u64 m, .slice A n cp]).alloc (.cells #[.int .i64 0, .int .i64 0, .int .i64 0, .int .i64 0, .int .i64 0, .int .u64 0, .slice none 0 0, .int .u64 0, .int .u64 0, .int .i64 0, .int .u64 0, .int .u64 0, .int .i64 0, .int .i64 0, .int .i64 0, .int .i64 0, .int .i64 0, .int .i64 0, .int .i64 0, .int .i64 0, .int .u64 0] 49)).below hb (by omega)
    have hR := (Blk.new (w.alloc (.cells #[.int .i64 4, .int .i64 s, .int .i64 (l : Int), .int .i64 b, .int .i64 (c : Int), .int .u64 m, .slice A n cp] 25)) 49 #[.int .i64 0, .int .i64 0, .int .i64 0, .int .i64 0, .int .i64 0, .int .u64 0, .slice none 0 0, .int .u64 0, .int .u64 0, .int .i64 0, .int .u64 0, .int .u64 0, .int .i64 0, .int .i64 0, .int .i64 0, .int .i64 0, .int .i64 0, .int .i64 0, .int .i64 0, .int .i64 0, .int .u64 0]).below hb (by simp)
    simp only [World.size_alloc] at hR
    have hB0 := (((Below.refl _ w).alloc (Nat.le_refl _) _).alloc (by simp) _).trans (hb.mono (by omega))
    have hne : w.heap.size + 1 ≠ g := by omega
    have hgw : w.heap.size ≤ g := by omega
    have x0 := hX.cell 0
    have x1 := hX.cell 1
    have x2 := hX.cell 2
    have x3 := hX.cell 3
    have x4 := hX.cell 4
    have x5 := hX.cell 5
    have y13 := hK.cell 13
    have y14 := hK.cell 14
    have y15 := hK.cell 15
    have y16 := hK.cell 16
    have y17 := hK.cell 17
    have y18 := hK.cell 18
    have y19 := hK.cell 19
    have y20 := hK.cell 20
    have hfz := hK.frozen
    simp only [List.getElem?_toArray, List.getElem?_cons_zero, List.getElem?_cons_succ] at x0 x1 x2 x3 x4 x5 y13 y14 y15 y16 y17 y18 y19 y20
    have HK := hide (And.intro hK (And.intro hR (And.intro hB0 (And.intro hne hgw))))
    clear hX hK hR hB0 hb hg
    go_upto_region 26 with fail
    obtain ⟨hK, hR, hB0, hne, hgw⟩ := HK.out
    obtain ⟨V, hV⟩ : ∃ V : Array Value, V = #[.int .i64 4, .int .i64 s, .int .i64 (l : Int), .int .i64 b, .int .i64 (c : Int), .int .u64 m, .slice A n cp, .int .u64 fa, .int .u64 fb, .int .i64 fc, .int .u64 fd, .int .u64 fx, .int .i64 fy, .int .i64 (l : Int), .int .i64 (((l : Int) + (c : Int) - 1) / (c : Int)), .int .i64 (l : Int), .int .i64 2, .int .i64 (2 * (c : Int)), .int .i64 (((l : Int) + (c : Int) - 1) / (c : Int)), .int .i64 0, .int .u64 0] := ⟨_, rfl⟩
    have hz : V.size = 21 := by rw [hV]; rfl
    have ho : Ones V := by rw [hV]; simp [Ones, Value.oneCell']
    have hKV := ((((((hK.set_ 13 (.int .i64 (l : Int))).set_ 16 (.int .i64 2)).set_ 15 (.int .i64 (l : Int))).set_ 18 (.int .i64 (((l : Int) + (c : Int) - 1) / (c : Int)))).set_ 14 (.int .i64 (((l : Int) + (c : Int) - 1) / (c : Int)))).set_ 17 (.int .i64 (2 * (c : Int))))
    try simp only [List.setIfInBounds_toArray, List.set_cons_zero, List.set_cons_succ] at hKV
    rw [← hV] at hKV
    have hRV := ((((((hR.far (p := ⟨g, 13, none⟩) hne (.int .i64 (l : Int))).far (p := ⟨g, 16, none⟩) hne (.int .i64 2)).far (p := ⟨g, 15, none⟩) hne (.int .i64 (l : Int))).far (p := ⟨g, 18, none⟩) hne (.int .i64 (((l : Int) + (c : Int) - 1) / (c : Int)))).far (p := ⟨g, 14, none⟩) hne (.int .i64 (((l : Int) + (c : Int) - 1) / (c : Int)))).far (p := ⟨g, 17, none⟩) hne (.int .i64 (2 * (c : Int))))
    have hBV := ((((((hB0.setCell (p := ⟨g, 13, none⟩) hgw (.int .i64 (l : Int))).setCell (p := ⟨g, 16, none⟩) hgw (.int .i64 2)).setCell (p := ⟨g, 15, none⟩) hgw (.int .i64 (l : Int))).setCell (p := ⟨g, 18, none⟩) hgw (.int .i64 (((l : Int) + (c : Int) - 1) / (c : Int)))).setCell (p := ⟨g, 14, none⟩) hgw (.int .i64 (((l : Int) + (c : Int) - 1) / (c : Int)))).setCell (p := ⟨g, 17, none⟩) hgw (.int .i64 (2 * (c : Int))))
    have hst := run_put_row (P := Tryz.prog) hRV V (by rw [hz]; rfl) ho
    have hP : Circ V (l : Int) (((l : Int) + (c : Int) - 1) / (c : Int)) (l : Int) 2 (2 * (c : Int)) (((l : Int) + (c : Int) - 1) / (c : Int)) := ⟨hz, ho, by rw [hV]; rfl, by rw [hV]; rfl, by rw [hV]; rfl, by rw [hV]; rfl, by rw [hV]; rfl, by rw [hV]; rfl⟩
    replace hV := hide hV
    have HF := hide (And.intro hKV (And.intro (hRV.setRow V) (And.intro (below_setRow hBV (g := w.heap.size + 1) (by omega) V) hP)))
    clear hK hR hB0 hKV hRV hBV hP
    generalize ((((((wc.setCell ⟨g, 13, none⟩ (.int .i64 (l : Int))).setCell ⟨g, 16, none⟩ (.int .i64 2)).setCell ⟨g, 15, none⟩ (.int .i64 (l : Int))).setCell ⟨g, 18, none⟩ (.int .i64 (((l : Int) + (c : Int) - 1) / (c : Int)))).setCell ⟨g, 14, none⟩ (.int .i64 (((l : Int) + (c : Int) - 1) / (c : Int)))).setCell ⟨g, 17, none⟩ (.int .i64 (2 * (c : Int)))) = W at hst HF ⊢
    refine wp_region_lit ?_
    refine wpList_load_row rfl 49 _ rfl g (by rfl) 49 V (0, 0) _ HF.out.1 Tryz.underlying49 rfl (by rw [size49, hz]) ?_
    go_wp2_with fail
    exact bodyPost_ret (results_cell_row Tryz.results22 _ _ (w.heap.size + 1) 49 V (0, 0) _ (by rfl) HF.out.2.1 Tryz.underlying49 rfl (by rw [size49, hz])) rfl ⟨⟨V, rfl, HF.out.2.2.2⟩, HF.out.2.2.1⟩
set_option maxRecDepth 100000 in
set_option maxHeartbeats 4000000 in
theorem circ22_5 (s : Int) (l c bl : Nat) (b m : Int) (A : Option Addr) (n cp : Nat) (w : World) (hl0 : 1 ≤ l) (hl : l ≤ 16) (hc0 : 1 ≤ c) (hc : c ≤ 16) (hm0 : 0 ≤ m) (hm : m ≤ (l : Int)) (hL : Lib.bitLen m.toNat = bl) : Calls Tryz.prog 22 #[.agg #[.int .i64 5, .int .i64 s, .int .i64 (l : Int), .int .i64 b, .int .i64 (c : Int), .int .u64 m, .slice A n cp]] w
    fun e w' => (∃ cs : Array Value, e = .returned (.agg cs) ∧ Circ cs ((l : Int) + (bl : Int)) (((l : Int) + (bl : Int) + (c : Int) - 1) / (c : Int)) (l : Int) 2 (2 * (c : Int)) (((l : Int) + (bl : Int) + (c : Int) - 1) / (c : Int))) ∧ Below w.heap.size w w' := by
  have hbl : bl ≤ 5 := by rw [← hL]; exact Lib.bitLen_le m.toNat 5 (by omega) (by omega)
  have HL := hide hL
  clear hL
  obtain ⟨off, hoff⟩ : ∃ off : Int, IntKind.u64.wrap (IntKind.u64.wrap (IntKind.u64.wrap (2 ^ bl) - 1) - m) = off := ⟨_, rfl⟩
  have hzc : ((c : Int) == 0) = false := by simp; omega
  have hB := fun w' h => box22 (W0 := (w.alloc (.cells #[.int .i64 5, .int .i64 s, .int .i64 (l : Int), .int .i64 b, .int .i64 (c : Int), .int .u64 m, .slice A n cp] 25)).alloc (.cells #[.int .i64 0, .int .i64 0, .int .i64 0, .int .i64 0, .int .i64 0, .int .u64 0, .slice none 0 0, .int .u64 0, .int .u64 0, .int .i64 0, .int .u64 0, .int .u64 0, .int .i64 0, .int .i64 0, .int .i64 0, .int .i64 0, .int .i64 0, .int .i64 0, .int .i64 0, .int .i64 0, .int .u64 0] 49)) rfl ((Blk.new w 25 #[.int .i64 5, .int .i64 s, .int .i64 (l : Int), .int .i64 b, .int .i64 (c : Int), .int .u64 m, .slice A n cp]).alloc _) w' h
  have HB := hide hB
  clear hB
  go_enter Tryz.func22, Tryz.ntmps22
  go_upto_region 1 with fail
  go_cut [3] (fun s3 wx => ∃ (g : Nat) (fa fb fc fd fx fy : Int), s3 = .pointer (some ⟨g, 0, none⟩) ∧ w.heap.size + 2 ≤ g ∧ Below (w.heap.size + 2) ((w.alloc (.cells #[.int .i64 5, .int .i64 s, .int .i64 (l : Int), .int .i64 b, .int .i64 (c : Int), .int .u64 m, .slice A n cp] 25)).alloc (.cells #[.int .i64 0, .int .i64 0, .int .i64 0, .int .i64 0, .int .i64 0, .int .u64 0, .slice none 0 0, .int .u64 0, .int .u64 0, .int .i64 0, .int .u64 0, .int .u64 0, .int .i64 0, .int .i64 0, .int .i64 0, .int .i64 0, .int .i64 0, .int .i64 0, .int .i64 0, .int .i64 0, .int .u64 0] 49)) wx ∧ Blk wx g 49 #[.int .i64 5, .int .i64 s, .int .i64 (l : Int), .int .i64 b, .int .i64 (c : Int), .int .u64 m, .slice A n cp, .int .u64 fa, .int .u64 fb, .int .i64 fc, .int .u64 fd, .int .u64 fx, .int .i64 fy, .int .i64 1, .int .i64 0, .int .i64 1, .int .i64 1, .int .i64 2, .int .i64 1, .int .i64 0, .int .u64 0])
  case first =>
    refine wp_region_held_drew (S := (fun w' => w'.cell? ⟨w.heap.size, 0, none⟩ = some (.int .i64 5) ∧ w'.cell? ⟨w.heap.size, 1, none⟩ = some (.int .i64 s) ∧ w'.cell? ⟨w.heap.size, 2, none⟩ = some (.int .i64 (l : Int)) ∧ w'.cell? ⟨w.heap.size, 3, none⟩ = some (.int .i64 b) ∧ w'.cell? ⟨w.heap.size, 4, none⟩ = some (.int .i64 (c : Int)) ∧ w'.cell? ⟨w.heap.size, 5, none⟩ = some (.int .u64 m) ∧ w'.cell? ⟨w.heap.size, 6, none⟩ = some (.slice A n cp) ∧ Hid (Below ((w.alloc (.cells #[.int .i64 5, .int .i64 s, .int .i64 (l : Int), .int .i64 b, .int .i64 (c : Int), .int .u64 m, .slice A n cp] 25)).alloc (.cells #[.int .i64 0, .int .i64 0, .int .i64 0, .int .i64 0, .int .i64 0, .int .u64 0, .slice none 0 0, .int .u64 0, .int .u64 0, .int .i64 0, .int .u64 0, .int .u64 0, .int .i64 0, .int .i64 0, .int .i64 0, .int .i64 0, .int .i64 0, .int .i64 0, .int .i64 0, .int .i64 0, .int .u64 0] 49)).heap.size ((w.alloc (.cells #[.int .i64 5, .int .i64 s, .int .i64 (l : Int), .int .i64 b, .int .i64 (c : Int), .int .u64 m, .slice A n cp] 25)).alloc (.cells #[.int .i64 0, .int .i64 0, .int .i64 0, .int .i64 0, .int .i64 0, .int .u64 0, .slice none 0 0, .int .u64 0, .int .u64 0, .int .i64 0, .int .u64 0, .int .u64 0, .int .i64 0, .int .i64 0, .int .i64 0, .int .i64 0, .int .i64 0, .int .i64 0, .int .i64 0, .int .i64 0, .int .u64 0] 49)) w'))) (by kernel_rfl) (HB.out _ (Below.refl _ _).drew) (fun hHeld => ?_)
    refine take_to (i := 0) (some 5) (v := ?_) rfl (by kernel_rfl) (by kernel_rfl) (by kernel_rfl) (fun _ _ _ h => h) rfl (Or.inl ⟨by rfl, ?_⟩) (by assumption) ?_
    rotate_left
    · intro w hSw
      (try dsimp only at hSw)
      go_simp
      with_reducible rfl
    try simp only [Act.put, List.setIfInBounds_toArray, List.set_cons_zero, List.set_cons_succ]
    refine take_to (i := 1) (some 6) (v := ?_) rfl (by kernel_rfl) (by kernel_rfl) (by kernel_rfl) (fun _ _ _ h => h) rfl (Or.inl ⟨by rfl, ?_⟩) (by assumption) ?_
    rotate_left
    · intro w hSw
      (try dsimp only at hSw)
      go_simp
      with_reducible rfl
    try simp only [Act.put, List.setIfInBounds_toArray, List.set_cons_zero, List.set_cons_succ]
    refine take_to (i := 2) (some 7) (v := ?_) rfl (by kernel_rfl) (by kernel_rfl) (by kernel_rfl) (fun _ _ _ h => h) rfl (Or.inl ⟨by rfl, ?_⟩) (by assumption) ?_
    rotate_left
    · intro w hSw
      (try dsimp only at hSw)
      go_simp
      with_reducible rfl
    try simp only [Act.put, List.setIfInBounds_toArray, List.set_cons_zero, List.set_cons_succ]
    have hcore := core22 hHeld
    have hC := hide hcore
    clear hcore hHeld
    refine wpAnyH_ready (rs := [3, 5]) (by kernel_rfl) (by simp) ?_
    refine AllReadyH.cons rfl (fun K hK => ?_) (AllReadyH.cons rfl (fun K hK => ?_) AllReadyH.nil)
    · go_simp
      go_at_call 29
      refine (field29 _ _).mono ?_
      rintro e w1 ⟨⟨fa, fb, fc, fd, fx, fy, rfl⟩, hbl⟩
      go_wp2_with fail
      have hb1 := below_more hC.out hbl
      refine hK.out _ _ (HB.out _ hb1) (fun hHeld => ?_)
      clear hK K
      refine take_to (i := 4) (some 9) (v := ?_) rfl (by kernel_rfl) (by kernel_rfl) (by kernel_rfl) (fun _ _ _ h => h) rfl (Or.inl ⟨by rfl, ?_⟩) (by assumption) ?_
      rotate_left
      · intro w hSw
        clear hSw
        go_simp
        with_reducible rfl
      try simp only [Act.put, List.setIfInBounds_toArray, List.set_cons_zero, List.set_cons_succ]
      obtain ⟨V, hV⟩ : ∃ V : Array Value, V = #[.int .i64 5, .int .i64 s, .int .i64 (l : Int), .int .i64 b, .int .i64 (c : Int), .int .u64 m, .slice A n cp, .int .u64 fa, .int .u64 fb, .int .i64 fc, .int .u64 fd, .int .u64 fx, .int .i64 fy, .int .i64 1, .int .i64 0, .int .i64 1, .int .i64 1, .int .i64 2, .int .i64 1, .int .i64 0, .int .u64 0] := ⟨_, rfl⟩
      have hz : V.size = 21 := by rw [hV]; rfl
      have hst := run_put_new (P := Tryz.prog) (w := w1) (t := 49) #[.int .i64 0, .int .i64 0, .int .i64 0, .int .i64 0, .int .i64 0, .int .u64 0, .slice none 0 0, .int .u64 0, .int .u64 0, .int .i64 0, .int .u64 0, .int .u64 0, .int .i64 0, .int .i64 0, .int .i64 0, .int .i64 0, .int .i64 0, .int .i64 0, .int .i64 0, .int .i64 0, .int .u64 0] V (by rw [hz]; rfl) (by rw [hV]; simp [Ones, Value.oneCell'])
      rw [← hV]
      replace hV := hide hV
      have hH := hide hHeld
      clear hHeld
      refine wpAnyH_ready (rs := [5]) (by kernel_rfl) (by simp) ?_
      refine AllReadyH.cons rfl (fun K hK => ?_) AllReadyH.nil
      go_simp
      refine hK.out _ _ (HB.out _ (below_alloc_self _ hb1)) (fun hHeld => ?_)
      clear hK K hHeld
      refine wpAnyH_ready (rs := [6]) (by kernel_rfl) (by simp) ?_
      refine AllReadyH.cons rfl (fun K hK => ?_) AllReadyH.nil
      go_simp
      refine hK.out _ _ (HB.out _ (below_alloc_self _ hb1)) (fun hHeld => ?_)
      clear hK K hHeld
      refine wpAnyH_done (by kernel_rfl) ?_ _
      go_wp2_with fail
      go_meet
      exact ⟨w1.heap.size, fa, fb, fc, fd, fx, fy, rfl, by have := hb1.size; simpa using this, by simpa using below_alloc_self _ hb1, hV.out ▸ Blk.new w1 49 V⟩
    · go_simp
      have hb0 := (below_alloc_self (.cells #[.int .i64 0, .int .i64 0, .int .i64 0, .int .i64 0, .int .i64 0, .int .u64 0, .slice none 0 0, .int .u64 0, .int .u64 0, .int .i64 0, .int .u64 0, .int .u64 0, .int .i64 0, .int .i64 0, .int .i64 0, .int .i64 0, .int .i64 0, .int .i64 0, .int .i64 0, .int .i64 0, .int .u64 0] 49) (Below.refl ((w.alloc (.cells #[.int .i64 5, .int .i64 s, .int .i64 (l : Int), .int .i64 b, .int .i64 (c : Int), .int .u64 m, .slice A n cp] 25)).alloc (.cells #[.int .i64 0, .int .i64 0, .int .i64 0, .int .i64 0, .int .i64 0, .int .u64 0, .slice none 0 0, .int .u64 0, .int .u64 0, .int .i64 0, .int .u64 0, .int .u64 0, .int .i64 0, .int .i64 0, .int .i64 0, .int .i64 0, .int .i64 0, .int .i64 0, .int .i64 0, .int .i64 0, .int .u64 0] 49)).heap.size ((w.alloc (.cells #[.int .i64 5, .int .i64 s, .int .i64 (l : Int), .int .i64 b, .int .i64 (c : Int), .int .u64 m, .slice A n cp] 25)).alloc (.cells #[.int .i64 0, .int .i64 0, .int .i64 0, .int .i64 0, .int .i64 0, .int .u64 0, .slice none 0 0, .int .u64 0, .int .u64 0, .int .i64 0, .int .u64 0, .int .u64 0, .int .i64 0, .int .i64 0, .int .i64 0, .int .i64 0, .int .i64 0, .int .i64 0, .int .i64 0, .int .i64 0, .int .u64 0] 49)))).drew
      refine hK.out _ _ (HB.out _ hb0) (fun hHeld => ?_)
      clear hK K
      refine wpAnyH_ready (rs := [3]) (by kernel_rfl) (by simp) ?_
      refine AllReadyH.cons rfl (fun K hK => ?_) AllReadyH.nil
      go_simp
      go_at_call 29
      refine (field29 _ _).mono ?_
      rintro e w1 ⟨⟨fa, fb, fc, fd, fx, fy, rfl⟩, hbl⟩
      go_wp2_with fail
      have hb1 := below_more hb0 hbl
      have hg : Blk w1 (w.heap.size + 1 + 1) 49 #[.int .i64 0, .int .i64 0, .int .i64 0, .int .i64 0, .int .i64 0, .int .u64 0, .slice none 0 0, .int .u64 0, .int .u64 0, .int .i64 0, .int .u64 0, .int .u64 0, .int .i64 0, .int .i64 0, .int .i64 0, .int .i64 0, .int .i64 0, .int .i64 0, .int .i64 0, .int .i64 0, .int .u64 0] := by
        have h := ((Blk.new ((w.alloc (.cells #[.int .i64 5, .int .i64 s, .int .i64 (l : Int), .int .i64 b, .int .i64 (c : Int), .int .u64 m, .slice A n cp] 25)).alloc (.cells #[.int .i64 0, .int .i64 0, .int .i64 0, .int .i64 0, .int .i64 0, .int .u64 0, .slice none 0 0, .int .u64 0, .int .u64 0, .int .i64 0, .int .u64 0, .int .u64 0, .int .i64 0, .int .i64 0, .int .i64 0, .int .i64 0, .int .i64 0, .int .i64 0, .int .i64 0, .int .i64 0, .int .u64 0] 49)) 49 #[.int .i64 0, .int .i64 0, .int .i64 0, .int .i64 0, .int .i64 0, .int .u64 0, .slice none 0 0, .int .u64 0, .int .u64 0, .int .i64 0, .int .u64 0, .int .u64 0, .int .i64 0, .int .i64 0, .int .i64 0, .int .i64 0, .int .i64 0, .int .i64 0, .int .i64 0, .int .i64 0, .int .u64 0]).drew).below hbl (by simp)
        simpa using h
      clear hHeld
      refine hK.out _ _ (HB.out _ hb1) (fun hHeld => ?_)
      clear hK K
      refine take_to (i := 4) (some 9) (v := ?_) rfl (by kernel_rfl) (by kernel_rfl) (by kernel_rfl) (fun _ _ _ h => h) rfl (Or.inl ⟨by rfl, ?_⟩) (by assumption) ?_
      rotate_left
      · intro w hSw
        clear hSw
        go_simp
        with_reducible rfl
      try simp only [Act.put, List.setIfInBounds_toArray, List.set_cons_zero, List.set_cons_succ]
      obtain ⟨V, hV⟩ : ∃ V : Array Value, V = #[.int .i64 5, .int .i64 s, .int .i64 (l : Int), .int .i64 b, .int .i64 (c : Int), .int .u64 m, .slice A n cp, .int .u64 fa, .int .u64 fb, .int .i64 fc, .int .u64 fd, .int .u64 fx, .int .i64 fy, .int .i64 1, .int .i64 0, .int .i64 1, .int .i64 1, .int .i64 2, .int .i64 1, .int .i64 0, .int .u64 0] := ⟨_, rfl⟩
      have hz : V.size = 21 := by rw [hV]; rfl
      have hst := run_put_row (P := Tryz.prog) hg V (by rw [hz]; rfl) (by rw [hV]; simp [Ones, Value.oneCell'])
      rw [← hV]
      replace hV := hide hV
      have hH := hide hHeld
      have hG := hide (hg.setRow V)
      have hbr := below_setRow hb1 (g := w.heap.size + 1 + 1) (by simp) V
      clear hHeld hg
      refine wpAnyH_ready (rs := [6]) (by kernel_rfl) (by simp) ?_
      refine AllReadyH.cons rfl (fun K hK => ?_) AllReadyH.nil
      go_simp
      refine hK.out _ _ (HB.out _ hbr) (fun hHeld => ?_)
      clear hK K hHeld
      refine wpAnyH_done (by kernel_rfl) ?_ _
      go_wp2_with fail
      go_meet
      exact ⟨w.heap.size + 1 + 1, fa, fb, fc, fd, fx, fy, rfl, by omega, by simpa using hbr, hV.out ▸ hG.out⟩
  case rest =>
    obtain ⟨g, fa, fb, fc, fd, fx, fy, rfl, hg, hb, hK⟩ := hcut
    have hX := ((Blk.new w 25 #[.int .i64 5, .int .i64 s, .int .i64 (l : Int), .int .i64 b, .int .i64 (c : Int), .int .u64 m, .slice A n cp]).alloc (.cells #[.int .i64 0, .int .i64 0, .int .i64 0, .int .i64 0, .int .i64 0, .int .u64 0, .slice none 0 0, .int .u64 0, .int .u64 0, .int .i64 0, .int .u64 0, .int .u64 0, .int .i64 0, .int .i64 0, .int .i64 0, .int .i64 0, .int .i64 0, .int .i64 0, .int .i64 0, .int .i64 0, .int .u64 0] 49)).below hb (by omega)
    have hR := (Blk.new (w.alloc (.cells #[.int .i64 5, .int .i64 s, .int .i64 (l : Int), .int .i64 b, .int .i64 (c : Int), .int .u64 m, .slice A n cp] 25)) 49 #[.int .i64 0, .int .i64 0, .int .i64 0, .int .i64 0, .int .i64 0, .int .u64 0, .slice none 0 0, .int .u64 0, .int .u64 0, .int .i64 0, .int .u64 0, .int .u64 0, .int .i64 0, .int .i64 0, .int .i64 0, .int .i64 0, .int .i64 0, .int .i64 0, .int .i64 0, .int .i64 0, .int .u64 0]).below hb (by simp)
    simp only [World.size_alloc] at hR
    have hB0 := (((Below.refl _ w).alloc (Nat.le_refl _) _).alloc (by simp) _).trans (hb.mono (by omega))
    have hne : w.heap.size + 1 ≠ g := by omega
    have hgw : w.heap.size ≤ g := by omega
    have x0 := hX.cell 0
    have x1 := hX.cell 1
    have x2 := hX.cell 2
    have x3 := hX.cell 3
    have x4 := hX.cell 4
    have x5 := hX.cell 5
    have y13 := hK.cell 13
    have y14 := hK.cell 14
    have y15 := hK.cell 15
    have y16 := hK.cell 16
    have y17 := hK.cell 17
    have y18 := hK.cell 18
    have y19 := hK.cell 19
    have y20 := hK.cell 20
    have hfz := hK.frozen
    simp only [List.getElem?_toArray, List.getElem?_cons_zero, List.getElem?_cons_succ] at x0 x1 x2 x3 x4 x5 y13 y14 y15 y16 y17 y18 y19 y20
    have HK := hide (And.intro hK (And.intro hR (And.intro hB0 (And.intro hne hgw))))
    clear hX hK hR hB0 hb hg
    go_wp2_with fail
    refine (len30 m _ (by omega) (by omega)).mono ?_
    rintro e w' ⟨rfl, rfl⟩
    rw [HL.out]
    go_upto_region 26 with fail
    obtain ⟨hK, hR, hB0, hne, hgw⟩ := HK.out
    obtain ⟨V, hV⟩ : ∃ V : Array Value, V = #[.int .i64 5, .int .i64 s, .int .i64 (l : Int), .int .i64 b, .int .i64 (c : Int), .int .u64 m, .slice A n cp, .int .u64 fa, .int .u64 fb, .int .i64 fc, .int .u64 fd, .int .u64 fx, .int .i64 fy, .int .i64 ((l : Int) + (bl : Int)), .int .i64 (((l : Int) + (bl : Int) + (c : Int) - 1) / (c : Int)), .int .i64 (l : Int), .int .i64 2, .int .i64 (2 * (c : Int)), .int .i64 (((l : Int) + (bl : Int) + (c : Int) - 1) / (c : Int)), .int .i64 (bl : Int), .int .u64 off] := ⟨_, rfl⟩
    have hz : V.size = 21 := by rw [hV]; rfl
    have ho : Ones V := by rw [hV]; simp [Ones, Value.oneCell']
    have hKV := ((((((((hK.set_ 19 (.int .i64 (bl : Int))).set_ 20 (.int .u64 off)).set_ 13 (.int .i64 ((l : Int) + (bl : Int)))).set_ 16 (.int .i64 2)).set_ 15 (.int .i64 (l : Int))).set_ 18 (.int .i64 (((l : Int) + (bl : Int) + (c : Int) - 1) / (c : Int)))).set_ 14 (.int .i64 (((l : Int) + (bl : Int) + (c : Int) - 1) / (c : Int)))).set_ 17 (.int .i64 (2 * (c : Int))))
    try simp only [List.setIfInBounds_toArray, List.set_cons_zero, List.set_cons_succ] at hKV
    rw [← hV] at hKV
    have hRV := ((((((((hR.far (p := ⟨g, 19, none⟩) hne (.int .i64 (bl : Int))).far (p := ⟨g, 20, none⟩) hne (.int .u64 off)).far (p := ⟨g, 13, none⟩) hne (.int .i64 ((l : Int) + (bl : Int)))).far (p := ⟨g, 16, none⟩) hne (.int .i64 2)).far (p := ⟨g, 15, none⟩) hne (.int .i64 (l : Int))).far (p := ⟨g, 18, none⟩) hne (.int .i64 (((l : Int) + (bl : Int) + (c : Int) - 1) / (c : Int)))).far (p := ⟨g, 14, none⟩) hne (.int .i64 (((l : Int) + (bl : Int) + (c : Int) - 1) / (c : Int)))).far (p := ⟨g, 17, none⟩) hne (.int .i64 (2 * (c : Int))))
    have hBV := ((((((((hB0.setCell (p := ⟨g, 19, none⟩) hgw (.int .i64 (bl : Int))).setCell (p := ⟨g, 20, none⟩) hgw (.int .u64 off)).setCell (p := ⟨g, 13, none⟩) hgw (.int .i64 ((l : Int) + (bl : Int)))).setCell (p := ⟨g, 16, none⟩) hgw (.int .i64 2)).setCell (p := ⟨g, 15, none⟩) hgw (.int .i64 (l : Int))).setCell (p := ⟨g, 18, none⟩) hgw (.int .i64 (((l : Int) + (bl : Int) + (c : Int) - 1) / (c : Int)))).setCell (p := ⟨g, 14, none⟩) hgw (.int .i64 (((l : Int) + (bl : Int) + (c : Int) - 1) / (c : Int)))).setCell (p := ⟨g, 17, none⟩) hgw (.int .i64 (2 * (c : Int))))
    have hst := run_put_row (P := Tryz.prog) hRV V (by rw [hz]; rfl) ho
    have hP : Circ V ((l : Int) + (bl : Int)) (((l : Int) + (bl : Int) + (c : Int) - 1) / (c : Int)) (l : Int) 2 (2 * (c : Int)) (((l : Int) + (bl : Int) + (c : Int) - 1) / (c : Int)) := ⟨hz, ho, by rw [hV]; rfl, by rw [hV]; rfl, by rw [hV]; rfl, by rw [hV]; rfl, by rw [hV]; rfl, by rw [hV]; rfl⟩
    replace hV := hide hV
    have HF := hide (And.intro hKV (And.intro (hRV.setRow V) (And.intro (below_setRow hBV (g := w.heap.size + 1) (by omega) V) hP)))
    clear hK hR hB0 hKV hRV hBV hP
    generalize ((((((((wc.setCell ⟨g, 19, none⟩ (.int .i64 (bl : Int))).setCell ⟨g, 20, none⟩ (.int .u64 off)).setCell ⟨g, 13, none⟩ (.int .i64 ((l : Int) + (bl : Int)))).setCell ⟨g, 16, none⟩ (.int .i64 2)).setCell ⟨g, 15, none⟩ (.int .i64 (l : Int))).setCell ⟨g, 18, none⟩ (.int .i64 (((l : Int) + (bl : Int) + (c : Int) - 1) / (c : Int)))).setCell ⟨g, 14, none⟩ (.int .i64 (((l : Int) + (bl : Int) + (c : Int) - 1) / (c : Int)))).setCell ⟨g, 17, none⟩ (.int .i64 (2 * (c : Int)))) = W at hst HF ⊢
    refine wp_region_lit ?_
    refine wpList_load_row rfl 49 _ rfl g (by rfl) 49 V (0, 0) _ HF.out.1 Tryz.underlying49 rfl (by rw [size49, hz]) ?_
    go_wp2_with fail
    exact bodyPost_ret (results_cell_row Tryz.results22 _ _ (w.heap.size + 1) 49 V (0, 0) _ (by rfl) HF.out.2.1 Tryz.underlying49 rfl (by rw [size49, hz])) rfl ⟨⟨V, rfl, HF.out.2.2.2⟩, HF.out.2.2.1⟩
end Go.Proofs.YtkacahdogfchfaaGreatDoor
