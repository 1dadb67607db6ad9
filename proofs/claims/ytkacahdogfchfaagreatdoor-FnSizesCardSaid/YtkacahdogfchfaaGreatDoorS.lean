/-
  spec.Sizes: the list of ten lengths, out of what circuitOf hands back. Conditions: the lengths are small; at most 1,090 gadget calls.
-/
import Derived.Test.YtkacahdogfchfaaGreatDoorD
import Derived.Test.YtkacahdogfchfaaGreatDoorJ
import Derived.IntWalk
namespace Go.Proofs.YtkacahdogfchfaaGreatDoor
open Go.RowKit
theorem core9 {a b c d e f : Prop} {B : Nat} {a0 w : World} (h : a ∧ b ∧ c ∧ d ∧ e ∧ f ∧ Hid (Below B a0 w)) : Below B a0 w := h.2.2.2.2.2.2
set_option maxRecDepth 100000 in
set_option maxHeartbeats 2000000 in
theorem spec9_zero (k l b c m s meas jr out ev ar : Int) (calls q : Nat) (A : Option Addr) (n cp : Nat) (w : World) (h0 : 0 ≤ s) (h1 : s ≤ 255) (hj : jr = 0) (hev : 0 ≤ ev) (hev2 : ev ≤ 4096) (har : 0 ≤ ar) (har2 : ar ≤ 4096) (hc : calls ≤ 1090) (hq : np2 (1 + calls) = q)
    (H22 : ∀ W, Below w.heap.size w W → Calls Tryz.prog 22 #[.agg #[.int .i64 k, .int .i64 s, .int .i64 l, .int .i64 b, .int .i64 c, .int .u64 m, .slice A n cp]] W (fun e w' => (∃ cs : Array Value, e = .returned (.agg cs) ∧ Circ cs meas jr out ev ar calls) ∧ Below W.heap.size W w')) :
    Calls Tryz.prog 9 #[.agg #[.int .i64 k, .int .i64 s, .int .i64 l, .int .i64 b, .int .i64 c, .int .u64 m, .slice A n cp]] w fun e w' => ∃ g : Nat, e = .returned (.slice (some ⟨g, 0, none⟩) 10 10) ∧ w.heap.size ≤ g ∧ Below w.heap.size w w' ∧ Blk w' g 3 (Ten meas jr out ev ar q (32 * s) s) := by
  have hN : 1 ≤ q ∧ q ≤ 2048 := by
    have := np2_bound (1 + calls) (by omega) (by omega)
    omega
  have HQ := hide hq
  have HB := hide (And.intro ((Below.refl w.heap.size w).alloc (Nat.le_refl _) (.cells #[.int .i64 k, .int .i64 s, .int .i64 l, .int .i64 b, .int .i64 c, .int .u64 m, .slice A n cp] 25)) (Blk.new w 25 #[.int .i64 k, .int .i64 s, .int .i64 l, .int .i64 b, .int .i64 c, .int .u64 m, .slice A n cp]))
  have H22 := hide H22
  have w1 : IntKind.i64.wrap (1 + ev) = 1 + ev := IntWalk.i64_in _ (by omega)
  have w2 : IntKind.i64.wrap (ar + (1 + 2 * ((q : Int) - 1))) = ar + (1 + 2 * ((q : Int) - 1)) := IntWalk.i64_in _ (by omega)
  have w3 : IntKind.i64.wrap (2 + ar) = 2 + ar := IntWalk.i64_in _ (by omega)
  clear hq
  go_enter Tryz.func9, Tryz.ntmps9
  go_wp2_with fail
  refine (H22.out _ HB.out.1).mono ?_
  rintro e wa ⟨⟨cs, rfl, hC⟩, hbl⟩
  have hb1 := HB.out.1.trans (hbl.mono HB.out.1.size)
  have hX := HB.out.2.below hbl HB.out.2.lt
  have hst := run_put_new (P := Tryz.prog) (w := wa) (t := 49) #[.int .i64 0, .int .i64 0, .int .i64 0, .int .i64 0, .int .i64 0, .int .u64 0, .slice none 0 0, .int .u64 0, .int .u64 0, .int .i64 0, .int .u64 0, .int .u64 0, .int .i64 0, .int .i64 0, .int .i64 0, .int .i64 0, .int .i64 0, .int .i64 0, .int .i64 0, .int .i64 0, .int .u64 0] cs (by rw [hC.size]; rfl) hC.ones
  have hz := hC.size
  have hK := Blk.new wa 49 cs
  have hb2 := hb1.alloc hb1.size (.cells cs 49)
  have hX2 := hX.alloc (.cells cs 49)
  have y13 := (hK.cell 13).trans hC.c13
  have y14 := (hK.cell 14).trans hC.c14
  have y15 := (hK.cell 15).trans hC.c15
  have y16 := (hK.cell 16).trans hC.c16
  have y17 := (hK.cell 17).trans hC.c17
  have x1 := hX2.cell 1
  simp only [List.getElem?_toArray, List.getElem?_cons_zero, List.getElem?_cons_succ] at x1
  have HH := hide (And.intro hK (And.intro hb2 (And.intro hX2 hC.c18)))
  have hg := hb1.size
  clear hb1 hX hK hb2 hX2 hC hbl
  subst hj
  go_wp2_with fail
  generalize wa.alloc (.cells cs 49) = W at *
  generalize wa.heap.size = g at *
  have hS : ∀ w', Below W.heap.size W w' → (fun w' => w'.cell? ⟨g, 13, none⟩ = some (.int .i64 meas) ∧ w'.cell? ⟨g, 14, none⟩ = some (.int .i64 0) ∧ w'.cell? ⟨g, 15, none⟩ = some (.int .i64 out) ∧ w'.cell? ⟨g, 16, none⟩ = some (.int .i64 ev) ∧ w'.cell? ⟨g, 17, none⟩ = some (.int .i64 ar) ∧ w'.cell? ⟨w.heap.size, 1, none⟩ = some (.int .i64 s) ∧ Hid (Below W.heap.size W w')) w' := by
    intro w' h
    have a := HH.out.1.below h HH.out.1.lt
    have bx := HH.out.2.2.1.below h HH.out.2.2.1.lt
    exact ⟨by rw [a.cell, ← HH.out.1.cell]; exact y13, by rw [a.cell, ← HH.out.1.cell]; exact y14, by rw [a.cell, ← HH.out.1.cell]; exact y15, by rw [a.cell, ← HH.out.1.cell]; exact y16, by rw [a.cell, ← HH.out.1.cell]; exact y17, bx.cell 1, h⟩
  have HS := hide hS
  clear hS y13 y14 y15 y16 y17 x1 hst
  refine wp_region_held_drew (S := (fun w' => w'.cell? ⟨g, 13, none⟩ = some (.int .i64 meas) ∧ w'.cell? ⟨g, 14, none⟩ = some (.int .i64 0) ∧ w'.cell? ⟨g, 15, none⟩ = some (.int .i64 out) ∧ w'.cell? ⟨g, 16, none⟩ = some (.int .i64 ev) ∧ w'.cell? ⟨g, 17, none⟩ = some (.int .i64 ar) ∧ w'.cell? ⟨w.heap.size, 1, none⟩ = some (.int .i64 s) ∧ Hid (Below W.heap.size W w'))) (by kernel_rfl) (HS.out _ (Below.refl _ _).drew) (fun hHeld => ?_)
  refine take_to (i := 0) (some 15) (v := ?_) rfl (by kernel_rfl) (by kernel_rfl) (by kernel_rfl) (fun _ _ _ h => h) rfl (Or.inl ⟨by rfl, ?_⟩) (by assumption) ?_
  rotate_left
  · intro w hSw
    (try dsimp only at hSw)
    go_simp
    with_reducible rfl
  try simp only [Act.put, List.setIfInBounds_toArray, List.set_cons_zero, List.set_cons_succ]
  refine take_to (i := 1) (some 16) (v := ?_) rfl (by kernel_rfl) (by kernel_rfl) (by kernel_rfl) (fun _ _ _ h => h) rfl (Or.inl ⟨by rfl, ?_⟩) (by assumption) ?_
  rotate_left
  · intro w hSw
    (try dsimp only at hSw)
    go_simp
    with_reducible rfl
  try simp only [Act.put, List.setIfInBounds_toArray, List.set_cons_zero, List.set_cons_succ]
  refine take_to (i := 2) (some 17) (v := ?_) rfl (by kernel_rfl) (by kernel_rfl) (by kernel_rfl) (fun _ _ _ h => h) rfl (Or.inl ⟨by rfl, ?_⟩) (by assumption) ?_
  rotate_left
  · intro w hSw
    (try dsimp only at hSw)
    go_simp
    with_reducible rfl
  try simp only [Act.put, List.setIfInBounds_toArray, List.set_cons_zero, List.set_cons_succ]
  refine take_to (i := 3) (some 18) (v := ?_) rfl (by kernel_rfl) (by kernel_rfl) (by kernel_rfl) (fun _ _ _ h => h) rfl (Or.inl ⟨by rfl, ?_⟩) (by assumption) ?_
  rotate_left
  · intro w hSw
    (try dsimp only at hSw)
    go_simp
    with_reducible rfl
  try simp only [Act.put, List.setIfInBounds_toArray, List.set_cons_zero, List.set_cons_succ]
  refine take_to (i := 4) (some 19) (v := ?_) rfl (by kernel_rfl) (by kernel_rfl) (by kernel_rfl) (fun _ _ _ h => h) rfl (Or.inl ⟨by rfl, ?_⟩) (by assumption) ?_
  rotate_left
  · intro w hSw
    (try dsimp only at hSw)
    go_simp
    with_reducible rfl
  try simp only [Act.put, List.setIfInBounds_toArray, List.set_cons_zero, List.set_cons_succ]
  refine take_to (i := 5) (some 20) (v := ?_) rfl (by kernel_rfl) (by kernel_rfl) (by kernel_rfl) (fun _ _ _ h => h) rfl (Or.inl ⟨by rfl, ?_⟩) (by assumption) ?_
  rotate_left
  · intro w hSw
    (try dsimp only at hSw)
    go_simp
    with_reducible rfl
  try simp only [Act.put, List.setIfInBounds_toArray, List.set_cons_zero, List.set_cons_succ]
  refine take_to (i := 6) (some 21) (v := ?_) rfl (by kernel_rfl) (by kernel_rfl) (by kernel_rfl) (fun _ _ _ h => h) rfl (Or.inl ⟨by rfl, ?_⟩) (by assumption) ?_
  rotate_left
  · intro w hSw
    (try dsimp only at hSw)
    go_simp
    with_reducible rfl
  try simp only [Act.put, List.setIfInBounds_toArray, List.set_cons_zero, List.set_cons_succ]
  refine take_to (i := 7) (some 22) (v := ?_) rfl (by kernel_rfl) (by kernel_rfl) (by kernel_rfl) (fun _ _ _ h => h) rfl (Or.inl ⟨by rfl, ?_⟩) (by assumption) ?_
  rotate_left
  · intro w hSw
    (try dsimp only at hSw)
    go_simp
    with_reducible rfl
  try simp only [Act.put, List.setIfInBounds_toArray, List.set_cons_zero, List.set_cons_succ]
  refine take_to (i := 8) (some 23) (v := ?_) rfl (by kernel_rfl) (by kernel_rfl) (by kernel_rfl) (fun _ _ _ h => h) rfl (Or.inl ⟨by rfl, ?_⟩) (by assumption) ?_
  rotate_left
  · intro w hSw
    (try dsimp only at hSw)
    go_simp
    with_reducible rfl
  try simp only [Act.put, List.setIfInBounds_toArray, List.set_cons_zero, List.set_cons_succ]
  refine take_to (i := 9) (some 24) (v := ?_) rfl (by kernel_rfl) (by kernel_rfl) (by kernel_rfl) (fun _ _ _ h => h) rfl (Or.inl ⟨by rfl, ?_⟩) (by assumption) ?_
  rotate_left
  · intro w hSw
    (try dsimp only at hSw)
    go_simp
    with_reducible rfl
  try simp only [Act.put, List.setIfInBounds_toArray, List.set_cons_zero, List.set_cons_succ]
  refine take_to (i := 10) (some 25) (v := ?_) rfl (by kernel_rfl) (by kernel_rfl) (by kernel_rfl) (fun _ _ _ h => h) rfl (Or.inl ⟨by rfl, ?_⟩) (by assumption) ?_
  rotate_left
  · intro w hSw
    (try dsimp only at hSw)
    go_simp
    with_reducible rfl
  try simp only [Act.put, List.setIfInBounds_toArray, List.set_cons_zero, List.set_cons_succ]
  refine take_to (i := 11) (some 26) (v := ?_) rfl (by kernel_rfl) (by kernel_rfl) (by kernel_rfl) (fun _ _ _ h => h) rfl (Or.inl ⟨by rfl, ?_⟩) (by assumption) ?_
  rotate_left
  · intro w hSw
    (try dsimp only at hSw)
    go_simp
    with_reducible rfl
  try simp only [Act.put, List.setIfInBounds_toArray, List.set_cons_zero, List.set_cons_succ]
  refine take_to (i := 12) (some 27) (v := ?_) rfl (by kernel_rfl) (by kernel_rfl) (by kernel_rfl) (fun _ _ _ h => h) rfl (Or.inl ⟨by rfl, ?_⟩) (by assumption) ?_
  rotate_left
  · intro w hSw
    (try dsimp only at hSw)
    go_simp
    with_reducible rfl
  try simp only [Act.put, List.setIfInBounds_toArray, List.set_cons_zero, List.set_cons_succ]
  refine take_to (i := 13) (some 28) (v := ?_) rfl (by kernel_rfl) (by kernel_rfl) (by kernel_rfl) (fun _ _ _ h => h) rfl (Or.inl ⟨by rfl, ?_⟩) (by assumption) ?_
  rotate_left
  · intro w hSw
    (try dsimp only at hSw)
    go_simp
    with_reducible rfl
  try simp only [Act.put, List.setIfInBounds_toArray, List.set_cons_zero, List.set_cons_succ]
  refine take_to (i := 14) (some 29) (v := ?_) rfl (by kernel_rfl) (by kernel_rfl) (by kernel_rfl) (fun _ _ _ h => h) rfl (Or.inl ⟨by rfl, ?_⟩) (by assumption) ?_
  rotate_left
  · intro w hSw
    (try dsimp only at hSw)
    go_simp
    with_reducible rfl
  try simp only [Act.put, List.setIfInBounds_toArray, List.set_cons_zero, List.set_cons_succ]
  refine take_to (i := 15) (some 30) rfl (by kernel_rfl) (by kernel_rfl) (by kernel_rfl) (fun _ _ _ h => h) rfl
    (yields_row (by rfl) 49 _ rfl g (by rfl) 49 cs _ (fun w' hw => HH.out.1.below (core9 hw) HH.out.1.lt) Tryz.underlying49 rfl (by rw [size49, hz])) (by assumption) ?_
  try simp only [Act.put, List.setIfInBounds_toArray, List.set_cons_zero, List.set_cons_succ]
  refine take_to (i := 18) (some 33) (v := ?_) rfl (by kernel_rfl) (by kernel_rfl) (by kernel_rfl) (fun _ _ _ h => h) rfl (Or.inl ⟨by rfl, ?_⟩) (by assumption) ?_
  rotate_left
  · intro w hSw
    (try dsimp only at hSw)
    go_simp
    with_reducible rfl
  try simp only [Act.put, List.setIfInBounds_toArray, List.set_cons_zero, List.set_cons_succ]
  refine take_to (i := 19) (some 34) (v := ?_) rfl (by kernel_rfl) (by kernel_rfl) (by kernel_rfl) (fun _ _ _ h => h) rfl (Or.inl ⟨by rfl, ?_⟩) (by assumption) ?_
  rotate_left
  · intro w hSw
    (try dsimp only at hSw)
    go_simp
    with_reducible rfl
  try simp only [Act.put, List.setIfInBounds_toArray, List.set_cons_zero, List.set_cons_succ]
  refine take_to (i := 20) (some 35) (v := ?_) rfl (by kernel_rfl) (by kernel_rfl) (by kernel_rfl) (fun _ _ _ h => h) rfl (Or.inl ⟨by rfl, ?_⟩) (by assumption) ?_
  rotate_left
  · intro w hSw
    (try dsimp only at hSw)
    go_simp
    with_reducible rfl
  try simp only [Act.put, List.setIfInBounds_toArray, List.set_cons_zero, List.set_cons_succ]
  refine take_to (i := 21) (some 36) (v := ?_) rfl (by kernel_rfl) (by kernel_rfl) (by kernel_rfl) (fun _ _ _ h => h) rfl (Or.inl ⟨by rfl, ?_⟩) (by assumption) ?_
  rotate_left
  · intro w hSw
    (try dsimp only at hSw)
    go_simp
    with_reducible rfl
  try simp only [Act.put, List.setIfInBounds_toArray, List.set_cons_zero, List.set_cons_succ]
  refine take_to (i := 22) (some 37) (v := ?_) rfl (by kernel_rfl) (by kernel_rfl) (by kernel_rfl) (fun _ _ _ h => h) rfl (Or.inl ⟨by rfl, ?_⟩) (by assumption) ?_
  rotate_left
  · intro w hSw
    (try dsimp only at hSw)
    go_simp
    with_reducible rfl
  try simp only [Act.put, List.setIfInBounds_toArray, List.set_cons_zero, List.set_cons_succ]
  refine take_to (i := 23) (some 38) (v := ?_) rfl (by kernel_rfl) (by kernel_rfl) (by kernel_rfl) (fun _ _ _ h => h) rfl (Or.inl ⟨by rfl, ?_⟩) (by assumption) ?_
  rotate_left
  · intro w hSw
    (try dsimp only at hSw)
    go_simp
    with_reducible rfl
  try simp only [Act.put, List.setIfInBounds_toArray, List.set_cons_zero, List.set_cons_succ]
  have hcore := hide (core9 hHeld)
  clear hHeld
  refine wpAnyH_ready (rs := [16]) (by kernel_rfl) (by simp) ?_
  refine AllReadyH.cons rfl (fun K hK => ?_) AllReadyH.nil
  go_simp
  go_at_call 23
  refine (poly23 cs calls q hz HH.out.2.2.2 hc HQ.out _).mono ?_
  rintro e w5 ⟨rfl, hbl⟩
  have hb5 := below_more hcore.out hbl
  go_wp2_with fail
  refine hK.out _ _ (HS.out _ hb5) (fun hHeld => ?_)
  clear hK K hbl
  refine take_to (i := 17) (some 32) (v := ?_) rfl (by kernel_rfl) (by kernel_rfl) (by kernel_rfl) (fun _ _ _ h => h) rfl (Or.inl ⟨by rfl, ?_⟩) (by assumption) ?_
  rotate_left
  · intro w hSw
    (try dsimp only at hSw)
    go_simp
    with_reducible rfl
  try simp only [Act.put, List.setIfInBounds_toArray, List.set_cons_zero, List.set_cons_succ]
  refine wpAnyH_ready (rs := [24]) (by kernel_rfl) (by simp) ?_
  refine AllReadyH.cons rfl (fun K hK => ?_) AllReadyH.nil
  clear hHeld
  go_simp
  refine hK.out _ _ (HS.out _ (below_alloc_self _ hb5)) (fun hHeld => ?_)
  clear hK K
  refine take_to (i := 25) (some 2) (v := ?_) rfl (by kernel_rfl) (by kernel_rfl) (by kernel_rfl) (fun _ _ _ h => h) rfl (Or.inl ⟨by rfl, ?_⟩) (by assumption) ?_
  rotate_left
  · intro w hSw
    (try dsimp only at hSw)
    go_simp
    with_reducible rfl
  try simp only [Act.put, List.setIfInBounds_toArray, List.set_cons_zero, List.set_cons_succ]
  refine wpAnyH_done (by kernel_rfl) ?_ _
  have HF := hide (HH.out.2.1.trans (hb5.mono HH.out.2.1.size))
  clear hHeld hb5
  go_wp2_with fail
  go_ret
  exact ⟨w5.heap.size, rfl, HF.out.size, HF.out.alloc HF.out.size _, Blk.new w5 3 _⟩
set_option maxRecDepth 100000 in
set_option maxHeartbeats 2000000 in
theorem spec9_more (k l b c m s meas jr out ev ar : Int) (calls q : Nat) (A : Option Addr) (n cp : Nat) (w : World) (h0 : 0 ≤ s) (h1 : s ≤ 255) (hj : 1 ≤ jr) (hj2 : jr ≤ 4096) (hev : 0 ≤ ev) (hev2 : ev ≤ 4096) (har : 0 ≤ ar) (har2 : ar ≤ 4096) (hc : calls ≤ 1090) (hq : np2 (1 + calls) = q)
    (H22 : ∀ W, Below w.heap.size w W → Calls Tryz.prog 22 #[.agg #[.int .i64 k, .int .i64 s, .int .i64 l, .int .i64 b, .int .i64 c, .int .u64 m, .slice A n cp]] W (fun e w' => (∃ cs : Array Value, e = .returned (.agg cs) ∧ Circ cs meas jr out ev ar calls) ∧ Below W.heap.size W w')) :
    Calls Tryz.prog 9 #[.agg #[.int .i64 k, .int .i64 s, .int .i64 l, .int .i64 b, .int .i64 c, .int .u64 m, .slice A n cp]] w fun e w' => ∃ g : Nat, e = .returned (.slice (some ⟨g, 0, none⟩) 10 10) ∧ w.heap.size ≤ g ∧ Below w.heap.size w w' ∧ Blk w' g 3 (Ten meas jr out ev ar q (2 * (32 * s)) s) := by
  have hN : 1 ≤ q ∧ q ≤ 2048 := by
    have := np2_bound (1 + calls) (by omega) (by omega)
    omega
  have HQ := hide hq
  have HB := hide (And.intro ((Below.refl w.heap.size w).alloc (Nat.le_refl _) (.cells #[.int .i64 k, .int .i64 s, .int .i64 l, .int .i64 b, .int .i64 c, .int .u64 m, .slice A n cp] 25)) (Blk.new w 25 #[.int .i64 k, .int .i64 s, .int .i64 l, .int .i64 b, .int .i64 c, .int .u64 m, .slice A n cp]))
  have H22 := hide H22
  have w1 : IntKind.i64.wrap (1 + ev) = 1 + ev := IntWalk.i64_in _ (by omega)
  have w2 : IntKind.i64.wrap (ar + (1 + 2 * ((q : Int) - 1))) = ar + (1 + 2 * ((q : Int) - 1)) := IntWalk.i64_in _ (by omega)
  have w3 : IntKind.i64.wrap (2 + ar) = 2 + ar := IntWalk.i64_in _ (by omega)
  clear hq
  go_enter Tryz.func9, Tryz.ntmps9
  go_wp2_with fail
  refine (H22.out _ HB.out.1).mono ?_
  rintro e wa ⟨⟨cs, rfl, hC⟩, hbl⟩
  have hb1 := HB.out.1.trans (hbl.mono HB.out.1.size)
  have hX := HB.out.2.below hbl HB.out.2.lt
  have hst := run_put_new (P := Tryz.prog) (w := wa) (t := 49) #[.int .i64 0, .int .i64 0, .int .i64 0, .int .i64 0, .int .i64 0, .int .u64 0, .slice none 0 0, .int .u64 0, .int .u64 0, .int .i64 0, .int .u64 0, .int .u64 0, .int .i64 0, .int .i64 0, .int .i64 0, .int .i64 0, .int .i64 0, .int .i64 0, .int .i64 0, .int .i64 0, .int .u64 0] cs (by rw [hC.size]; rfl) hC.ones
  have hz := hC.size
  have hK := Blk.new wa 49 cs
  have hb2 := hb1.alloc hb1.size (.cells cs 49)
  have hX2 := hX.alloc (.cells cs 49)
  have y13 := (hK.cell 13).trans hC.c13
  have y14 := (hK.cell 14).trans hC.c14
  have y15 := (hK.cell 15).trans hC.c15
  have y16 := (hK.cell 16).trans hC.c16
  have y17 := (hK.cell 17).trans hC.c17
  have x1 := hX2.cell 1
  simp only [List.getElem?_toArray, List.getElem?_cons_zero, List.getElem?_cons_succ] at x1
  have HH := hide (And.intro hK (And.intro hb2 (And.intro hX2 hC.c18)))
  have hg := hb1.size
  clear hb1 hX hK hb2 hX2 hC hbl
  skip
  go_wp2_with fail
  generalize wa.alloc (.cells cs 49) = W at *
  generalize wa.heap.size = g at *
  have hS : ∀ w', Below W.heap.size W w' → (fun w' => w'.cell? ⟨g, 13, none⟩ = some (.int .i64 meas) ∧ w'.cell? ⟨g, 14, none⟩ = some (.int .i64 jr) ∧ w'.cell? ⟨g, 15, none⟩ = some (.int .i64 out) ∧ w'.cell? ⟨g, 16, none⟩ = some (.int .i64 ev) ∧ w'.cell? ⟨g, 17, none⟩ = some (.int .i64 ar) ∧ w'.cell? ⟨w.heap.size, 1, none⟩ = some (.int .i64 s) ∧ Hid (Below W.heap.size W w')) w' := by
    intro w' h
    have a := HH.out.1.below h HH.out.1.lt
    have bx := HH.out.2.2.1.below h HH.out.2.2.1.lt
    exact ⟨by rw [a.cell, ← HH.out.1.cell]; exact y13, by rw [a.cell, ← HH.out.1.cell]; exact y14, by rw [a.cell, ← HH.out.1.cell]; exact y15, by rw [a.cell, ← HH.out.1.cell]; exact y16, by rw [a.cell, ← HH.out.1.cell]; exact y17, bx.cell 1, h⟩
  have HS := hide hS
  clear hS y13 y14 y15 y16 y17 x1 hst
  refine wp_region_held_drew (S := (fun w' => w'.cell? ⟨g, 13, none⟩ = some (.int .i64 meas) ∧ w'.cell? ⟨g, 14, none⟩ = some (.int .i64 jr) ∧ w'.cell? ⟨g, 15, none⟩ = some (.int .i64 out) ∧ w'.cell? ⟨g, 16, none⟩ = some (.int .i64 ev) ∧ w'.cell? ⟨g, 17, none⟩ = some (.int .i64 ar) ∧ w'.cell? ⟨w.heap.size, 1, none⟩ = some (.int .i64 s) ∧ Hid (Below W.heap.size W w'))) (by kernel_rfl) (HS.out _ (Below.refl _ _).drew) (fun hHeld => ?_)
  refine take_to (i := 0) (some 15) (v := ?_) rfl (by kernel_rfl) (by kernel_rfl) (by kernel_rfl) (fun _ _ _ h => h) rfl (Or.inl ⟨by rfl, ?_⟩) (by assumption) ?_
  rotate_left
  · intro w hSw
    (try dsimp only at hSw)
    go_simp
    with_reducible rfl
  try simp only [Act.put, List.setIfInBounds_toArray, List.set_cons_zero, List.set_cons_succ]
  refine take_to (i := 1) (some 16) (v := ?_) rfl (by kernel_rfl) (by kernel_rfl) (by kernel_rfl) (fun _ _ _ h => h) rfl (Or.inl ⟨by rfl, ?_⟩) (by assumption) ?_
  rotate_left
  · intro w hSw
    (try dsimp only at hSw)
    go_simp
    with_reducible rfl
  try simp only [Act.put, List.setIfInBounds_toArray, List.set_cons_zero, List.set_cons_succ]
  refine take_to (i := 2) (some 17) (v := ?_) rfl (by kernel_rfl) (by kernel_rfl) (by kernel_rfl) (fun _ _ _ h => h) rfl (Or.inl ⟨by rfl, ?_⟩) (by assumption) ?_
  rotate_left
  · intro w hSw
    (try dsimp only at hSw)
    go_simp
    with_reducible rfl
  try simp only [Act.put, List.setIfInBounds_toArray, List.set_cons_zero, List.set_cons_succ]
  refine take_to (i := 3) (some 18) (v := ?_) rfl (by kernel_rfl) (by kernel_rfl) (by kernel_rfl) (fun _ _ _ h => h) rfl (Or.inl ⟨by rfl, ?_⟩) (by assumption) ?_
  rotate_left
  · intro w hSw
    (try dsimp only at hSw)
    go_simp
    with_reducible rfl
  try simp only [Act.put, List.setIfInBounds_toArray, List.set_cons_zero, List.set_cons_succ]
  refine take_to (i := 4) (some 19) (v := ?_) rfl (by kernel_rfl) (by kernel_rfl) (by kernel_rfl) (fun _ _ _ h => h) rfl (Or.inl ⟨by rfl, ?_⟩) (by assumption) ?_
  rotate_left
  · intro w hSw
    (try dsimp only at hSw)
    go_simp
    with_reducible rfl
  try simp only [Act.put, List.setIfInBounds_toArray, List.set_cons_zero, List.set_cons_succ]
  refine take_to (i := 5) (some 20) (v := ?_) rfl (by kernel_rfl) (by kernel_rfl) (by kernel_rfl) (fun _ _ _ h => h) rfl (Or.inl ⟨by rfl, ?_⟩) (by assumption) ?_
  rotate_left
  · intro w hSw
    (try dsimp only at hSw)
    go_simp
    with_reducible rfl
  try simp only [Act.put, List.setIfInBounds_toArray, List.set_cons_zero, List.set_cons_succ]
  refine take_to (i := 6) (some 21) (v := ?_) rfl (by kernel_rfl) (by kernel_rfl) (by kernel_rfl) (fun _ _ _ h => h) rfl (Or.inl ⟨by rfl, ?_⟩) (by assumption) ?_
  rotate_left
  · intro w hSw
    (try dsimp only at hSw)
    go_simp
    with_reducible rfl
  try simp only [Act.put, List.setIfInBounds_toArray, List.set_cons_zero, List.set_cons_succ]
  refine take_to (i := 7) (some 22) (v := ?_) rfl (by kernel_rfl) (by kernel_rfl) (by kernel_rfl) (fun _ _ _ h => h) rfl (Or.inl ⟨by rfl, ?_⟩) (by assumption) ?_
  rotate_left
  · intro w hSw
    (try dsimp only at hSw)
    go_simp
    with_reducible rfl
  try simp only [Act.put, List.setIfInBounds_toArray, List.set_cons_zero, List.set_cons_succ]
  refine take_to (i := 8) (some 23) (v := ?_) rfl (by kernel_rfl) (by kernel_rfl) (by kernel_rfl) (fun _ _ _ h => h) rfl (Or.inl ⟨by rfl, ?_⟩) (by assumption) ?_
  rotate_left
  · intro w hSw
    (try dsimp only at hSw)
    go_simp
    with_reducible rfl
  try simp only [Act.put, List.setIfInBounds_toArray, List.set_cons_zero, List.set_cons_succ]
  refine take_to (i := 9) (some 24) (v := ?_) rfl (by kernel_rfl) (by kernel_rfl) (by kernel_rfl) (fun _ _ _ h => h) rfl (Or.inl ⟨by rfl, ?_⟩) (by assumption) ?_
  rotate_left
  · intro w hSw
    (try dsimp only at hSw)
    go_simp
    with_reducible rfl
  try simp only [Act.put, List.setIfInBounds_toArray, List.set_cons_zero, List.set_cons_succ]
  refine take_to (i := 10) (some 25) (v := ?_) rfl (by kernel_rfl) (by kernel_rfl) (by kernel_rfl) (fun _ _ _ h => h) rfl (Or.inl ⟨by rfl, ?_⟩) (by assumption) ?_
  rotate_left
  · intro w hSw
    (try dsimp only at hSw)
    go_simp
    with_reducible rfl
  try simp only [Act.put, List.setIfInBounds_toArray, List.set_cons_zero, List.set_cons_succ]
  refine take_to (i := 11) (some 26) (v := ?_) rfl (by kernel_rfl) (by kernel_rfl) (by kernel_rfl) (fun _ _ _ h => h) rfl (Or.inl ⟨by rfl, ?_⟩) (by assumption) ?_
  rotate_left
  · intro w hSw
    (try dsimp only at hSw)
    go_simp
    with_reducible rfl
  try simp only [Act.put, List.setIfInBounds_toArray, List.set_cons_zero, List.set_cons_succ]
  refine take_to (i := 12) (some 27) (v := ?_) rfl (by kernel_rfl) (by kernel_rfl) (by kernel_rfl) (fun _ _ _ h => h) rfl (Or.inl ⟨by rfl, ?_⟩) (by assumption) ?_
  rotate_left
  · intro w hSw
    (try dsimp only at hSw)
    go_simp
    with_reducible rfl
  try simp only [Act.put, List.setIfInBounds_toArray, List.set_cons_zero, List.set_cons_succ]
  refine take_to (i := 13) (some 28) (v := ?_) rfl (by kernel_rfl) (by kernel_rfl) (by kernel_rfl) (fun _ _ _ h => h) rfl (Or.inl ⟨by rfl, ?_⟩) (by assumption) ?_
  rotate_left
  · intro w hSw
    (try dsimp only at hSw)
    go_simp
    with_reducible rfl
  try simp only [Act.put, List.setIfInBounds_toArray, List.set_cons_zero, List.set_cons_succ]
  refine take_to (i := 14) (some 29) (v := ?_) rfl (by kernel_rfl) (by kernel_rfl) (by kernel_rfl) (fun _ _ _ h => h) rfl (Or.inl ⟨by rfl, ?_⟩) (by assumption) ?_
  rotate_left
  · intro w hSw
    (try dsimp only at hSw)
    go_simp
    with_reducible rfl
  try simp only [Act.put, List.setIfInBounds_toArray, List.set_cons_zero, List.set_cons_succ]
  refine take_to (i := 15) (some 30) rfl (by kernel_rfl) (by kernel_rfl) (by kernel_rfl) (fun _ _ _ h => h) rfl
    (yields_row (by rfl) 49 _ rfl g (by rfl) 49 cs _ (fun w' hw => HH.out.1.below (core9 hw) HH.out.1.lt) Tryz.underlying49 rfl (by rw [size49, hz])) (by assumption) ?_
  try simp only [Act.put, List.setIfInBounds_toArray, List.set_cons_zero, List.set_cons_succ]
  refine take_to (i := 18) (some 33) (v := ?_) rfl (by kernel_rfl) (by kernel_rfl) (by kernel_rfl) (fun _ _ _ h => h) rfl (Or.inl ⟨by rfl, ?_⟩) (by assumption) ?_
  rotate_left
  · intro w hSw
    (try dsimp only at hSw)
    go_simp
    with_reducible rfl
  try simp only [Act.put, List.setIfInBounds_toArray, List.set_cons_zero, List.set_cons_succ]
  refine take_to (i := 19) (some 34) (v := ?_) rfl (by kernel_rfl) (by kernel_rfl) (by kernel_rfl) (fun _ _ _ h => h) rfl (Or.inl ⟨by rfl, ?_⟩) (by assumption) ?_
  rotate_left
  · intro w hSw
    (try dsimp only at hSw)
    go_simp
    with_reducible rfl
  try simp only [Act.put, List.setIfInBounds_toArray, List.set_cons_zero, List.set_cons_succ]
  refine take_to (i := 20) (some 35) (v := ?_) rfl (by kernel_rfl) (by kernel_rfl) (by kernel_rfl) (fun _ _ _ h => h) rfl (Or.inl ⟨by rfl, ?_⟩) (by assumption) ?_
  rotate_left
  · intro w hSw
    (try dsimp only at hSw)
    go_simp
    with_reducible rfl
  try simp only [Act.put, List.setIfInBounds_toArray, List.set_cons_zero, List.set_cons_succ]
  refine take_to (i := 21) (some 36) (v := ?_) rfl (by kernel_rfl) (by kernel_rfl) (by kernel_rfl) (fun _ _ _ h => h) rfl (Or.inl ⟨by rfl, ?_⟩) (by assumption) ?_
  rotate_left
  · intro w hSw
    (try dsimp only at hSw)
    go_simp
    with_reducible rfl
  try simp only [Act.put, List.setIfInBounds_toArray, List.set_cons_zero, List.set_cons_succ]
  refine take_to (i := 22) (some 37) (v := ?_) rfl (by kernel_rfl) (by kernel_rfl) (by kernel_rfl) (fun _ _ _ h => h) rfl (Or.inl ⟨by rfl, ?_⟩) (by assumption) ?_
  rotate_left
  · intro w hSw
    (try dsimp only at hSw)
    go_simp
    with_reducible rfl
  try simp only [Act.put, List.setIfInBounds_toArray, List.set_cons_zero, List.set_cons_succ]
  refine take_to (i := 23) (some 38) (v := ?_) rfl (by kernel_rfl) (by kernel_rfl) (by kernel_rfl) (fun _ _ _ h => h) rfl (Or.inl ⟨by rfl, ?_⟩) (by assumption) ?_
  rotate_left
  · intro w hSw
    (try dsimp only at hSw)
    go_simp
    with_reducible rfl
  try simp only [Act.put, List.setIfInBounds_toArray, List.set_cons_zero, List.set_cons_succ]
  have hcore := hide (core9 hHeld)
  clear hHeld
  refine wpAnyH_ready (rs := [16]) (by kernel_rfl) (by simp) ?_
  refine AllReadyH.cons rfl (fun K hK => ?_) AllReadyH.nil
  go_simp
  go_at_call 23
  refine (poly23 cs calls q hz HH.out.2.2.2 hc HQ.out _).mono ?_
  rintro e w5 ⟨rfl, hbl⟩
  have hb5 := below_more hcore.out hbl
  go_wp2_with fail
  refine hK.out _ _ (HS.out _ hb5) (fun hHeld => ?_)
  clear hK K hbl
  refine take_to (i := 17) (some 32) (v := ?_) rfl (by kernel_rfl) (by kernel_rfl) (by kernel_rfl) (fun _ _ _ h => h) rfl (Or.inl ⟨by rfl, ?_⟩) (by assumption) ?_
  rotate_left
  · intro w hSw
    (try dsimp only at hSw)
    go_simp
    with_reducible rfl
  try simp only [Act.put, List.setIfInBounds_toArray, List.set_cons_zero, List.set_cons_succ]
  refine wpAnyH_ready (rs := [24]) (by kernel_rfl) (by simp) ?_
  refine AllReadyH.cons rfl (fun K hK => ?_) AllReadyH.nil
  clear hHeld
  go_simp
  refine hK.out _ _ (HS.out _ (below_alloc_self _ hb5)) (fun hHeld => ?_)
  clear hK K
  refine take_to (i := 25) (some 2) (v := ?_) rfl (by kernel_rfl) (by kernel_rfl) (by kernel_rfl) (fun _ _ _ h => h) rfl (Or.inl ⟨by rfl, ?_⟩) (by assumption) ?_
  rotate_left
  · intro w hSw
    (try dsimp only at hSw)
    go_simp
    with_reducible rfl
  try simp only [Act.put, List.setIfInBounds_toArray, List.set_cons_zero, List.set_cons_succ]
  refine wpAnyH_done (by kernel_rfl) ?_ _
  have HF := hide (HH.out.2.1.trans (hb5.mono HH.out.2.1.size))
  clear hHeld hb5
  go_wp2_with fail
  go_ret
  exact ⟨w5.heap.size, rfl, HF.out.size, HF.out.alloc HF.out.size _, Blk.new w5 3 _⟩
end Go.Proofs.YtkacahdogfchfaaGreatDoor
