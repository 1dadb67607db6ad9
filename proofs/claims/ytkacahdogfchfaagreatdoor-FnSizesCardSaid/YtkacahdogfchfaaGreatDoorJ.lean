/-
  impl.Sizes: the list of ten lengths and true, or nothing and false. Conditions: a small input; the error variables hold errors; the table of math/bits is laid.
-/
import Derived.Test.YtkacahdogfchfaaGreatDoorE
import Derived.Test.YtkacahdogfchfaaGreatDoorI
import Derived.Test.YtkacahdogfchfaaGreatDoorR126
import Derived.Test.YtkacahdogfchfaaGreatDoorR133
import Derived.Test.YtkacahdogfchfaaGreatDoorR140
import Derived.Test.YtkacahdogfchfaaGreatDoorR147
import Derived.Test.YtkacahdogfchfaaGreatDoorR154
namespace Go.Proofs.YtkacahdogfchfaaGreatDoor
open Go.RowKit
/-- The list of ten lengths. -/
def Ten (meas jr out ev ar q rand s : Int) : Array Value :=
  #[.int .i64 meas, .int .i64 jr, .int .i64 out, .int .i64 ev, .int .i64 ar, .int .i64 (1 + ev), .int .i64 (ar + (1 + 2 * (q - 1))), .int .i64 (2 + ar), .int .i64 rand, .int .i64 s]
/-- A list comes back, and true. -/
def Listed (w w' : World) (e : Ending) (xs : Array Value) : Prop := ∃ g : Nat, e = .returned (.tuple #[.slice (some ⟨g, 0, none⟩) 10 10, .bool true]) ∧ w.heap.size ≤ g ∧ Below w.heap.size w w' ∧ Blk w' g 3 xs
theorem meth52 (g : Nat) (w : World) (f : Nat) : (method (f + 1) 52 (.pointer (some ⟨g, 0, none⟩)) "Params").run Tryz.prog w = .ok (122, .pointer (some ⟨g, 0, none⟩)) w := by kernel_rfl
theorem nilm52 (a : Addr) (w : World) (f : Nat) : (nilAhead (f + 1) 52 (.pointer (some a)) "Params").run Tryz.prog w = .ok (some false) w := by kernel_rfl
theorem meth57 (g : Nat) (w : World) (f : Nat) : (method (f + 1) 57 (.pointer (some ⟨g, 0, none⟩)) "Params").run Tryz.prog w = .ok (129, .pointer (some ⟨g, 0, none⟩)) w := by kernel_rfl
theorem nilm57 (a : Addr) (w : World) (f : Nat) : (nilAhead (f + 1) 57 (.pointer (some a)) "Params").run Tryz.prog w = .ok (some false) w := by kernel_rfl
theorem meth60 (g : Nat) (w : World) (f : Nat) : (method (f + 1) 60 (.pointer (some ⟨g, 0, none⟩)) "Params").run Tryz.prog w = .ok (136, .pointer (some ⟨g, 0, none⟩)) w := by kernel_rfl
theorem nilm60 (a : Addr) (w : World) (f : Nat) : (nilAhead (f + 1) 60 (.pointer (some a)) "Params").run Tryz.prog w = .ok (some false) w := by kernel_rfl
theorem meth63 (g : Nat) (w : World) (f : Nat) : (method (f + 1) 63 (.pointer (some ⟨g, 0, none⟩)) "Params").run Tryz.prog w = .ok (143, .pointer (some ⟨g, 0, none⟩)) w := by kernel_rfl
theorem nilm63 (a : Addr) (w : World) (f : Nat) : (nilAhead (f + 1) 63 (.pointer (some a)) "Params").run Tryz.prog w = .ok (some false) w := by kernel_rfl
theorem meth66 (g : Nat) (w : World) (f : Nat) : (method (f + 1) 66 (.pointer (some ⟨g, 0, none⟩)) "Params").run Tryz.prog w = .ok (150, .pointer (some ⟨g, 0, none⟩)) w := by kernel_rfl
theorem nilm66 (a : Addr) (w : World) (f : Nat) : (nilAhead (f + 1) 66 (.pointer (some a)) "Params").run Tryz.prog w = .ok (some false) w := by kernel_rfl
set_option maxRecDepth 100000 in
set_option maxHeartbeats 2000000 in
theorem sizes6_1 (l b c m : Int) (s : Int) (A : Option Addr) (n cp : Nat) (w : World) (h0 : 2 ≤ s) (h1 : s ≤ 255) (hn : n ≤ 4096) (hb : Bytes w A n) (hT : Tab w) : Calls Tryz.prog 6 #[.agg #[.int .i64 1, .int .i64 s, .int .i64 l, .int .i64 b, .int .i64 c, .int .u64 m, .slice A n cp]] w
    fun e w' => Listed w w' e (Ten 1 0 1 1 2 ((2 : Nat) : Int) (32 * s) s) := by
  have hb0 : Below w.heap.size w ((w.alloc (.cells #[.int .i64 1, .int .i64 s, .int .i64 l, .int .i64 b, .int .i64 c, .int .u64 m, .slice A n cp] 25)).alloc (.cells #[.int .u64 0, .int .u64 0, .int .u64 0, .int .u64 0, .int .u64 0, .int .u64 0, .int .u64 0, .int .u64 0, .int .u64 0, .int .u8 0] 34)) := ((Below.refl _ _).alloc (Nat.le_refl _) _).alloc (by simp) _
  have hB4 := Blk.new (w.alloc (.cells #[.int .i64 1, .int .i64 s, .int .i64 l, .int .i64 b, .int .i64 c, .int .u64 m, .slice A n cp] 25)) 34 #[.int .u64 0, .int .u64 0, .int .u64 0, .int .u64 0, .int .u64 0, .int .u64 0, .int .u64 0, .int .u64 0, .int .u64 0, .int .u8 0]
  simp only [World.size_alloc] at hB4
  have HB := hide (And.intro hb0 (And.intro (hb.below hb0) (And.intro (hT.below hb0) (And.intro hB4 ((Blk.new w 25 #[.int .i64 1, .int .i64 s, .int .i64 l, .int .i64 b, .int .i64 c, .int .u64 m, .slice A n cp]).alloc (.cells #[.int .u64 0, .int .u64 0, .int .u64 0, .int .u64 0, .int .u64 0, .int .u64 0, .int .u64 0, .int .u64 0, .int .u64 0, .int .u8 0] 34))))))
  clear hb0 hb hT hB4
  have hmth := meth52
  have hnm := nilm52
  go_enter Tryz.func6, Tryz.ntmps6
  go_wp2_with fail
  refine (small10_1 l b c m s A n cp _ h0 h1 hn HB.out.2.1).mono ?_
  rintro e w1 ⟨g, fg, cs, fs, rfl, hg, hfg, hbl, hK, hP, hF, f, hfs⟩
  subst hfs
  have HM := hide (And.intro (HB.out.2.2.1.below hbl) (And.intro hK (And.intro hP (And.intro hF (And.intro (HB.out.1.trans (hbl.mono HB.out.1.size)) (HB.out.2.2.2.1.below hbl HB.out.2.2.2.1.lt))))))
  clear hbl hK hP hF hg hfg
  go_wp2_with fail
  refine (params122 g fg cs _ 1 0 1 1 (32 * s) s 1 2 _ HM.out.1 HM.out.2.1 HM.out.2.2.1 HM.out.2.2.2.1 rfl rfl rfl rfl rfl (by omega) (by omega) (by omega) (by decide)).mono ?_
  rintro e w2 ⟨he2, hb2⟩
  have h34 := HM.out.2.2.2.2.2.below hb2 HM.out.2.2.2.2.2.lt
  have hbw := HM.out.2.2.2.2.1.trans (hb2.mono HM.out.2.2.2.2.1.size)
  obtain ⟨row, hrow⟩ : ∃ row : Array Value, row = #[.int .u64 0, .int .u64 1, .int .u64 1, .int .u64 1, .int .u64 (1 + 1), .int .u64 2, .int .u64 (2 + (1 + 2 * (((2 : Nat) : Int) - 1))), .int .u64 (2 + 2), .int .u64 (32 * s), .int .u8 s] := ⟨_, rfl⟩
  have hz : row.size = 10 := by rw [hrow]; rfl
  rw [← hrow] at he2
  subst he2
  have hst := run_put_row (P := Tryz.prog) h34 row (by rw [hz]; rfl) (by rw [hrow]; simp [Ones, Value.oneCell'])
  have hK2 := h34.setRow row
  have hbw2 := below_setRow hbw (g := w.heap.size + 1) (by omega) row
  generalize w2.setRow (w.heap.size + 1) row = W at hst hK2 hbw2
  have c0 := hK2.cell 0
  have c1 := hK2.cell 1
  have c2 := hK2.cell 2
  have c3 := hK2.cell 3
  have c4 := hK2.cell 4
  have c5 := hK2.cell 5
  have c6 := hK2.cell 6
  have c7 := hK2.cell 7
  have c8 := hK2.cell 8
  have c9 := hK2.cell 9
  rw [hrow] at c0 c1 c2 c3 c4 c5 c6 c7 c8 c9
  simp only [List.getElem?_toArray, List.getElem?_cons_zero, List.getElem?_cons_succ] at c0 c1 c2 c3 c4 c5 c6 c7 c8 c9
  replace hrow := hide hrow
  have HW := hide hbw2
  have HC := hide (And.intro c0 (And.intro c1 (And.intro c2 (And.intro c3 (And.intro c4 (And.intro c5 (And.intro c6 (And.intro c7 (And.intro c8 c9)))))))))
  clear h34 hbw hK2 hbw2 hb2 c0 c1 c2 c3 c4 c5 c6 c7 c8 c9
  go_wp2_with fail
  refine (get12 (w.heap.size + 1) _ _ HC.out.2.1).mono ?_
  rintro e w' ⟨rfl, rfl⟩
  go_wp2_with fail
  refine (get13 (w.heap.size + 1) _ _ HC.out.1).mono ?_
  rintro e w' ⟨rfl, rfl⟩
  go_wp2_with fail
  refine (get14 (w.heap.size + 1) _ _ HC.out.2.2.1).mono ?_
  rintro e w' ⟨rfl, rfl⟩
  go_wp2_with fail
  refine (get15 (w.heap.size + 1) _ _ HC.out.2.2.2.1).mono ?_
  rintro e w' ⟨rfl, rfl⟩
  go_wp2_with fail
  refine (get16 (w.heap.size + 1) _ _ HC.out.2.2.2.2.2.1).mono ?_
  rintro e w' ⟨rfl, rfl⟩
  go_wp2_with fail
  refine (get17 (w.heap.size + 1) _ _ HC.out.2.2.2.2.1).mono ?_
  rintro e w' ⟨rfl, rfl⟩
  go_wp2_with fail
  refine (get18 (w.heap.size + 1) _ _ HC.out.2.2.2.2.2.2.1).mono ?_
  rintro e w' ⟨rfl, rfl⟩
  go_wp2_with fail
  refine (get19 (w.heap.size + 1) _ _ HC.out.2.2.2.2.2.2.2.1).mono ?_
  rintro e w' ⟨rfl, rfl⟩
  go_wp2_with fail
  refine (get20 (w.heap.size + 1) _ _ HC.out.2.2.2.2.2.2.2.2.1).mono ?_
  rintro e w' ⟨rfl, rfl⟩
  go_wp2_with fail
  refine (get21 (w.heap.size + 1) _ _ HC.out.2.2.2.2.2.2.2.2.2).mono ?_
  rintro e w' ⟨rfl, rfl⟩
  go_wp2_with fail
  go_ret2
  exact ⟨W.heap.size, rfl, HW.out.size, HW.out.alloc HW.out.size _, Blk.new W 3 _⟩
set_option maxRecDepth 100000 in
set_option maxHeartbeats 2000000 in
theorem sizes6_2 (l b c m : Int) (bl q : Nat) (s : Int) (A : Option Addr) (n cp : Nat) (w : World) (hm0 : 0 ≤ m) (hm : m < 9223372036854775808) (hL : Lib.bitLen m.toNat = bl) (hq : np2 (1 + 2 * bl) = q) (h0 : 2 ≤ s) (h1 : s ≤ 255) (hn : n ≤ 4096) (hb : Bytes w A n) (hT : Tab w) : Calls Tryz.prog 6 #[.agg #[.int .i64 2, .int .i64 s, .int .i64 l, .int .i64 b, .int .i64 c, .int .u64 m, .slice A n cp]] w
    fun e w' => Listed w w' e (Ten (2 * (bl : Int)) 0 1 (2 * (bl : Int) + 1) 1 (q : Int) (32 * s) s) := by
  have hb0 : Below w.heap.size w ((w.alloc (.cells #[.int .i64 2, .int .i64 s, .int .i64 l, .int .i64 b, .int .i64 c, .int .u64 m, .slice A n cp] 25)).alloc (.cells #[.int .u64 0, .int .u64 0, .int .u64 0, .int .u64 0, .int .u64 0, .int .u64 0, .int .u64 0, .int .u64 0, .int .u64 0, .int .u8 0] 34)) := ((Below.refl _ _).alloc (Nat.le_refl _) _).alloc (by simp) _
  have hB4 := Blk.new (w.alloc (.cells #[.int .i64 2, .int .i64 s, .int .i64 l, .int .i64 b, .int .i64 c, .int .u64 m, .slice A n cp] 25)) 34 #[.int .u64 0, .int .u64 0, .int .u64 0, .int .u64 0, .int .u64 0, .int .u64 0, .int .u64 0, .int .u64 0, .int .u64 0, .int .u8 0]
  simp only [World.size_alloc] at hB4
  have HB := hide (And.intro hb0 (And.intro (hb.below hb0) (And.intro (hT.below hb0) (And.intro hB4 ((Blk.new w 25 #[.int .i64 2, .int .i64 s, .int .i64 l, .int .i64 b, .int .i64 c, .int .u64 m, .slice A n cp]).alloc (.cells #[.int .u64 0, .int .u64 0, .int .u64 0, .int .u64 0, .int .u64 0, .int .u64 0, .int .u64 0, .int .u64 0, .int .u64 0, .int .u8 0] 34))))))
  clear hb0 hb hT hB4
  have hmth := meth57
  have hnm := nilm57
  have hbl2 : bl ≤ 63 := by rw [← hL]; exact (bitLen_bounds m.toNat (by omega)).1
  have HL := hide hL
  clear hL
  have hN : 1 ≤ q ∧ q ≤ 2048 := by
    have := np2_bound (1 + 2 * bl) (by omega) (by omega)
    omega
  have HQ := hide hq
  clear hq
  go_enter Tryz.func6, Tryz.ntmps6
  go_wp2_with fail
  refine (small10_2 l b c m bl s A n cp _ hm0 hm HL.out h0 h1 hn HB.out.2.1).mono ?_
  rintro e w1 ⟨g, fg, cs, fs, rfl, hg, hfg, hbl, hK, hP, hF, f, x, hfs⟩
  subst hfs
  have HM := hide (And.intro (HB.out.2.2.1.below hbl) (And.intro hK (And.intro hP (And.intro hF (And.intro (HB.out.1.trans (hbl.mono HB.out.1.size)) (HB.out.2.2.2.1.below hbl HB.out.2.2.2.1.lt))))))
  clear hbl hK hP hF hg hfg
  go_wp2_with fail
  refine (params129 g fg cs _ (2 * (bl : Int)) 0 (2 * (bl : Int) + 1) 1 (32 * s) s (2 * bl) q _ HM.out.1 HM.out.2.1 HM.out.2.2.1 HM.out.2.2.2.1 (by simp) rfl rfl rfl rfl (by omega) (by omega) (by omega) HQ.out).mono ?_
  rintro e w2 ⟨he2, hb2⟩
  have h34 := HM.out.2.2.2.2.2.below hb2 HM.out.2.2.2.2.2.lt
  have hbw := HM.out.2.2.2.2.1.trans (hb2.mono HM.out.2.2.2.2.1.size)
  obtain ⟨row, hrow⟩ : ∃ row : Array Value, row = #[.int .u64 0, .int .u64 (2 * (bl : Int)), .int .u64 1, .int .u64 (2 * (bl : Int) + 1), .int .u64 (1 + (2 * (bl : Int) + 1)), .int .u64 1, .int .u64 (1 + (1 + 2 * ((q : Int) - 1))), .int .u64 (2 + 1), .int .u64 (32 * s), .int .u8 s] := ⟨_, rfl⟩
  have hz : row.size = 10 := by rw [hrow]; rfl
  rw [← hrow] at he2
  subst he2
  have hst := run_put_row (P := Tryz.prog) h34 row (by rw [hz]; rfl) (by rw [hrow]; simp [Ones, Value.oneCell'])
  have hK2 := h34.setRow row
  have hbw2 := below_setRow hbw (g := w.heap.size + 1) (by omega) row
  generalize w2.setRow (w.heap.size + 1) row = W at hst hK2 hbw2
  have c0 := hK2.cell 0
  have c1 := hK2.cell 1
  have c2 := hK2.cell 2
  have c3 := hK2.cell 3
  have c4 := hK2.cell 4
  have c5 := hK2.cell 5
  have c6 := hK2.cell 6
  have c7 := hK2.cell 7
  have c8 := hK2.cell 8
  have c9 := hK2.cell 9
  rw [hrow] at c0 c1 c2 c3 c4 c5 c6 c7 c8 c9
  simp only [List.getElem?_toArray, List.getElem?_cons_zero, List.getElem?_cons_succ] at c0 c1 c2 c3 c4 c5 c6 c7 c8 c9
  replace hrow := hide hrow
  have HW := hide hbw2
  have HC := hide (And.intro c0 (And.intro c1 (And.intro c2 (And.intro c3 (And.intro c4 (And.intro c5 (And.intro c6 (And.intro c7 (And.intro c8 c9)))))))))
  clear h34 hbw hK2 hbw2 hb2 c0 c1 c2 c3 c4 c5 c6 c7 c8 c9
  go_wp2_with fail
  refine (get12 (w.heap.size + 1) _ _ HC.out.2.1).mono ?_
  rintro e w' ⟨rfl, rfl⟩
  go_wp2_with fail
  refine (get13 (w.heap.size + 1) _ _ HC.out.1).mono ?_
  rintro e w' ⟨rfl, rfl⟩
  go_wp2_with fail
  refine (get14 (w.heap.size + 1) _ _ HC.out.2.2.1).mono ?_
  rintro e w' ⟨rfl, rfl⟩
  go_wp2_with fail
  refine (get15 (w.heap.size + 1) _ _ HC.out.2.2.2.1).mono ?_
  rintro e w' ⟨rfl, rfl⟩
  go_wp2_with fail
  refine (get16 (w.heap.size + 1) _ _ HC.out.2.2.2.2.2.1).mono ?_
  rintro e w' ⟨rfl, rfl⟩
  go_wp2_with fail
  refine (get17 (w.heap.size + 1) _ _ HC.out.2.2.2.2.1).mono ?_
  rintro e w' ⟨rfl, rfl⟩
  go_wp2_with fail
  refine (get18 (w.heap.size + 1) _ _ HC.out.2.2.2.2.2.2.1).mono ?_
  rintro e w' ⟨rfl, rfl⟩
  go_wp2_with fail
  refine (get19 (w.heap.size + 1) _ _ HC.out.2.2.2.2.2.2.2.1).mono ?_
  rintro e w' ⟨rfl, rfl⟩
  go_wp2_with fail
  refine (get20 (w.heap.size + 1) _ _ HC.out.2.2.2.2.2.2.2.2.1).mono ?_
  rintro e w' ⟨rfl, rfl⟩
  go_wp2_with fail
  refine (get21 (w.heap.size + 1) _ _ HC.out.2.2.2.2.2.2.2.2.2).mono ?_
  rintro e w' ⟨rfl, rfl⟩
  go_wp2_with fail
  go_ret2
  exact ⟨W.heap.size, rfl, HW.out.size, HW.out.alloc HW.out.size _, Blk.new W 3 _⟩
set_option maxRecDepth 100000 in
set_option maxHeartbeats 2000000 in
theorem sizes6_3 (l b c mb calls q : Nat) (m : Int) (s : Int) (A : Option Addr) (n cp : Nat) (w : World) (hl0 : 1 ≤ l) (hl : l ≤ 16) (hb1 : 1 ≤ b) (hb2 : b ≤ 64) (hc : 1 ≤ c) (hc2 : c ≤ 16) (hmb : l * b = mb) (hcalls : (mb + c - 1) / c = calls) (hq : np2 (1 + calls) = q) (h0 : 2 ≤ s) (h1 : s ≤ 255) (hn : n ≤ 4096) (hb : Bytes w A n) (hT : Tab w) : Calls Tryz.prog 6 #[.agg #[.int .i64 3, .int .i64 s, .int .i64 (l : Int), .int .i64 (b : Int), .int .i64 (c : Int), .int .u64 m, .slice A n cp]] w
    fun e w' => Listed w w' e (Ten (mb : Int) (calls : Int) (l : Int) 1 (2 * (c : Int)) (q : Int) (32 * s * 2) s) := by
  have hb0 : Below w.heap.size w ((w.alloc (.cells #[.int .i64 3, .int .i64 s, .int .i64 (l : Int), .int .i64 (b : Int), .int .i64 (c : Int), .int .u64 m, .slice A n cp] 25)).alloc (.cells #[.int .u64 0, .int .u64 0, .int .u64 0, .int .u64 0, .int .u64 0, .int .u64 0, .int .u64 0, .int .u64 0, .int .u64 0, .int .u8 0] 34)) := ((Below.refl _ _).alloc (Nat.le_refl _) _).alloc (by simp) _
  have hB4 := Blk.new (w.alloc (.cells #[.int .i64 3, .int .i64 s, .int .i64 (l : Int), .int .i64 (b : Int), .int .i64 (c : Int), .int .u64 m, .slice A n cp] 25)) 34 #[.int .u64 0, .int .u64 0, .int .u64 0, .int .u64 0, .int .u64 0, .int .u64 0, .int .u64 0, .int .u64 0, .int .u64 0, .int .u8 0]
  simp only [World.size_alloc] at hB4
  have HB := hide (And.intro hb0 (And.intro (hb.below hb0) (And.intro (hT.below hb0) (And.intro hB4 ((Blk.new w 25 #[.int .i64 3, .int .i64 s, .int .i64 (l : Int), .int .i64 (b : Int), .int .i64 (c : Int), .int .u64 m, .slice A n cp]).alloc (.cells #[.int .u64 0, .int .u64 0, .int .u64 0, .int .u64 0, .int .u64 0, .int .u64 0, .int .u64 0, .int .u64 0, .int .u64 0, .int .u8 0] 34))))))
  clear hb0 hb hT hB4
  have hmth := meth60
  have hnm := nilm60
  have hmb2 : mb ≤ 16 * 64 := by rw [← hmb]; exact Nat.mul_le_mul hl hb2
  have hdv : calls ≤ 1060 := by
    have := Nat.div_le_self (mb + c - 1) c
    omega
  have HMB := hide hmb
  have HCA := hide hcalls
  clear hmb hcalls
  have hN : 1 ≤ q ∧ q ≤ 2048 := by
    have := np2_bound (1 + calls) (by omega) (by omega)
    omega
  have HQ := hide hq
  clear hq
  go_enter Tryz.func6, Tryz.ntmps6
  go_wp2_with fail
  refine (small10_0 3 l b c m s A n cp _ (by decide) (by decide)).mono ?_
  rintro e w' ⟨rfl, hbn⟩
  have HB := hide (And.intro (HB.out.1.trans (hbn.mono HB.out.1.size)) (And.intro (HB.out.2.1.below hbn) (And.intro (HB.out.2.2.1.below hbn) (And.intro (HB.out.2.2.2.1.below hbn HB.out.2.2.2.1.lt) (HB.out.2.2.2.2.below hbn HB.out.2.2.2.2.lt)))))
  clear hbn
  have x0 := HB.out.2.2.2.2.cell 0
  have x1 := HB.out.2.2.2.2.cell 1
  have x2 := HB.out.2.2.2.2.cell 2
  have x3 := HB.out.2.2.2.2.cell 3
  have x4 := HB.out.2.2.2.2.cell 4
  have x5 := HB.out.2.2.2.2.cell 5
  have x6 := HB.out.2.2.2.2.cell 6
  simp only [List.getElem?_toArray, List.getElem?_cons_zero, List.getElem?_cons_succ] at x0 x1 x2 x3 x4 x5 x6
  go_wp2_with fail
  refine (large11_3 l b c m s A n cp _ hl0 hl hb1 hb2 hc hc2 h0 h1 hn HB.out.2.1).mono ?_
  rintro e w1 ⟨g, fg, cs, fs, rfl, hg, hfg, hbl, hK, hP, hF, f, hfs⟩
  rw [HMB.out, HCA.out] at hfs
  subst hfs
  have HM := hide (And.intro (HB.out.2.2.1.below hbl) (And.intro hK (And.intro hP (And.intro hF (And.intro (HB.out.1.trans (hbl.mono HB.out.1.size)) (HB.out.2.2.2.1.below hbl HB.out.2.2.2.1.lt))))))
  clear hbl hK hP hF hg hfg
  go_wp2_with fail
  refine (params136 g fg cs _ (mb : Int) (calls : Int) 1 (l : Int) (32 * s * 2) s c calls q _ HM.out.1 HM.out.2.1 HM.out.2.2.1 HM.out.2.2.2.1 rfl rfl rfl rfl rfl rfl hc2 (by omega) (by omega) (by omega) HQ.out).mono ?_
  rintro e w2 ⟨he2, hb2⟩
  have h34 := HM.out.2.2.2.2.2.below hb2 HM.out.2.2.2.2.2.lt
  have hbw := HM.out.2.2.2.2.1.trans (hb2.mono HM.out.2.2.2.2.1.size)
  obtain ⟨row, hrow⟩ : ∃ row : Array Value, row = #[.int .u64 (calls : Int), .int .u64 (mb : Int), .int .u64 (l : Int), .int .u64 1, .int .u64 (1 + 1), .int .u64 (2 * (c : Int)), .int .u64 ((2 * (c : Int)) + (1 + 2 * ((q : Int) - 1))), .int .u64 (2 + (2 * (c : Int))), .int .u64 (32 * s * 2), .int .u8 s] := ⟨_, rfl⟩
  have hz : row.size = 10 := by rw [hrow]; rfl
  rw [← hrow] at he2
  subst he2
  have hst := run_put_row (P := Tryz.prog) h34 row (by rw [hz]; rfl) (by rw [hrow]; simp [Ones, Value.oneCell'])
  have hK2 := h34.setRow row
  have hbw2 := below_setRow hbw (g := w.heap.size + 1) (by omega) row
  generalize w2.setRow (w.heap.size + 1) row = W at hst hK2 hbw2
  have c0 := hK2.cell 0
  have c1 := hK2.cell 1
  have c2 := hK2.cell 2
  have c3 := hK2.cell 3
  have c4 := hK2.cell 4
  have c5 := hK2.cell 5
  have c6 := hK2.cell 6
  have c7 := hK2.cell 7
  have c8 := hK2.cell 8
  have c9 := hK2.cell 9
  rw [hrow] at c0 c1 c2 c3 c4 c5 c6 c7 c8 c9
  simp only [List.getElem?_toArray, List.getElem?_cons_zero, List.getElem?_cons_succ] at c0 c1 c2 c3 c4 c5 c6 c7 c8 c9
  replace hrow := hide hrow
  have HW := hide hbw2
  have HC := hide (And.intro c0 (And.intro c1 (And.intro c2 (And.intro c3 (And.intro c4 (And.intro c5 (And.intro c6 (And.intro c7 (And.intro c8 c9)))))))))
  clear h34 hbw hK2 hbw2 hb2 c0 c1 c2 c3 c4 c5 c6 c7 c8 c9
  go_wp2_with fail
  refine (get12 (w.heap.size + 1) _ _ HC.out.2.1).mono ?_
  rintro e w' ⟨rfl, rfl⟩
  go_wp2_with fail
  refine (get13 (w.heap.size + 1) _ _ HC.out.1).mono ?_
  rintro e w' ⟨rfl, rfl⟩
  go_wp2_with fail
  refine (get14 (w.heap.size + 1) _ _ HC.out.2.2.1).mono ?_
  rintro e w' ⟨rfl, rfl⟩
  go_wp2_with fail
  refine (get15 (w.heap.size + 1) _ _ HC.out.2.2.2.1).mono ?_
  rintro e w' ⟨rfl, rfl⟩
  go_wp2_with fail
  refine (get16 (w.heap.size + 1) _ _ HC.out.2.2.2.2.2.1).mono ?_
  rintro e w' ⟨rfl, rfl⟩
  go_wp2_with fail
  refine (get17 (w.heap.size + 1) _ _ HC.out.2.2.2.2.1).mono ?_
  rintro e w' ⟨rfl, rfl⟩
  go_wp2_with fail
  refine (get18 (w.heap.size + 1) _ _ HC.out.2.2.2.2.2.2.1).mono ?_
  rintro e w' ⟨rfl, rfl⟩
  go_wp2_with fail
  refine (get19 (w.heap.size + 1) _ _ HC.out.2.2.2.2.2.2.2.1).mono ?_
  rintro e w' ⟨rfl, rfl⟩
  go_wp2_with fail
  refine (get20 (w.heap.size + 1) _ _ HC.out.2.2.2.2.2.2.2.2.1).mono ?_
  rintro e w' ⟨rfl, rfl⟩
  go_wp2_with fail
  refine (get21 (w.heap.size + 1) _ _ HC.out.2.2.2.2.2.2.2.2.2).mono ?_
  rintro e w' ⟨rfl, rfl⟩
  go_wp2_with fail
  go_ret2
  exact ⟨W.heap.size, rfl, HW.out.size, HW.out.alloc HW.out.size _, Blk.new W 3 _⟩
set_option maxRecDepth 100000 in
set_option maxHeartbeats 2000000 in
theorem sizes6_4 (l c calls q : Nat) (b m : Int) (s : Int) (A : Option Addr) (n cp : Nat) (w : World) (hl0 : 1 ≤ l) (hl : l ≤ 16) (hc : 1 ≤ c) (hc2 : c ≤ 16) (hcalls : (l + c - 1) / c = calls) (hq : np2 (1 + calls) = q) (h0 : 2 ≤ s) (h1 : s ≤ 255) (hn : n ≤ 4096) (hb : Bytes w A n) (hT : Tab w) : Calls Tryz.prog 6 #[.agg #[.int .i64 4, .int .i64 s, .int .i64 (l : Int), .int .i64 b, .int .i64 (c : Int), .int .u64 m, .slice A n cp]] w
    fun e w' => Listed w w' e (Ten (l : Int) (calls : Int) (l : Int) 2 (2 * (c : Int)) (q : Int) (32 * s * 2) s) := by
  have hb0 : Below w.heap.size w ((w.alloc (.cells #[.int .i64 4, .int .i64 s, .int .i64 (l : Int), .int .i64 b, .int .i64 (c : Int), .int .u64 m, .slice A n cp] 25)).alloc (.cells #[.int .u64 0, .int .u64 0, .int .u64 0, .int .u64 0, .int .u64 0, .int .u64 0, .int .u64 0, .int .u64 0, .int .u64 0, .int .u8 0] 34)) := ((Below.refl _ _).alloc (Nat.le_refl _) _).alloc (by simp) _
  have hB4 := Blk.new (w.alloc (.cells #[.int .i64 4, .int .i64 s, .int .i64 (l : Int), .int .i64 b, .int .i64 (c : Int), .int .u64 m, .slice A n cp] 25)) 34 #[.int .u64 0, .int .u64 0, .int .u64 0, .int .u64 0, .int .u64 0, .int .u64 0, .int .u64 0, .int .u64 0, .int .u64 0, .int .u8 0]
  simp only [World.size_alloc] at hB4
  have HB := hide (And.intro hb0 (And.intro (hb.below hb0) (And.intro (hT.below hb0) (And.intro hB4 ((Blk.new w 25 #[.int .i64 4, .int .i64 s, .int .i64 (l : Int), .int .i64 b, .int .i64 (c : Int), .int .u64 m, .slice A n cp]).alloc (.cells #[.int .u64 0, .int .u64 0, .int .u64 0, .int .u64 0, .int .u64 0, .int .u64 0, .int .u64 0, .int .u64 0, .int .u64 0, .int .u8 0] 34))))))
  clear hb0 hb hT hB4
  have hmth := meth63
  have hnm := nilm63
  have hdv : calls ≤ 1060 := by
    have := Nat.div_le_self (l + c - 1) c
    omega
  have HCA := hide hcalls
  clear hcalls
  have hN : 1 ≤ q ∧ q ≤ 2048 := by
    have := np2_bound (1 + calls) (by omega) (by omega)
    omega
  have HQ := hide hq
  clear hq
  go_enter Tryz.func6, Tryz.ntmps6
  go_wp2_with fail
  refine (small10_0 4 l b c m s A n cp _ (by decide) (by decide)).mono ?_
  rintro e w' ⟨rfl, hbn⟩
  have HB := hide (And.intro (HB.out.1.trans (hbn.mono HB.out.1.size)) (And.intro (HB.out.2.1.below hbn) (And.intro (HB.out.2.2.1.below hbn) (And.intro (HB.out.2.2.2.1.below hbn HB.out.2.2.2.1.lt) (HB.out.2.2.2.2.below hbn HB.out.2.2.2.2.lt)))))
  clear hbn
  have x0 := HB.out.2.2.2.2.cell 0
  have x1 := HB.out.2.2.2.2.cell 1
  have x2 := HB.out.2.2.2.2.cell 2
  have x3 := HB.out.2.2.2.2.cell 3
  have x4 := HB.out.2.2.2.2.cell 4
  have x5 := HB.out.2.2.2.2.cell 5
  have x6 := HB.out.2.2.2.2.cell 6
  simp only [List.getElem?_toArray, List.getElem?_cons_zero, List.getElem?_cons_succ] at x0 x1 x2 x3 x4 x5 x6
  go_wp2_with fail
  refine (large11_4 l c b m s A n cp _ hl0 hl hc hc2 h0 h1 hn HB.out.2.1).mono ?_
  rintro e w1 ⟨g, fg, cs, fs, rfl, hg, hfg, hbl, hK, hP, hF, f, hfs⟩
  rw [HCA.out] at hfs
  subst hfs
  have HM := hide (And.intro (HB.out.2.2.1.below hbl) (And.intro hK (And.intro hP (And.intro hF (And.intro (HB.out.1.trans (hbl.mono HB.out.1.size)) (HB.out.2.2.2.1.below hbl HB.out.2.2.2.1.lt))))))
  clear hbl hK hP hF hg hfg
  go_wp2_with fail
  refine (params143 g fg cs _ (l : Int) (calls : Int) 2 (l : Int) (32 * s * 2) s c calls q _ HM.out.1 HM.out.2.1 HM.out.2.2.1 HM.out.2.2.2.1 rfl rfl rfl rfl rfl rfl hc2 (by omega) (by omega) (by omega) HQ.out).mono ?_
  rintro e w2 ⟨he2, hb2⟩
  have h34 := HM.out.2.2.2.2.2.below hb2 HM.out.2.2.2.2.2.lt
  have hbw := HM.out.2.2.2.2.1.trans (hb2.mono HM.out.2.2.2.2.1.size)
  obtain ⟨row, hrow⟩ : ∃ row : Array Value, row = #[.int .u64 (calls : Int), .int .u64 (l : Int), .int .u64 (l : Int), .int .u64 2, .int .u64 (1 + 2), .int .u64 (2 * (c : Int)), .int .u64 ((2 * (c : Int)) + (1 + 2 * ((q : Int) - 1))), .int .u64 (2 + (2 * (c : Int))), .int .u64 (32 * s * 2), .int .u8 s] := ⟨_, rfl⟩
  have hz : row.size = 10 := by rw [hrow]; rfl
  rw [← hrow] at he2
  subst he2
  have hst := run_put_row (P := Tryz.prog) h34 row (by rw [hz]; rfl) (by rw [hrow]; simp [Ones, Value.oneCell'])
  have hK2 := h34.setRow row
  have hbw2 := below_setRow hbw (g := w.heap.size + 1) (by omega) row
  generalize w2.setRow (w.heap.size + 1) row = W at hst hK2 hbw2
  have c0 := hK2.cell 0
  have c1 := hK2.cell 1
  have c2 := hK2.cell 2
  have c3 := hK2.cell 3
  have c4 := hK2.cell 4
  have c5 := hK2.cell 5
  have c6 := hK2.cell 6
  have c7 := hK2.cell 7
  have c8 := hK2.cell 8
  have c9 := hK2.cell 9
  rw [hrow] at c0 c1 c2 c3 c4 c5 c6 c7 c8 c9
  simp only [List.getElem?_toArray, List.getElem?_cons_zero, List.getElem?_cons_succ] at c0 c1 c2 c3 c4 c5 c6 c7 c8 c9
  replace hrow := hide hrow
  have HW := hide hbw2
  have HC := hide (And.intro c0 (And.intro c1 (And.intro c2 (And.intro c3 (And.intro c4 (And.intro c5 (And.intro c6 (And.intro c7 (And.intro c8 c9)))))))))
  clear h34 hbw hK2 hbw2 hb2 c0 c1 c2 c3 c4 c5 c6 c7 c8 c9
  go_wp2_with fail
  refine (get12 (w.heap.size + 1) _ _ HC.out.2.1).mono ?_
  rintro e w' ⟨rfl, rfl⟩
  go_wp2_with fail
  refine (get13 (w.heap.size + 1) _ _ HC.out.1).mono ?_
  rintro e w' ⟨rfl, rfl⟩
  go_wp2_with fail
  refine (get14 (w.heap.size + 1) _ _ HC.out.2.2.1).mono ?_
  rintro e w' ⟨rfl, rfl⟩
  go_wp2_with fail
  refine (get15 (w.heap.size + 1) _ _ HC.out.2.2.2.1).mono ?_
  rintro e w' ⟨rfl, rfl⟩
  go_wp2_with fail
  refine (get16 (w.heap.size + 1) _ _ HC.out.2.2.2.2.2.1).mono ?_
  rintro e w' ⟨rfl, rfl⟩
  go_wp2_with fail
  refine (get17 (w.heap.size + 1) _ _ HC.out.2.2.2.2.1).mono ?_
  rintro e w' ⟨rfl, rfl⟩
  go_wp2_with fail
  refine (get18 (w.heap.size + 1) _ _ HC.out.2.2.2.2.2.2.1).mono ?_
  rintro e w' ⟨rfl, rfl⟩
  go_wp2_with fail
  refine (get19 (w.heap.size + 1) _ _ HC.out.2.2.2.2.2.2.2.1).mono ?_
  rintro e w' ⟨rfl, rfl⟩
  go_wp2_with fail
  refine (get20 (w.heap.size + 1) _ _ HC.out.2.2.2.2.2.2.2.2.1).mono ?_
  rintro e w' ⟨rfl, rfl⟩
  go_wp2_with fail
  refine (get21 (w.heap.size + 1) _ _ HC.out.2.2.2.2.2.2.2.2.2).mono ?_
  rintro e w' ⟨rfl, rfl⟩
  go_wp2_with fail
  go_ret2
  exact ⟨W.heap.size, rfl, HW.out.size, HW.out.alloc HW.out.size _, Blk.new W 3 _⟩
set_option maxRecDepth 100000 in
set_option maxHeartbeats 2000000 in
theorem sizes6_5 (l c bl calls q : Nat) (b m : Int) (s : Int) (A : Option Addr) (n cp : Nat) (w : World) (hl0 : 1 ≤ l) (hl : l ≤ 16) (hm0 : 0 ≤ m) (hm : m ≤ (l : Int)) (hc : 1 ≤ c) (hc2 : c ≤ 16) (hL : Lib.bitLen m.toNat = bl) (hcalls : (l + bl + c - 1) / c = calls) (hq : np2 (1 + calls) = q) (h0 : 2 ≤ s) (h1 : s ≤ 255) (hn : n ≤ 4096) (hb : Bytes w A n) (hT : Tab w) : Calls Tryz.prog 6 #[.agg #[.int .i64 5, .int .i64 s, .int .i64 (l : Int), .int .i64 b, .int .i64 (c : Int), .int .u64 m, .slice A n cp]] w
    fun e w' => Listed w w' e (Ten ((l : Int) + (bl : Int)) (calls : Int) (l : Int) 2 (2 * (c : Int)) (q : Int) (32 * s * 2) s) := by
  have hb0 : Below w.heap.size w ((w.alloc (.cells #[.int .i64 5, .int .i64 s, .int .i64 (l : Int), .int .i64 b, .int .i64 (c : Int), .int .u64 m, .slice A n cp] 25)).alloc (.cells #[.int .u64 0, .int .u64 0, .int .u64 0, .int .u64 0, .int .u64 0, .int .u64 0, .int .u64 0, .int .u64 0, .int .u64 0, .int .u8 0] 34)) := ((Below.refl _ _).alloc (Nat.le_refl _) _).alloc (by simp) _
  have hB4 := Blk.new (w.alloc (.cells #[.int .i64 5, .int .i64 s, .int .i64 (l : Int), .int .i64 b, .int .i64 (c : Int), .int .u64 m, .slice A n cp] 25)) 34 #[.int .u64 0, .int .u64 0, .int .u64 0, .int .u64 0, .int .u64 0, .int .u64 0, .int .u64 0, .int .u64 0, .int .u64 0, .int .u8 0]
  simp only [World.size_alloc] at hB4
  have HB := hide (And.intro hb0 (And.intro (hb.below hb0) (And.intro (hT.below hb0) (And.intro hB4 ((Blk.new w 25 #[.int .i64 5, .int .i64 s, .int .i64 (l : Int), .int .i64 b, .int .i64 (c : Int), .int .u64 m, .slice A n cp]).alloc (.cells #[.int .u64 0, .int .u64 0, .int .u64 0, .int .u64 0, .int .u64 0, .int .u64 0, .int .u64 0, .int .u64 0, .int .u64 0, .int .u8 0] 34))))))
  clear hb0 hb hT hB4
  have hmth := meth66
  have hnm := nilm66
  have hbl2 : bl ≤ 5 := by rw [← hL]; exact Lib.bitLen_le m.toNat 5 (by omega) (by omega)
  have hce : (((l : Int) + bl + c - 1) / c) = (((l + bl + c - 1) / c : Nat) : Int) := by
    have h := calls_eq (l + bl) c hc
    rw [Int.natCast_add] at h
    exact h
  rw [hcalls] at hce
  have hdv : calls ≤ 1060 := by
    have := Nat.div_le_self (l + bl + c - 1) c
    omega
  have HL := hide hL
  have HCA := hide hce
  clear hL hce hcalls
  have hN : 1 ≤ q ∧ q ≤ 2048 := by
    have := np2_bound (1 + calls) (by omega) (by omega)
    omega
  have HQ := hide hq
  clear hq
  go_enter Tryz.func6, Tryz.ntmps6
  go_wp2_with fail
  refine (small10_0 5 l b c m s A n cp _ (by decide) (by decide)).mono ?_
  rintro e w' ⟨rfl, hbn⟩
  have HB := hide (And.intro (HB.out.1.trans (hbn.mono HB.out.1.size)) (And.intro (HB.out.2.1.below hbn) (And.intro (HB.out.2.2.1.below hbn) (And.intro (HB.out.2.2.2.1.below hbn HB.out.2.2.2.1.lt) (HB.out.2.2.2.2.below hbn HB.out.2.2.2.2.lt)))))
  clear hbn
  have x0 := HB.out.2.2.2.2.cell 0
  have x1 := HB.out.2.2.2.2.cell 1
  have x2 := HB.out.2.2.2.2.cell 2
  have x3 := HB.out.2.2.2.2.cell 3
  have x4 := HB.out.2.2.2.2.cell 4
  have x5 := HB.out.2.2.2.2.cell 5
  have x6 := HB.out.2.2.2.2.cell 6
  simp only [List.getElem?_toArray, List.getElem?_cons_zero, List.getElem?_cons_succ] at x0 x1 x2 x3 x4 x5 x6
  go_wp2_with fail
  refine (large11_5 l c bl b m s A n cp _ hl0 hl hm0 hm hc hc2 HL.out h0 h1 hn HB.out.2.1).mono ?_
  rintro e w1 ⟨g, fg, cs, fs, rfl, hg, hfg, hbl, hK, hP, hF, f, x, y, hfs⟩
  rw [HCA.out] at hfs
  subst hfs
  have HM := hide (And.intro (HB.out.2.2.1.below hbl) (And.intro hK (And.intro hP (And.intro hF (And.intro (HB.out.1.trans (hbl.mono HB.out.1.size)) (HB.out.2.2.2.1.below hbl HB.out.2.2.2.1.lt))))))
  clear hbl hK hP hF hg hfg
  go_wp2_with fail
  refine (params150 g fg cs _ ((l : Int) + (bl : Int)) (calls : Int) 2 (l : Int) (32 * s * 2) s c calls q _ HM.out.1 HM.out.2.1 HM.out.2.2.1 HM.out.2.2.2.1 rfl rfl rfl rfl rfl rfl hc2 (by omega) (by omega) (by omega) HQ.out).mono ?_
  rintro e w2 ⟨he2, hb2⟩
  have h34 := HM.out.2.2.2.2.2.below hb2 HM.out.2.2.2.2.2.lt
  have hbw := HM.out.2.2.2.2.1.trans (hb2.mono HM.out.2.2.2.2.1.size)
  obtain ⟨row, hrow⟩ : ∃ row : Array Value, row = #[.int .u64 (calls : Int), .int .u64 ((l : Int) + (bl : Int)), .int .u64 (l : Int), .int .u64 2, .int .u64 (1 + 2), .int .u64 (2 * (c : Int)), .int .u64 ((2 * (c : Int)) + (1 + 2 * ((q : Int) - 1))), .int .u64 (2 + (2 * (c : Int))), .int .u64 (32 * s * 2), .int .u8 s] := ⟨_, rfl⟩
  have hz : row.size = 10 := by rw [hrow]; rfl
  rw [← hrow] at he2
  subst he2
  have hst := run_put_row (P := Tryz.prog) h34 row (by rw [hz]; rfl) (by rw [hrow]; simp [Ones, Value.oneCell'])
  have hK2 := h34.setRow row
  have hbw2 := below_setRow hbw (g := w.heap.size + 1) (by omega) row
  generalize w2.setRow (w.heap.size + 1) row = W at hst hK2 hbw2
  have c0 := hK2.cell 0
  have c1 := hK2.cell 1
  have c2 := hK2.cell 2
  have c3 := hK2.cell 3
  have c4 := hK2.cell 4
  have c5 := hK2.cell 5
  have c6 := hK2.cell 6
  have c7 := hK2.cell 7
  have c8 := hK2.cell 8
  have c9 := hK2.cell 9
  rw [hrow] at c0 c1 c2 c3 c4 c5 c6 c7 c8 c9
  simp only [List.getElem?_toArray, List.getElem?_cons_zero, List.getElem?_cons_succ] at c0 c1 c2 c3 c4 c5 c6 c7 c8 c9
  replace hrow := hide hrow
  have HW := hide hbw2
  have HC := hide (And.intro c0 (And.intro c1 (And.intro c2 (And.intro c3 (And.intro c4 (And.intro c5 (And.intro c6 (And.intro c7 (And.intro c8 c9)))))))))
  clear h34 hbw hK2 hbw2 hb2 c0 c1 c2 c3 c4 c5 c6 c7 c8 c9
  go_wp2_with fail
  refine (get12 (w.heap.size + 1) _ _ HC.out.2.1).mono ?_
  rintro e w' ⟨rfl, rfl⟩
  go_wp2_with fail
  refine (get13 (w.heap.size + 1) _ _ HC.out.1).mono ?_
  rintro e w' ⟨rfl, rfl⟩
  go_wp2_with fail
  refine (get14 (w.heap.size + 1) _ _ HC.out.2.2.1).mono ?_
  rintro e w' ⟨rfl, rfl⟩
  go_wp2_with fail
  refine (get15 (w.heap.size + 1) _ _ HC.out.2.2.2.1).mono ?_
  rintro e w' ⟨rfl, rfl⟩
  go_wp2_with fail
  refine (get16 (w.heap.size + 1) _ _ HC.out.2.2.2.2.2.1).mono ?_
  rintro e w' ⟨rfl, rfl⟩
  go_wp2_with fail
  refine (get17 (w.heap.size + 1) _ _ HC.out.2.2.2.2.1).mono ?_
  rintro e w' ⟨rfl, rfl⟩
  go_wp2_with fail
  refine (get18 (w.heap.size + 1) _ _ HC.out.2.2.2.2.2.2.1).mono ?_
  rintro e w' ⟨rfl, rfl⟩
  go_wp2_with fail
  refine (get19 (w.heap.size + 1) _ _ HC.out.2.2.2.2.2.2.2.1).mono ?_
  rintro e w' ⟨rfl, rfl⟩
  go_wp2_with fail
  refine (get20 (w.heap.size + 1) _ _ HC.out.2.2.2.2.2.2.2.2.1).mono ?_
  rintro e w' ⟨rfl, rfl⟩
  go_wp2_with fail
  refine (get21 (w.heap.size + 1) _ _ HC.out.2.2.2.2.2.2.2.2.2).mono ?_
  rintro e w' ⟨rfl, rfl⟩
  go_wp2_with fail
  go_ret2
  exact ⟨W.heap.size, rfl, HW.out.size, HW.out.alloc HW.out.size _, Blk.new W 3 _⟩
/-- Nothing comes back, and false. -/
def NoList (w : World) (e : Ending) (w' : World) : Prop := e = .returned (.tuple #[.slice none 0 0, .bool false]) ∧ Below w.heap.size w w'
set_option maxRecDepth 100000 in
theorem sizes6_nil (k l b c m s : Int) (A : Option Addr) (n cp : Nat) (w : World) (H10 : ∀ W, Below w.heap.size w W → Calls Tryz.prog 10 #[.agg #[.int .i64 k, .int .i64 s, .int .i64 l, .int .i64 b, .int .i64 c, .int .u64 m, .slice A n cp]] W (Nil W)) (H11 : ∀ W, Below w.heap.size w W → Calls Tryz.prog 11 #[.agg #[.int .i64 k, .int .i64 s, .int .i64 l, .int .i64 b, .int .i64 c, .int .u64 m, .slice A n cp]] W (Nil W)) :
    Calls Tryz.prog 6 #[.agg #[.int .i64 k, .int .i64 s, .int .i64 l, .int .i64 b, .int .i64 c, .int .u64 m, .slice A n cp]] w (NoList w) := by
  have hb0 : Below w.heap.size w ((w.alloc (.cells #[.int .i64 k, .int .i64 s, .int .i64 l, .int .i64 b, .int .i64 c, .int .u64 m, .slice A n cp] 25)).alloc (.cells #[.int .u64 0, .int .u64 0, .int .u64 0, .int .u64 0, .int .u64 0, .int .u64 0, .int .u64 0, .int .u64 0, .int .u64 0, .int .u8 0] 34)) := ((Below.refl _ _).alloc (Nat.le_refl _) _).alloc (by simp) _
  have HB := hide (And.intro hb0 ((Blk.new w 25 #[.int .i64 k, .int .i64 s, .int .i64 l, .int .i64 b, .int .i64 c, .int .u64 m, .slice A n cp]).alloc (.cells #[.int .u64 0, .int .u64 0, .int .u64 0, .int .u64 0, .int .u64 0, .int .u64 0, .int .u64 0, .int .u64 0, .int .u64 0, .int .u8 0] 34)))
  have H10 := hide H10
  have H11 := hide H11
  clear hb0
  go_enter Tryz.func6, Tryz.ntmps6
  go_wp2_with fail
  refine (H10.out _ HB.out.1).mono ?_
  rintro e w1 ⟨rfl, hbl⟩
  have hb1 := HB.out.1.trans (hbl.mono HB.out.1.size)
  have hX := HB.out.2.below hbl HB.out.2.lt
  have x0 := hX.cell 0
  have x1 := hX.cell 1
  have x2 := hX.cell 2
  have x3 := hX.cell 3
  have x4 := hX.cell 4
  have x5 := hX.cell 5
  have x6 := hX.cell 6
  simp only [List.getElem?_toArray, List.getElem?_cons_zero, List.getElem?_cons_succ] at x0 x1 x2 x3 x4 x5 x6
  have HC := hide hb1
  clear hb1 hbl hX
  go_wp2_with fail
  refine (H11.out _ HC.out).mono ?_
  rintro e w2 ⟨rfl, hbl⟩
  have HD := hide (HC.out.trans (hbl.mono HC.out.size))
  clear hbl
  go_wp2_with fail
  go_ret2
  exact ⟨rfl, HD.out⟩
end Go.Proofs.YtkacahdogfchfaaGreatDoor
