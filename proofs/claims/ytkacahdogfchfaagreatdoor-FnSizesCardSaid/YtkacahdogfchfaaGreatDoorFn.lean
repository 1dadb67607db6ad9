/-
  laws.FnSizes, joined: true, given what impl.Sizes and spec.Sizes hand back. Conditions: its two premises on those.
-/
import Derived.Test.YtkacahdogfchfaaGreatDoorS
import Derived.Test.YtkacahdogfchfaaGreatDoorEq
namespace Go.Proofs.YtkacahdogfchfaaGreatDoor
open Go.RowKit
set_option maxRecDepth 100000 in
set_option maxHeartbeats 2000000 in
theorem fn3 (k s l b c m : Int) (A : Option Addr) (n cp : Nat) (w : World)
    (H6n : Small s l b c n → ¬ KindOk k s l b c m → ∀ W, Below w.heap.size w W → Calls Tryz.prog 6 #[.agg #[.int .i64 k, .int .i64 s, .int .i64 l, .int .i64 b, .int .i64 c, .int .u64 m, .slice A n cp]] W (NoList W))
    (H6y : Small s l b c n → KindOk k s l b c m → ∃ v0 v1 v2 v3 v4 v5 v6 v7 v8 v9 : Int, ∀ W, Below w.heap.size w W → Calls Tryz.prog 6 #[.agg #[.int .i64 k, .int .i64 s, .int .i64 l, .int .i64 b, .int .i64 c, .int .u64 m, .slice A n cp]] W (fun e w' => Listed W w' e #[.int .i64 v0, .int .i64 v1, .int .i64 v2, .int .i64 v3, .int .i64 v4, .int .i64 v5, .int .i64 v6, .int .i64 v7, .int .i64 v8, .int .i64 v9]) ∧
      Calls Tryz.prog 9 #[.agg #[.int .i64 k, .int .i64 s, .int .i64 l, .int .i64 b, .int .i64 c, .int .u64 m, .slice A n cp]] W (fun e w' => ∃ g : Nat, e = .returned (.slice (some ⟨g, 0, none⟩) 10 10) ∧ W.heap.size ≤ g ∧ Below W.heap.size W w' ∧ Blk w' g 3 #[.int .i64 v0, .int .i64 v1, .int .i64 v2, .int .i64 v3, .int .i64 v4, .int .i64 v5, .int .i64 v6, .int .i64 v7, .int .i64 v8, .int .i64 v9])) :
    Calls Tryz.prog 3 #[.agg #[.int .i64 k, .int .i64 s, .int .i64 l, .int .i64 b, .int .i64 c, .int .u64 m, .slice A n cp]] w fun e w' => e = .returned (.bool true) ∧ Below w.heap.size w w' := by
  have HB := hide (And.intro ((Below.refl w.heap.size w).alloc (Nat.le_refl _) (.cells #[.int .i64 k, .int .i64 s, .int .i64 l, .int .i64 b, .int .i64 c, .int .u64 m, .slice A n cp] 25)) (Blk.new w 25 #[.int .i64 k, .int .i64 s, .int .i64 l, .int .i64 b, .int .i64 c, .int .u64 m, .slice A n cp]))
  have Hn := hide H6n
  have Hy := hide H6y
  clear H6n H6y
  go_enter Tryz.func3, Tryz.ntmps3
  go_wp2_with fail
  refine (fits4 k s l b c m A n cp _).mono ?_
  rintro e w1 ⟨⟨v, rfl⟩, hbl⟩
  have HB1 := hide (And.intro (HB.out.1.trans (hbl.mono HB.out.1.size)) (HB.out.2.below hbl HB.out.2.lt))
  clear hbl
  have xq := HB1.out.2
  have x0 := xq.cell 0
  have x1 := xq.cell 1
  have x2 := xq.cell 2
  have x3 := xq.cell 3
  have x4 := xq.cell 4
  have x5 := xq.cell 5
  have x6 := xq.cell 6
  simp only [List.getElem?_toArray, List.getElem?_cons_zero, List.getElem?_cons_succ] at x0 x1 x2 x3 x4 x5 x6
  clear xq
  cases v
  · go_wp2_with fail
    go_ret
    exact ⟨rfl, HB1.out.1⟩
  go_wp2_with fail
  refine (small5 k s l b c m A n cp _).mono ?_
  rintro e w2 ⟨⟨v, rfl, hS⟩, hbl⟩
  have HB2 := hide (And.intro (HB1.out.1.trans (hbl.mono HB1.out.1.size)) (HB1.out.2.below hbl HB1.out.2.lt))
  clear hbl
  clear x0 x1 x2 x3 x4 x5 x6
  have xq := HB2.out.2
  have x0 := xq.cell 0
  have x1 := xq.cell 1
  have x2 := xq.cell 2
  have x3 := xq.cell 3
  have x4 := xq.cell 4
  have x5 := xq.cell 5
  have x6 := xq.cell 6
  simp only [List.getElem?_toArray, List.getElem?_cons_zero, List.getElem?_cons_succ] at x0 x1 x2 x3 x4 x5 x6
  clear xq
  cases v
  · clear hS
    go_wp2_with fail
    go_ret
    exact ⟨rfl, HB2.out.1⟩
  have HS := hide (hS rfl)
  clear hS
  go_wp2_with fail
  by_cases hk : KindOk k s l b c m
  · obtain ⟨v0, v1, v2, v3, v4, v5, v6, v7, v8, v9, hv⟩ := Hy.out HS.out hk
    have HV := hide hv
    have HK := hide hk
    clear hv hk
    refine (HV.out _ HB2.out.1).1.mono ?_
    rintro e w3 ⟨g, rfl, hg, hbl, hK⟩
    have HB3 := hide (And.intro (HB2.out.1.trans (hbl.mono HB2.out.1.size)) (HB2.out.2.below hbl HB2.out.2.lt))
    clear hbl
    have HG := hide hK
    clear hg hK x0 x1 x2 x3 x4 x5 x6
    have xq := HB3.out.2
    have x0 := xq.cell 0
    have x1 := xq.cell 1
    have x2 := xq.cell 2
    have x3 := xq.cell 3
    have x4 := xq.cell 4
    have x5 := xq.cell 5
    have x6 := xq.cell 6
    simp only [List.getElem?_toArray, List.getElem?_cons_zero, List.getElem?_cons_succ] at x0 x1 x2 x3 x4 x5 x6
    clear xq
    go_wp2_with fail
    refine (kind7 k s l b c m A n cp _ HS.out).mono ?_
    rintro e w4 ⟨⟨v, rfl, hv⟩, hbl⟩
    have hvt : v = true := hv.2 HK.out
    subst hvt
    clear hv
    have HG2 := hide (HG.out.below hbl HG.out.lt)
    have HB4 := hide (And.intro (HB3.out.1.trans (hbl.mono HB3.out.1.size)) (HB3.out.2.below hbl HB3.out.2.lt))
    clear hbl
    clear x0 x1 x2 x3 x4 x5 x6
    have xq := HB4.out.2
    have x0 := xq.cell 0
    have x1 := xq.cell 1
    have x2 := xq.cell 2
    have x3 := xq.cell 3
    have x4 := xq.cell 4
    have x5 := xq.cell 5
    have x6 := xq.cell 6
    simp only [List.getElem?_toArray, List.getElem?_cons_zero, List.getElem?_cons_succ] at x0 x1 x2 x3 x4 x5 x6
    clear xq
    go_wp2_with fail
    refine ((HV.out _ HB4.out.1).2).mono ?_
    rintro e w5 ⟨g2, rfl, hg2, hbl, hK2⟩
    have HG3 := hide (And.intro (HG2.out.below hbl HG2.out.lt) hK2)
    have HB5 := hide (HB4.out.1.trans (hbl.mono HB4.out.1.size))
    clear hbl hK2 hg2
    go_wp2_with fail
    refine (equal8 g g2 v0 v1 v2 v3 v4 v5 v6 v7 v8 v9 _ HG3.out.1 HG3.out.2).mono ?_
    rintro e w6 ⟨rfl, hbl⟩
    have HB6 := hide (HB5.out.trans (hbl.mono HB5.out.size))
    clear hbl
    go_wp2_with fail
    go_ret
    exact ⟨rfl, HB6.out⟩
  · have HK := hide hk
    clear hk
    refine (Hn.out HS.out HK.out _ HB2.out.1).mono ?_
    rintro e w3 ⟨rfl, hbl⟩
    have HB3 := hide (And.intro (HB2.out.1.trans (hbl.mono HB2.out.1.size)) (HB2.out.2.below hbl HB2.out.2.lt))
    clear hbl
    clear x0 x1 x2 x3 x4 x5 x6
    have xq := HB3.out.2
    have x0 := xq.cell 0
    have x1 := xq.cell 1
    have x2 := xq.cell 2
    have x3 := xq.cell 3
    have x4 := xq.cell 4
    have x5 := xq.cell 5
    have x6 := xq.cell 6
    simp only [List.getElem?_toArray, List.getElem?_cons_zero, List.getElem?_cons_succ] at x0 x1 x2 x3 x4 x5 x6
    clear xq
    go_wp2_with fail
    refine (kind7 k s l b c m A n cp _ HS.out).mono ?_
    rintro e w4 ⟨⟨v, rfl, hv⟩, hbl⟩
    have hvf : v = false := by
      cases v
      · rfl
      · exact absurd (hv.1 rfl) HK.out
    subst hvf
    have HB4 := hide (HB3.out.1.trans (hbl.mono HB3.out.1.size))
    clear hv hbl
    go_wp2_with fail
    go_ret
    exact ⟨rfl, HB4.out⟩
end Go.Proofs.YtkacahdogfchfaaGreatDoor
