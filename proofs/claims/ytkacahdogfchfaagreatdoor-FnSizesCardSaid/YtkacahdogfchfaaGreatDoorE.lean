/-
  impl.small and impl.large: which vote they hand back, and when nil. Conditions: a small input; the error variables hold errors.
-/
import Derived.Test.YtkacahdogfchfaaGreatDoorC
import Derived.Test.YtkacahdogfchfaaGreatDoorT
namespace Go.Proofs.YtkacahdogfchfaaGreatDoor
open Go.RowKit
/-- A vote in an interface: its two blocks. -/
def Made (w w' : World) (e : Ending) (it t b : TypeId) (rand s : Int) (FS : Array Value → Prop) : Prop :=
  ∃ (g fg : Nat) (cs fs : Array Value), e = .returned (.iface it (.pointer (some ⟨g, 0, none⟩))) ∧ w.heap.size ≤ g ∧ w.heap.size ≤ fg ∧ Below w.heap.size w w' ∧ Blk w' g t cs ∧ P3 cs fg rand s ∧ Blk w' fg b fs ∧ FS fs
/-- Nil comes back. -/
def Nil (w : World) (e : Ending) (w' : World) : Prop := e = .returned .nilIface ∧ Below w.heap.size w w'
set_option maxRecDepth 100000 in
set_option maxHeartbeats 1000000 in
theorem small10_1 (l b c m : Int) (s : Int) (A : Option Addr) (n cp : Nat) (w : World) (h0 : 2 ≤ s) (h1 : s ≤ 255) (hn : n ≤ 4096) (hb : Bytes w A n) : Calls Tryz.prog 10 #[.agg #[.int .i64 1, .int .i64 s, .int .i64 l, .int .i64 b, .int .i64 c, .int .u64 m, .slice A n cp]] w
    fun e w' => Made w w' e 52 87 154 (32 * s) s (fun fs => ∃ (f : Value), fs = #[f, .int .u64 1, .int .u64 1, .int .u64 0, .int .u64 1, .int .u64 1]) := by
  have hb0 : Below w.heap.size w (w.alloc (.cells #[.int .i64 1, .int .i64 s, .int .i64 l, .int .i64 b, .int .i64 c, .int .u64 m, .slice A n cp] 25)) := (Below.refl _ _).alloc (Nat.le_refl _) _
  have HB := hide (And.intro hb0 (hb.below hb0))
  clear hb0 hb
  go_enter Tryz.func10, Tryz.ntmps10
  go_wp2_with fail
  refine (make24 s A n cp _ h0 h1 hn HB.out.2).mono ?_
  rintro e w1 ⟨g, fg, cs, fs, rfl, hg, hfg, hbl, hK, hP, hF, hFS⟩
  have HS := hide (And.intro (HB.out.1.trans (hbl.mono HB.out.1.size)) (And.intro hK (And.intro hP (And.intro hF hFS))))
  have h3 := hide (And.intro (Nat.le_trans HB.out.1.size hg) (Nat.le_trans HB.out.1.size hfg))
  clear hbl hK hP hF hFS hg hfg
  go_wp2_with fail
  go_ret
  exact ⟨g, fg, cs, fs, rfl, h3.out.1, h3.out.2, HS.out.1, HS.out.2.1, HS.out.2.2.1, HS.out.2.2.2.1, HS.out.2.2.2.2⟩
set_option maxRecDepth 100000 in
set_option maxHeartbeats 1000000 in
theorem small10_1few (l b c m : Int) (s : Int) (A : Option Addr) (n cp : Nat) (w : World) (hs : s < 2) (s0 : 0 ≤ s) (hE : ErrAt w 2) : Calls Tryz.prog 10 #[.agg #[.int .i64 1, .int .i64 s, .int .i64 l, .int .i64 b, .int .i64 c, .int .u64 m, .slice A n cp]] w (Nil w) := by
  have hb0 : Below w.heap.size w (w.alloc (.cells #[.int .i64 1, .int .i64 s, .int .i64 l, .int .i64 b, .int .i64 c, .int .u64 m, .slice A n cp] 25)) := (Below.refl _ _).alloc (Nat.le_refl _) _
  have HB := hide (And.intro hb0 (hE.below hb0))
  clear hb0 hE
  go_enter Tryz.func10, Tryz.ntmps10
  go_wp2_with fail
  refine (make24few s A n cp _ hs HB.out.2).mono ?_
  rintro e w1 ⟨⟨t, v, rfl⟩, hbl⟩
  have HS := hide (HB.out.1.trans (hbl.mono HB.out.1.size))
  clear hbl
  go_wp2_with fail
  go_ret
  exact ⟨rfl, HS.out⟩
set_option maxRecDepth 100000 in
set_option maxHeartbeats 1000000 in
theorem small10_2 (l b c m : Int) (bl : Nat) (s : Int) (A : Option Addr) (n cp : Nat) (w : World) (hm0 : 0 ≤ m) (hm : m < 9223372036854775808) (hL : Lib.bitLen m.toNat = bl) (h0 : 2 ≤ s) (h1 : s ≤ 255) (hn : n ≤ 4096) (hb : Bytes w A n) : Calls Tryz.prog 10 #[.agg #[.int .i64 2, .int .i64 s, .int .i64 l, .int .i64 b, .int .i64 c, .int .u64 m, .slice A n cp]] w
    fun e w' => Made w w' e 57 103 161 (32 * s) s (fun fs => ∃ (f : Value) (x : Value), fs = #[f, .int .u64 (2 * (bl : Int)), .int .u64 (2 * (bl : Int)), .int .u64 0, .int .u64 (2 * (bl : Int) + 1), .int .u64 1, .int .u64 bl, .int .u64 m, x]) := by
  have hb0 : Below w.heap.size w (w.alloc (.cells #[.int .i64 2, .int .i64 s, .int .i64 l, .int .i64 b, .int .i64 c, .int .u64 m, .slice A n cp] 25)) := (Below.refl _ _).alloc (Nat.le_refl _) _
  have HB := hide (And.intro hb0 (hb.below hb0))
  clear hb0 hb
  have HL := hide hL
  clear hL
  go_enter Tryz.func10, Tryz.ntmps10
  go_wp2_with fail
  refine (make25 m bl s A n cp _ hm0 hm HL.out h0 h1 hn HB.out.2).mono ?_
  rintro e w1 ⟨g, fg, cs, fs, rfl, hg, hfg, hbl, hK, hP, hF, hFS⟩
  have HS := hide (And.intro (HB.out.1.trans (hbl.mono HB.out.1.size)) (And.intro hK (And.intro hP (And.intro hF hFS))))
  have h3 := hide (And.intro (Nat.le_trans HB.out.1.size hg) (Nat.le_trans HB.out.1.size hfg))
  clear hbl hK hP hF hFS hg hfg
  go_wp2_with fail
  go_ret
  exact ⟨g, fg, cs, fs, rfl, h3.out.1, h3.out.2, HS.out.1, HS.out.2.1, HS.out.2.2.1, HS.out.2.2.2.1, HS.out.2.2.2.2⟩
set_option maxRecDepth 100000 in
set_option maxHeartbeats 1000000 in
theorem small10_2few (l b c m : Int) (bl : Nat) (s : Int) (A : Option Addr) (n cp : Nat) (w : World) (hm0 : 0 ≤ m) (hm : m < 9223372036854775808) (hL : Lib.bitLen m.toNat = bl) (hs : s < 2) (s0 : 0 ≤ s) (hE : ErrAt w 2) : Calls Tryz.prog 10 #[.agg #[.int .i64 2, .int .i64 s, .int .i64 l, .int .i64 b, .int .i64 c, .int .u64 m, .slice A n cp]] w (Nil w) := by
  have hb0 : Below w.heap.size w (w.alloc (.cells #[.int .i64 2, .int .i64 s, .int .i64 l, .int .i64 b, .int .i64 c, .int .u64 m, .slice A n cp] 25)) := (Below.refl _ _).alloc (Nat.le_refl _) _
  have HB := hide (And.intro hb0 (hE.below hb0))
  clear hb0 hE
  have HL := hide hL
  clear hL
  go_enter Tryz.func10, Tryz.ntmps10
  go_wp2_with fail
  refine (make25few m bl s A n cp _ hm0 hm HL.out hs HB.out.2).mono ?_
  rintro e w1 ⟨⟨t, v, rfl⟩, hbl⟩
  have HS := hide (HB.out.1.trans (hbl.mono HB.out.1.size))
  clear hbl
  go_wp2_with fail
  go_ret
  exact ⟨rfl, HS.out⟩
set_option maxRecDepth 100000 in
set_option maxHeartbeats 1000000 in
theorem small10_2big (l b c m : Int) (s : Int) (A : Option Addr) (n cp : Nat) (w : World) (hm : 9223372036854775808 ≤ m) (s0 : 0 ≤ s) (h1 : s ≤ 255) (hE : ErrAt w 3) : Calls Tryz.prog 10 #[.agg #[.int .i64 2, .int .i64 s, .int .i64 l, .int .i64 b, .int .i64 c, .int .u64 m, .slice A n cp]] w (Nil w) := by
  have hb0 : Below w.heap.size w (w.alloc (.cells #[.int .i64 2, .int .i64 s, .int .i64 l, .int .i64 b, .int .i64 c, .int .u64 m, .slice A n cp] 25)) := (Below.refl _ _).alloc (Nat.le_refl _) _
  have HB := hide (And.intro hb0 (hE.below hb0))
  clear hb0 hE
  go_enter Tryz.func10, Tryz.ntmps10
  go_wp2_with fail
  refine (make25big m s A n cp _ hm HB.out.2).mono ?_
  rintro e w1 ⟨⟨t, v, rfl⟩, hbl⟩
  have HS := hide (HB.out.1.trans (hbl.mono HB.out.1.size))
  clear hbl
  go_wp2_with fail
  go_ret
  exact ⟨rfl, HS.out⟩
set_option maxRecDepth 100000 in
set_option maxHeartbeats 1000000 in
theorem large11_3 (l b c : Nat) (m : Int) (s : Int) (A : Option Addr) (n cp : Nat) (w : World) (hl0 : 1 ≤ l) (hl : l ≤ 16) (hb1 : 1 ≤ b) (hb2 : b ≤ 64) (hc : 1 ≤ c) (hc2 : c ≤ 16) (h0 : 2 ≤ s) (h1 : s ≤ 255) (hn : n ≤ 4096) (hb : Bytes w A n) : Calls Tryz.prog 11 #[.agg #[.int .i64 3, .int .i64 s, .int .i64 (l : Int), .int .i64 (b : Int), .int .i64 (c : Int), .int .u64 m, .slice A n cp]] w
    fun e w' => Made w w' e 60 113 172 (32 * s * 2) s (fun fs => ∃ (f : Value), fs = #[f, .int .u64 c, .int .u64 ((l * b + c - 1) / c : Nat), .int .u64 (l * b : Nat), .int .u64 ((l * b + c - 1) / c : Nat), .int .u64 1, .int .u64 l, .int .u64 l, .int .u64 b, .int .u64 c]) := by
  have hb0 : Below w.heap.size w (w.alloc (.cells #[.int .i64 3, .int .i64 s, .int .i64 (l : Int), .int .i64 (b : Int), .int .i64 (c : Int), .int .u64 m, .slice A n cp] 25)) := (Below.refl _ _).alloc (Nat.le_refl _) _
  have HB := hide (And.intro hb0 (hb.below hb0))
  clear hb0 hb
  go_enter Tryz.func11, Tryz.ntmps11
  go_wp2_with fail
  refine (make26 l b c s A n cp _ hl0 hl hb1 hb2 hc hc2 h0 h1 hn HB.out.2).mono ?_
  rintro e w1 ⟨g, fg, cs, fs, rfl, hg, hfg, hbl, hK, hP, hF, hFS⟩
  have HS := hide (And.intro (HB.out.1.trans (hbl.mono HB.out.1.size)) (And.intro hK (And.intro hP (And.intro hF hFS))))
  have h3 := hide (And.intro (Nat.le_trans HB.out.1.size hg) (Nat.le_trans HB.out.1.size hfg))
  clear hbl hK hP hF hFS hg hfg
  go_wp2_with fail
  go_ret
  exact ⟨g, fg, cs, fs, rfl, h3.out.1, h3.out.2, HS.out.1, HS.out.2.1, HS.out.2.2.1, HS.out.2.2.2.1, HS.out.2.2.2.2⟩
set_option maxRecDepth 100000 in
set_option maxHeartbeats 1000000 in
theorem large11_3few (l b c : Nat) (m : Int) (s : Int) (A : Option Addr) (n cp : Nat) (w : World) (hl0 : 1 ≤ l) (hl : l ≤ 16) (hb1 : 1 ≤ b) (hb2 : b ≤ 64) (hc : 1 ≤ c) (hc2 : c ≤ 16) (hs : s < 2) (s0 : 0 ≤ s) (hE : ErrAt w 2) : Calls Tryz.prog 11 #[.agg #[.int .i64 3, .int .i64 s, .int .i64 (l : Int), .int .i64 (b : Int), .int .i64 (c : Int), .int .u64 m, .slice A n cp]] w (Nil w) := by
  have hb0 : Below w.heap.size w (w.alloc (.cells #[.int .i64 3, .int .i64 s, .int .i64 (l : Int), .int .i64 (b : Int), .int .i64 (c : Int), .int .u64 m, .slice A n cp] 25)) := (Below.refl _ _).alloc (Nat.le_refl _) _
  have HB := hide (And.intro hb0 (hE.below hb0))
  clear hb0 hE
  go_enter Tryz.func11, Tryz.ntmps11
  go_wp2_with fail
  refine (make26few l b c s A n cp _ hl0 hl hb1 hb2 hc hc2 hs HB.out.2).mono ?_
  rintro e w1 ⟨⟨t, v, rfl⟩, hbl⟩
  have HS := hide (HB.out.1.trans (hbl.mono HB.out.1.size))
  clear hbl
  go_wp2_with fail
  go_ret
  exact ⟨rfl, HS.out⟩
set_option maxRecDepth 100000 in
set_option maxHeartbeats 1000000 in
theorem large11_3len (b c : Nat) (m : Int) (s : Int) (A : Option Addr) (n cp : Nat) (w : World) (hb2 : b ≤ 80) (hc2 : c ≤ 16) (s0 : 0 ≤ s) (h1 : s ≤ 255) (hE : ErrAt w 4) : Calls Tryz.prog 11 #[.agg #[.int .i64 3, .int .i64 s, .int .i64 0, .int .i64 (b : Int), .int .i64 (c : Int), .int .u64 m, .slice A n cp]] w (Nil w) := by
  have hb0 : Below w.heap.size w (w.alloc (.cells #[.int .i64 3, .int .i64 s, .int .i64 0, .int .i64 (b : Int), .int .i64 (c : Int), .int .u64 m, .slice A n cp] 25)) := (Below.refl _ _).alloc (Nat.le_refl _) _
  have HB := hide (And.intro hb0 (hE.below hb0))
  clear hb0 hE
  go_enter Tryz.func11, Tryz.ntmps11
  go_wp2_with fail
  refine (make26len b c s A n cp _ HB.out.2).mono ?_
  rintro e w1 ⟨⟨t, v, rfl⟩, hbl⟩
  have HS := hide (HB.out.1.trans (hbl.mono HB.out.1.size))
  clear hbl
  go_wp2_with fail
  go_ret
  exact ⟨rfl, HS.out⟩
set_option maxRecDepth 100000 in
set_option maxHeartbeats 1000000 in
theorem large11_3bits (l b c : Nat) (m : Int) (s : Int) (A : Option Addr) (n cp : Nat) (w : World) (hl0 : 1 ≤ l) (hl : l ≤ 16) (hbb : b = 0 ∨ 64 < b) (hb2 : b ≤ 80) (hc2 : c ≤ 16) (s0 : 0 ≤ s) (h1 : s ≤ 255) (hE : ErrAt w 5) : Calls Tryz.prog 11 #[.agg #[.int .i64 3, .int .i64 s, .int .i64 (l : Int), .int .i64 (b : Int), .int .i64 (c : Int), .int .u64 m, .slice A n cp]] w (Nil w) := by
  have hb0 : Below w.heap.size w (w.alloc (.cells #[.int .i64 3, .int .i64 s, .int .i64 (l : Int), .int .i64 (b : Int), .int .i64 (c : Int), .int .u64 m, .slice A n cp] 25)) := (Below.refl _ _).alloc (Nat.le_refl _) _
  have HB := hide (And.intro hb0 (hE.below hb0))
  clear hb0 hE
  have HBB := hide hbb
  clear hbb
  go_enter Tryz.func11, Tryz.ntmps11
  go_wp2_with fail
  refine (make26bits l b c s A n cp _ hl0 hl HBB.out HB.out.2).mono ?_
  rintro e w1 ⟨⟨t, v, rfl⟩, hbl⟩
  have HS := hide (HB.out.1.trans (hbl.mono HB.out.1.size))
  clear hbl
  go_wp2_with fail
  go_ret
  exact ⟨rfl, HS.out⟩
set_option maxRecDepth 100000 in
set_option maxHeartbeats 1000000 in
theorem large11_3ch (l b : Nat) (m : Int) (s : Int) (A : Option Addr) (n cp : Nat) (w : World) (hl0 : 1 ≤ l) (hl : l ≤ 16) (hb1 : 1 ≤ b) (hb2 : b ≤ 64) (s0 : 0 ≤ s) (h1 : s ≤ 255) (hE : ErrAt w 6) : Calls Tryz.prog 11 #[.agg #[.int .i64 3, .int .i64 s, .int .i64 (l : Int), .int .i64 (b : Int), .int .i64 0, .int .u64 m, .slice A n cp]] w (Nil w) := by
  have hb0 : Below w.heap.size w (w.alloc (.cells #[.int .i64 3, .int .i64 s, .int .i64 (l : Int), .int .i64 (b : Int), .int .i64 0, .int .u64 m, .slice A n cp] 25)) := (Below.refl _ _).alloc (Nat.le_refl _) _
  have HB := hide (And.intro hb0 (hE.below hb0))
  clear hb0 hE
  go_enter Tryz.func11, Tryz.ntmps11
  go_wp2_with fail
  refine (make26ch l b s A n cp _ hl0 hl hb1 hb2 HB.out.2).mono ?_
  rintro e w1 ⟨⟨t, v, rfl⟩, hbl⟩
  have HS := hide (HB.out.1.trans (hbl.mono HB.out.1.size))
  clear hbl
  go_wp2_with fail
  go_ret
  exact ⟨rfl, HS.out⟩
set_option maxRecDepth 100000 in
set_option maxHeartbeats 1000000 in
theorem large11_4 (l c : Nat) (b m : Int) (s : Int) (A : Option Addr) (n cp : Nat) (w : World) (hl0 : 1 ≤ l) (hl : l ≤ 16) (hc : 1 ≤ c) (hc2 : c ≤ 16) (h0 : 2 ≤ s) (h1 : s ≤ 255) (hn : n ≤ 4096) (hb : Bytes w A n) : Calls Tryz.prog 11 #[.agg #[.int .i64 4, .int .i64 s, .int .i64 (l : Int), .int .i64 b, .int .i64 (c : Int), .int .u64 m, .slice A n cp]] w
    fun e w' => Made w w' e 63 125 176 (32 * s * 2) s (fun fs => ∃ (f : Value), fs = #[f, .int .u64 c, .int .u64 ((l + c - 1) / c : Nat), .int .u64 l, .int .u64 ((l + c - 1) / c : Nat), .int .u64 2, .int .u64 l, .int .u64 l, .int .u64 c]) := by
  have hb0 : Below w.heap.size w (w.alloc (.cells #[.int .i64 4, .int .i64 s, .int .i64 (l : Int), .int .i64 b, .int .i64 (c : Int), .int .u64 m, .slice A n cp] 25)) := (Below.refl _ _).alloc (Nat.le_refl _) _
  have HB := hide (And.intro hb0 (hb.below hb0))
  clear hb0 hb
  go_enter Tryz.func11, Tryz.ntmps11
  go_wp2_with fail
  refine (make27 l c s A n cp _ hl0 hl hc hc2 h0 h1 hn HB.out.2).mono ?_
  rintro e w1 ⟨g, fg, cs, fs, rfl, hg, hfg, hbl, hK, hP, hF, hFS⟩
  have HS := hide (And.intro (HB.out.1.trans (hbl.mono HB.out.1.size)) (And.intro hK (And.intro hP (And.intro hF hFS))))
  have h3 := hide (And.intro (Nat.le_trans HB.out.1.size hg) (Nat.le_trans HB.out.1.size hfg))
  clear hbl hK hP hF hFS hg hfg
  go_wp2_with fail
  go_ret
  exact ⟨g, fg, cs, fs, rfl, h3.out.1, h3.out.2, HS.out.1, HS.out.2.1, HS.out.2.2.1, HS.out.2.2.2.1, HS.out.2.2.2.2⟩
set_option maxRecDepth 100000 in
set_option maxHeartbeats 1000000 in
theorem large11_4few (l c : Nat) (b m : Int) (s : Int) (A : Option Addr) (n cp : Nat) (w : World) (hl0 : 1 ≤ l) (hl : l ≤ 16) (hc : 1 ≤ c) (hc2 : c ≤ 16) (hs : s < 2) (s0 : 0 ≤ s) (hE : ErrAt w 2) : Calls Tryz.prog 11 #[.agg #[.int .i64 4, .int .i64 s, .int .i64 (l : Int), .int .i64 b, .int .i64 (c : Int), .int .u64 m, .slice A n cp]] w (Nil w) := by
  have hb0 : Below w.heap.size w (w.alloc (.cells #[.int .i64 4, .int .i64 s, .int .i64 (l : Int), .int .i64 b, .int .i64 (c : Int), .int .u64 m, .slice A n cp] 25)) := (Below.refl _ _).alloc (Nat.le_refl _) _
  have HB := hide (And.intro hb0 (hE.below hb0))
  clear hb0 hE
  go_enter Tryz.func11, Tryz.ntmps11
  go_wp2_with fail
  refine (make27few l c s A n cp _ hl0 hl hc hc2 hs HB.out.2).mono ?_
  rintro e w1 ⟨⟨t, v, rfl⟩, hbl⟩
  have HS := hide (HB.out.1.trans (hbl.mono HB.out.1.size))
  clear hbl
  go_wp2_with fail
  go_ret
  exact ⟨rfl, HS.out⟩
set_option maxRecDepth 100000 in
set_option maxHeartbeats 1000000 in
theorem large11_4len (c : Nat) (b m : Int) (s : Int) (A : Option Addr) (n cp : Nat) (w : World) (hc2 : c ≤ 16) (s0 : 0 ≤ s) (h1 : s ≤ 255) (hE : ErrAt w 0) : Calls Tryz.prog 11 #[.agg #[.int .i64 4, .int .i64 s, .int .i64 0, .int .i64 b, .int .i64 (c : Int), .int .u64 m, .slice A n cp]] w (Nil w) := by
  have hb0 : Below w.heap.size w (w.alloc (.cells #[.int .i64 4, .int .i64 s, .int .i64 0, .int .i64 b, .int .i64 (c : Int), .int .u64 m, .slice A n cp] 25)) := (Below.refl _ _).alloc (Nat.le_refl _) _
  have HB := hide (And.intro hb0 (hE.below hb0))
  clear hb0 hE
  go_enter Tryz.func11, Tryz.ntmps11
  go_wp2_with fail
  refine (make27len c s A n cp _ HB.out.2).mono ?_
  rintro e w1 ⟨⟨t, v, rfl⟩, hbl⟩
  have HS := hide (HB.out.1.trans (hbl.mono HB.out.1.size))
  clear hbl
  go_wp2_with fail
  go_ret
  exact ⟨rfl, HS.out⟩
set_option maxRecDepth 100000 in
set_option maxHeartbeats 1000000 in
theorem large11_4ch (l : Nat) (b m : Int) (s : Int) (A : Option Addr) (n cp : Nat) (w : World) (hl0 : 1 ≤ l) (hl : l ≤ 16) (s0 : 0 ≤ s) (h1 : s ≤ 255) (hE : ErrAt w 1) : Calls Tryz.prog 11 #[.agg #[.int .i64 4, .int .i64 s, .int .i64 (l : Int), .int .i64 b, .int .i64 0, .int .u64 m, .slice A n cp]] w (Nil w) := by
  have hb0 : Below w.heap.size w (w.alloc (.cells #[.int .i64 4, .int .i64 s, .int .i64 (l : Int), .int .i64 b, .int .i64 0, .int .u64 m, .slice A n cp] 25)) := (Below.refl _ _).alloc (Nat.le_refl _) _
  have HB := hide (And.intro hb0 (hE.below hb0))
  clear hb0 hE
  go_enter Tryz.func11, Tryz.ntmps11
  go_wp2_with fail
  refine (make27ch l s A n cp _ hl0 HB.out.2).mono ?_
  rintro e w1 ⟨⟨t, v, rfl⟩, hbl⟩
  have HS := hide (HB.out.1.trans (hbl.mono HB.out.1.size))
  clear hbl
  go_wp2_with fail
  go_ret
  exact ⟨rfl, HS.out⟩
set_option maxRecDepth 100000 in
set_option maxHeartbeats 1000000 in
theorem large11_5 (l c bl : Nat) (b m : Int) (s : Int) (A : Option Addr) (n cp : Nat) (w : World) (hl0 : 1 ≤ l) (hl : l ≤ 16) (hm0 : 0 ≤ m) (hm : m ≤ (l : Int)) (hc : 1 ≤ c) (hc2 : c ≤ 16) (hL : Lib.bitLen m.toNat = bl) (h0 : 2 ≤ s) (h1 : s ≤ 255) (hn : n ≤ 4096) (hb : Bytes w A n) : Calls Tryz.prog 11 #[.agg #[.int .i64 5, .int .i64 s, .int .i64 (l : Int), .int .i64 b, .int .i64 (c : Int), .int .u64 m, .slice A n cp]] w
    fun e w' => Made w w' e 66 135 180 (32 * s * 2) s (fun fs => ∃ (f : Value) (x : Value) (y : Value), fs = #[f, .int .u64 c, .int .u64 (((l : Int) + bl + c - 1) / c), .int .u64 ((l : Int) + bl), .int .u64 (((l : Int) + bl + c - 1) / c), .int .u64 2, .int .u64 l, .int .u64 bl, .int .u64 c, .int .u64 l, x, y]) := by
  have hb0 : Below w.heap.size w (w.alloc (.cells #[.int .i64 5, .int .i64 s, .int .i64 (l : Int), .int .i64 b, .int .i64 (c : Int), .int .u64 m, .slice A n cp] 25)) := (Below.refl _ _).alloc (Nat.le_refl _) _
  have HB := hide (And.intro hb0 (hb.below hb0))
  clear hb0 hb
  have HL := hide hL
  clear hL
  go_enter Tryz.func11, Tryz.ntmps11
  go_wp2_with fail
  refine (make28 l c m bl s A n cp _ hl0 hl hm0 hm hc hc2 HL.out h0 h1 hn HB.out.2).mono ?_
  rintro e w1 ⟨g, fg, cs, fs, rfl, hg, hfg, hbl, hK, hP, hF, hFS⟩
  have HS := hide (And.intro (HB.out.1.trans (hbl.mono HB.out.1.size)) (And.intro hK (And.intro hP (And.intro hF hFS))))
  have h3 := hide (And.intro (Nat.le_trans HB.out.1.size hg) (Nat.le_trans HB.out.1.size hfg))
  clear hbl hK hP hF hFS hg hfg
  go_wp2_with fail
  go_ret
  exact ⟨g, fg, cs, fs, rfl, h3.out.1, h3.out.2, HS.out.1, HS.out.2.1, HS.out.2.2.1, HS.out.2.2.2.1, HS.out.2.2.2.2⟩
set_option maxRecDepth 100000 in
set_option maxHeartbeats 1000000 in
theorem large11_5few (l c bl : Nat) (b m : Int) (s : Int) (A : Option Addr) (n cp : Nat) (w : World) (hl0 : 1 ≤ l) (hl : l ≤ 16) (hm0 : 0 ≤ m) (hm : m ≤ (l : Int)) (hc : 1 ≤ c) (hc2 : c ≤ 16) (hL : Lib.bitLen m.toNat = bl) (hs : s < 2) (s0 : 0 ≤ s) (hE : ErrAt w 2) : Calls Tryz.prog 11 #[.agg #[.int .i64 5, .int .i64 s, .int .i64 (l : Int), .int .i64 b, .int .i64 (c : Int), .int .u64 m, .slice A n cp]] w (Nil w) := by
  have hb0 : Below w.heap.size w (w.alloc (.cells #[.int .i64 5, .int .i64 s, .int .i64 (l : Int), .int .i64 b, .int .i64 (c : Int), .int .u64 m, .slice A n cp] 25)) := (Below.refl _ _).alloc (Nat.le_refl _) _
  have HB := hide (And.intro hb0 (hE.below hb0))
  clear hb0 hE
  have HL := hide hL
  clear hL
  go_enter Tryz.func11, Tryz.ntmps11
  go_wp2_with fail
  refine (make28few l c m bl s A n cp _ hl0 hl hm0 hm hc hc2 HL.out hs HB.out.2).mono ?_
  rintro e w1 ⟨⟨t, v, rfl⟩, hbl⟩
  have HS := hide (HB.out.1.trans (hbl.mono HB.out.1.size))
  clear hbl
  go_wp2_with fail
  go_ret
  exact ⟨rfl, HS.out⟩
set_option maxRecDepth 100000 in
set_option maxHeartbeats 1000000 in
theorem large11_5len (c : Nat) (b m : Int) (s : Int) (A : Option Addr) (n cp : Nat) (w : World) (hc2 : c ≤ 16) (s0 : 0 ≤ s) (h1 : s ≤ 255) (hE : ErrAt w 7) : Calls Tryz.prog 11 #[.agg #[.int .i64 5, .int .i64 s, .int .i64 0, .int .i64 b, .int .i64 (c : Int), .int .u64 m, .slice A n cp]] w (Nil w) := by
  have hb0 : Below w.heap.size w (w.alloc (.cells #[.int .i64 5, .int .i64 s, .int .i64 0, .int .i64 b, .int .i64 (c : Int), .int .u64 m, .slice A n cp] 25)) := (Below.refl _ _).alloc (Nat.le_refl _) _
  have HB := hide (And.intro hb0 (hE.below hb0))
  clear hb0 hE
  go_enter Tryz.func11, Tryz.ntmps11
  go_wp2_with fail
  refine (make28len m c s A n cp _ HB.out.2).mono ?_
  rintro e w1 ⟨⟨t, v, rfl⟩, hbl⟩
  have HS := hide (HB.out.1.trans (hbl.mono HB.out.1.size))
  clear hbl
  go_wp2_with fail
  go_ret
  exact ⟨rfl, HS.out⟩
set_option maxRecDepth 100000 in
set_option maxHeartbeats 1000000 in
theorem large11_5max (l c : Nat) (b m : Int) (s : Int) (A : Option Addr) (n cp : Nat) (w : World) (hl0 : 1 ≤ l) (hl : l ≤ 16) (hm : (l : Int) < m) (hc2 : c ≤ 16) (s0 : 0 ≤ s) (h1 : s ≤ 255) (hE : ErrAt w 8) : Calls Tryz.prog 11 #[.agg #[.int .i64 5, .int .i64 s, .int .i64 (l : Int), .int .i64 b, .int .i64 (c : Int), .int .u64 m, .slice A n cp]] w (Nil w) := by
  have hb0 : Below w.heap.size w (w.alloc (.cells #[.int .i64 5, .int .i64 s, .int .i64 (l : Int), .int .i64 b, .int .i64 (c : Int), .int .u64 m, .slice A n cp] 25)) := (Below.refl _ _).alloc (Nat.le_refl _) _
  have HB := hide (And.intro hb0 (hE.below hb0))
  clear hb0 hE
  go_enter Tryz.func11, Tryz.ntmps11
  go_wp2_with fail
  refine (make28max l m c s A n cp _ hl0 hm HB.out.2).mono ?_
  rintro e w1 ⟨⟨t, v, rfl⟩, hbl⟩
  have HS := hide (HB.out.1.trans (hbl.mono HB.out.1.size))
  clear hbl
  go_wp2_with fail
  go_ret
  exact ⟨rfl, HS.out⟩
set_option maxRecDepth 100000 in
set_option maxHeartbeats 1000000 in
theorem large11_5ch (l : Nat) (b m : Int) (s : Int) (A : Option Addr) (n cp : Nat) (w : World) (hl0 : 1 ≤ l) (hl : l ≤ 16) (hm : m ≤ (l : Int)) (s0 : 0 ≤ s) (h1 : s ≤ 255) (hE : ErrAt w 9) : Calls Tryz.prog 11 #[.agg #[.int .i64 5, .int .i64 s, .int .i64 (l : Int), .int .i64 b, .int .i64 0, .int .u64 m, .slice A n cp]] w (Nil w) := by
  have hb0 : Below w.heap.size w (w.alloc (.cells #[.int .i64 5, .int .i64 s, .int .i64 (l : Int), .int .i64 b, .int .i64 0, .int .u64 m, .slice A n cp] 25)) := (Below.refl _ _).alloc (Nat.le_refl _) _
  have HB := hide (And.intro hb0 (hE.below hb0))
  clear hb0 hE
  go_enter Tryz.func11, Tryz.ntmps11
  go_wp2_with fail
  refine (make28ch l m s A n cp _ hl0 hm HB.out.2).mono ?_
  rintro e w1 ⟨⟨t, v, rfl⟩, hbl⟩
  have HS := hide (HB.out.1.trans (hbl.mono HB.out.1.size))
  clear hbl
  go_wp2_with fail
  go_ret
  exact ⟨rfl, HS.out⟩
theorem small10_0 (k l b c m : Int) (s : Int) (A : Option Addr) (n cp : Nat) (w : World) (e1 : k ≠ 1) (e2 : k ≠ 2) : Calls Tryz.prog 10 #[.agg #[.int .i64 k, .int .i64 s, .int .i64 l, .int .i64 b, .int .i64 c, .int .u64 m, .slice A n cp]] w (Nil w) := by
  have z1 : (k == 1) = false := by simp; omega
  have z2 : (k == 2) = false := by simp; omega
  go_enter Tryz.func10, Tryz.ntmps10
  go_wp2
  go_ret
  exact ⟨rfl, (Below.refl _ _).alloc (Nat.le_refl _) _⟩
theorem large11_0 (k l b c m : Int) (s : Int) (A : Option Addr) (n cp : Nat) (w : World) (e3 : k ≠ 3) (e4 : k ≠ 4) (e5 : k ≠ 5) : Calls Tryz.prog 11 #[.agg #[.int .i64 k, .int .i64 s, .int .i64 l, .int .i64 b, .int .i64 c, .int .u64 m, .slice A n cp]] w (Nil w) := by
  have z3 : (k == 3) = false := by simp; omega
  have z4 : (k == 4) = false := by simp; omega
  have z5 : (k == 5) = false := by simp; omega
  go_enter Tryz.func11, Tryz.ntmps11
  go_wp2
  go_ret
  exact ⟨rfl, (Below.refl _ _).alloc (Nat.le_refl _) _⟩
end Go.Proofs.YtkacahdogfchfaaGreatDoor
