/-
  New at each of the five kinds of votes: when it hands back nil and an error, and the two blocks that it makes. Conditions: those of NewXof; the error variables hold errors; lengths and chunks of at most 16.
-/
import Derived.Test.YtkacahdogfchfaaGreatDoorM
import Derived.Test.YtkacahdogfchfaaGreatDoorP32
import Derived.Test.YtkacahdogfchfaaGreatDoorP35
import Derived.Test.YtkacahdogfchfaaGreatDoorP37
import Derived.Test.YtkacahdogfchfaaGreatDoorP38
import Derived.Test.YtkacahdogfchfaaGreatDoorP41
namespace Go.Proofs.YtkacahdogfchfaaGreatDoor
open Go.RowKit
theorem ErrAt.below {w w' : World} {i : Nat} (h : ErrAt w i) (hb : Below w.heap.size w w') : ErrAt w' i := by
  obtain ⟨t, v, hv⟩ := h
  have hlt : i < w.heap.size := by
    rcases Nat.lt_or_ge i w.heap.size with h | h
    · exact h
    · simp [World.cell?, Array.getElem?_eq_none h] at hv
  exact ⟨t, v, (hb.cell (p := ⟨i, 0, none⟩) hlt).trans hv⟩
theorem Fails.after {w w1 w' : World} {e : Ending} (hb : Below w.heap.size w w1) (h : Fails w1 e w') : Fails w e w' := ⟨h.1, hb.trans (h.2.mono hb.size)⟩
/-- Two blocks of a vote: the struct (block g, type t) and its flp (block fg, type b, cells fs). -/
def Vote (w w' : World) (e : Ending) (t : TypeId) (b : TypeId) (rand s : Int) (FS : Array Value → Prop) : Prop :=
  ∃ (g fg : Nat) (cs fs : Array Value), e = .returned (.tuple #[.pointer (some ⟨g, 0, none⟩), .nilIface]) ∧ w.heap.size ≤ g ∧ w.heap.size ≤ fg ∧ Below w.heap.size w w' ∧ Blk w' g t cs ∧ P3 cs fg rand s ∧ Blk w' fg b fs ∧ FS fs
theorem zsize87 : Tryz.zeroCells87.size = 205 := by kernel_rfl
set_option maxRecDepth 100000 in
set_option maxHeartbeats 1000000 in
theorem make24few (s : Int) (A : Option Addr) (n c : Nat) (w : World) (h1 : s < 2) (hE : ErrAt w 2) : Calls Tryz.prog 24 #[.int .u8 s, .slice A n c] w (Fails w) := by
  have H0 := hide hE
  clear hE
  go_enter Tryz.func24, Tryz.ntmps24
  go_wp2_with fail
  refine (flp33 _).mono ?_
  rintro e w1 ⟨fg, f, rfl, hfg, hB1, hK1⟩
  have hBl : Below w.heap.size w w1 := ((Below.refl _ _).alloc (Nat.le_refl _) _).trans (hB1.mono (by simp))
  have XB : Blk w1 w.heap.size 87 Tryz.zeroCells87 := (Blk.new w 87 Tryz.zeroCells87).below hB1 (by simp)
  have hne : fg ≠ w.heap.size := by simp at hfg; omega
  have hfg2 : w.heap.size ≤ fg := by simp at hfg; omega
  have HS := hide (And.intro hBl (And.intro (Nat.le_refl w.heap.size) (And.intro XB (And.intro hfg2 (And.intro hK1 hne)))))
  clear hBl XB hfg hfg2 hne hB1 hK1
  go_wp2_with fail
  refine (new32few fg s A n c 1 _ h1 (H0.out.below HS.out.1)).mono ?_
  rintro e w3 ⟨cs, t, v, rfl, hsz, hon, hbl⟩
  have XC := HS.out.2.2.1.below hbl (by exact HS.out.2.2.1.lt)
  have hst := run_put_row (P := Tryz.prog) XC cs (zsize87.trans hsz.symm) hon
  have hBf := below_setRow (HS.out.1.trans (hbl.mono HS.out.1.size)) HS.out.2.1 cs
  have HF := hide hBf
  clear hbl hBf hon
  have hszz := zsize87.trans hsz.symm
  go_wp2_with fail
  go_ret2
  exact ⟨⟨_, _, rfl⟩, HF.out⟩
set_option maxRecDepth 100000 in
set_option maxHeartbeats 1000000 in
theorem make24 (s : Int) (A : Option Addr) (n c : Nat) (w : World) (h0 : 2 ≤ s) (h1 : s ≤ 255) (hn : n ≤ 4096) (hb : Bytes w A n) :
    Calls Tryz.prog 24 #[.int .u8 s, .slice A n c] w fun e w' => Vote w w' e 87 154 (32 * s) s (fun fs => ∃ (f : Value), fs = #[f, .int .u64 1, .int .u64 1, .int .u64 0, .int .u64 1, .int .u64 1]) := by
  have H0 := hide hb
  clear hb
  go_enter Tryz.func24, Tryz.ntmps24
  go_wp2_with fail
  refine (flp33 _).mono ?_
  rintro e w1 ⟨fg, f, rfl, hfg, hB1, hK1⟩
  have hBl : Below w.heap.size w w1 := ((Below.refl _ _).alloc (Nat.le_refl _) _).trans (hB1.mono (by simp))
  have XB : Blk w1 w.heap.size 87 Tryz.zeroCells87 := (Blk.new w 87 Tryz.zeroCells87).below hB1 (by simp)
  have hne : fg ≠ w.heap.size := by simp at hfg; omega
  have hfg2 : w.heap.size ≤ fg := by simp at hfg; omega
  have HS := hide (And.intro hBl (And.intro (Nat.le_refl w.heap.size) (And.intro XB (And.intro hfg2 (And.intro hK1 hne)))))
  clear hBl XB hfg hfg2 hne hB1 hK1
  go_wp2_with fail
  refine (new32 fg s A n c 1 _ h0 h1 hn (H0.out.keep HS.out.1.size (fun p hp => HS.out.1.cell hp)) _ HS.out.2.2.2.2.1 _ _ _ 0 rfl rfl rfl rfl rfl).mono ?_
  rintro e w3 ⟨cs, rfl, hP, hbl⟩
  have XC := HS.out.2.2.1.below hbl (by exact HS.out.2.2.1.lt)
  have FC := HS.out.2.2.2.2.1.below hbl HS.out.2.2.2.2.1.lt
  have hst := run_put_row (P := Tryz.prog) XC cs (zsize87.trans hP.size.symm) hP.ones
  have hBf := below_setRow (HS.out.1.trans (hbl.mono HS.out.1.size)) HS.out.2.1 cs
  have HF := hide (And.intro hBf (And.intro (XC.setRow cs) (FC.setRow_far HS.out.2.2.2.2.2 cs)))
  have hszz := hP.size
  have HP := hide hP
  clear hbl hBf FC hP
  go_wp2_with fail
  go_ret2
  exact ⟨w.heap.size, fg, cs, _, rfl, HS.out.2.1, HS.out.2.2.2.1, HF.out.1, HF.out.2.1, HP.out, HF.out.2.2, _, rfl⟩
theorem zsize125 : Tryz.zeroCells125.size = 205 := by kernel_rfl
set_option maxRecDepth 100000 in
set_option maxHeartbeats 1000000 in
theorem make27few (len ch : Nat) (s : Int) (A : Option Addr) (n c : Nat) (w : World) (hl0 : 1 ≤ len) (hl : len ≤ 16) (hc : 1 ≤ ch) (hc2 : ch ≤ 16) (h1 : s < 2) (hE : ErrAt w 2) : Calls Tryz.prog 27 #[.int .u8 s, .int .u64 len, .int .u64 ch, .slice A n c] w (Fails w) := by
  have hz : ((len : Int) == 0) = false := by simp; omega
  have hz3 : ((ch : Int) == 0) = false := by simp; omega
  have H0 := hide hE
  clear hE
  go_enter Tryz.func27, Tryz.ntmps27
  go_wp2_with fail
  refine (flp39 len ch _ hl hc hc2).mono ?_
  rintro e w1 ⟨fg, f, rfl, hfg, hB1, hK1⟩
  have hBl : Below w.heap.size w w1 := ((Below.refl _ _).alloc (Nat.le_refl _) _).trans (hB1.mono (by simp))
  have XB : Blk w1 w.heap.size 125 Tryz.zeroCells125 := (Blk.new w 125 Tryz.zeroCells125).below hB1 (by simp)
  have hne : fg ≠ w.heap.size := by simp at hfg; omega
  have hfg2 : w.heap.size ≤ fg := by simp at hfg; omega
  have HS := hide (And.intro hBl (And.intro (Nat.le_refl w.heap.size) (And.intro XB (And.intro hfg2 (And.intro hK1 hne)))))
  clear hBl XB hfg hfg2 hne hB1 hK1
  go_wp2_with fail
  refine (new38few fg s A n c 4 _ h1 (H0.out.below HS.out.1)).mono ?_
  rintro e w3 ⟨cs, t, v, rfl, hsz, hon, hbl⟩
  have XC := HS.out.2.2.1.below hbl (by exact HS.out.2.2.1.lt)
  have hst := run_put_row (P := Tryz.prog) XC cs (zsize125.trans hsz.symm) hon
  have hBf := below_setRow (HS.out.1.trans (hbl.mono HS.out.1.size)) HS.out.2.1 cs
  have HF := hide hBf
  clear hbl hBf hon
  have hszz := zsize125.trans hsz.symm
  go_wp2_with fail
  go_ret2
  exact ⟨⟨_, _, rfl⟩, HF.out⟩
set_option maxRecDepth 100000 in
set_option maxHeartbeats 1000000 in
theorem make27 (len ch : Nat) (s : Int) (A : Option Addr) (n c : Nat) (w : World) (hl0 : 1 ≤ len) (hl : len ≤ 16) (hc : 1 ≤ ch) (hc2 : ch ≤ 16) (h0 : 2 ≤ s) (h1 : s ≤ 255) (hn : n ≤ 4096) (hb : Bytes w A n) :
    Calls Tryz.prog 27 #[.int .u8 s, .int .u64 len, .int .u64 ch, .slice A n c] w fun e w' => Vote w w' e 125 176 (32 * s * 2) s (fun fs => ∃ (f : Value), fs = #[f, .int .u64 ch, .int .u64 ((len + ch - 1) / ch : Nat), .int .u64 len, .int .u64 ((len + ch - 1) / ch : Nat), .int .u64 2, .int .u64 len, .int .u64 len, .int .u64 ch]) := by
  have hj : 1 ≤ (((len + ch - 1) / ch : Nat) : Int) := by
    have : 1 ≤ (len + ch - 1) / ch := by rw [Nat.le_div_iff_mul_le (by omega)]; omega
    omega
  have hz : ((len : Int) == 0) = false := by simp; omega
  have hz3 : ((ch : Int) == 0) = false := by simp; omega
  have H0 := hide hb
  clear hb
  go_enter Tryz.func27, Tryz.ntmps27
  go_wp2_with fail
  refine (flp39 len ch _ hl hc hc2).mono ?_
  rintro e w1 ⟨fg, f, rfl, hfg, hB1, hK1⟩
  have hBl : Below w.heap.size w w1 := ((Below.refl _ _).alloc (Nat.le_refl _) _).trans (hB1.mono (by simp))
  have XB : Blk w1 w.heap.size 125 Tryz.zeroCells125 := (Blk.new w 125 Tryz.zeroCells125).below hB1 (by simp)
  have hne : fg ≠ w.heap.size := by simp at hfg; omega
  have hfg2 : w.heap.size ≤ fg := by simp at hfg; omega
  have HS := hide (And.intro hBl (And.intro (Nat.le_refl w.heap.size) (And.intro XB (And.intro hfg2 (And.intro hK1 hne)))))
  clear hBl XB hfg hfg2 hne hB1 hK1
  go_wp2_with fail
  refine (new38 fg s A n c 4 _ h0 h1 hn (H0.out.keep HS.out.1.size (fun p hp => HS.out.1.cell hp)) _ HS.out.2.2.2.2.1 _ _ _ _ rfl rfl rfl rfl hj).mono ?_
  rintro e w3 ⟨cs, rfl, hP, hbl⟩
  have XC := HS.out.2.2.1.below hbl (by exact HS.out.2.2.1.lt)
  have FC := HS.out.2.2.2.2.1.below hbl HS.out.2.2.2.2.1.lt
  have hst := run_put_row (P := Tryz.prog) XC cs (zsize125.trans hP.size.symm) hP.ones
  have hBf := below_setRow (HS.out.1.trans (hbl.mono HS.out.1.size)) HS.out.2.1 cs
  have HF := hide (And.intro hBf (And.intro (XC.setRow cs) (FC.setRow_far HS.out.2.2.2.2.2 cs)))
  have hszz := hP.size
  have HP := hide hP
  clear hbl hBf FC hP
  go_wp2_with fail
  go_ret2
  exact ⟨w.heap.size, fg, cs, _, rfl, HS.out.2.1, HS.out.2.2.2.1, HF.out.1, HF.out.2.1, HP.out, HF.out.2.2, _, rfl⟩
theorem zsize103 : Tryz.zeroCells103.size = 205 := by kernel_rfl
set_option maxRecDepth 100000 in
set_option maxHeartbeats 1000000 in
theorem make25few (m : Int) (b : Nat) (s : Int) (A : Option Addr) (n c : Nat) (w : World) (hm0 : 0 ≤ m) (hm : m < 9223372036854775808) (hL : Lib.bitLen m.toNat = b) (h1 : s < 2) (hE : ErrAt w 2) : Calls Tryz.prog 25 #[.int .u8 s, .int .u64 m, .slice A n c] w (Fails w) := by
  have H0 := hide hE
  clear hE
  go_enter Tryz.func25, Tryz.ntmps25
  go_wp2_with fail
  refine (flp34b m b _ hm0 hm hL).mono ?_
  rintro e w1 ⟨fg, f, x, rfl, hfg, hB1, hK1⟩
  have hBl : Below w.heap.size w (w1.alloc (.cells Tryz.zeroCells103 103)) := hB1.alloc hB1.size _
  have hne : fg ≠ w1.heap.size := by have := hK1.lt; omega
  have HS := hide (And.intro hBl (And.intro hB1.size (And.intro (Blk.new w1 103 Tryz.zeroCells103) (And.intro hfg (And.intro (hK1.alloc (.cells Tryz.zeroCells103 103)) hne)))))
  clear hBl hfg hne hB1 hK1
  go_wp2_with fail
  refine (new35few fg s A n c 2 _ h1 (H0.out.below HS.out.1)).mono ?_
  rintro e w3 ⟨cs, t, v, rfl, hsz, hon, hbl⟩
  have XC := HS.out.2.2.1.below hbl (by simp)
  have hst := run_put_row (P := Tryz.prog) XC cs (zsize103.trans hsz.symm) hon
  have hBf := below_setRow (HS.out.1.trans (hbl.mono HS.out.1.size)) HS.out.2.1 cs
  have HF := hide hBf
  clear hbl hBf hon
  have hszz := zsize103.trans hsz.symm
  go_wp2_with fail
  go_ret2
  exact ⟨⟨_, _, rfl⟩, HF.out⟩
set_option maxRecDepth 100000 in
set_option maxHeartbeats 1000000 in
theorem make25 (m : Int) (b : Nat) (s : Int) (A : Option Addr) (n c : Nat) (w : World) (hm0 : 0 ≤ m) (hm : m < 9223372036854775808) (hL : Lib.bitLen m.toNat = b) (h0 : 2 ≤ s) (h1 : s ≤ 255) (hn : n ≤ 4096) (hb : Bytes w A n) :
    Calls Tryz.prog 25 #[.int .u8 s, .int .u64 m, .slice A n c] w fun e w' => Vote w w' e 103 161 (32 * s) s (fun fs => ∃ (f : Value) (x : Value), fs = #[f, .int .u64 (2 * (b : Int)), .int .u64 (2 * (b : Int)), .int .u64 0, .int .u64 (2 * (b : Int) + 1), .int .u64 1, .int .u64 b, .int .u64 m, x]) := by
  have H0 := hide hb
  clear hb
  go_enter Tryz.func25, Tryz.ntmps25
  go_wp2_with fail
  refine (flp34b m b _ hm0 hm hL).mono ?_
  rintro e w1 ⟨fg, f, x, rfl, hfg, hB1, hK1⟩
  have hBl : Below w.heap.size w (w1.alloc (.cells Tryz.zeroCells103 103)) := hB1.alloc hB1.size _
  have hne : fg ≠ w1.heap.size := by have := hK1.lt; omega
  have HS := hide (And.intro hBl (And.intro hB1.size (And.intro (Blk.new w1 103 Tryz.zeroCells103) (And.intro hfg (And.intro (hK1.alloc (.cells Tryz.zeroCells103 103)) hne)))))
  clear hBl hfg hne hB1 hK1
  go_wp2_with fail
  refine (new35 fg s A n c 2 _ h0 h1 hn (H0.out.keep HS.out.1.size (fun p hp => HS.out.1.cell hp)) _ HS.out.2.2.2.2.1 _ _ _ 0 rfl rfl rfl rfl rfl).mono ?_
  rintro e w3 ⟨cs, rfl, hP, hbl⟩
  have XC := HS.out.2.2.1.below hbl (by simp)
  have FC := HS.out.2.2.2.2.1.below hbl HS.out.2.2.2.2.1.lt
  have hst := run_put_row (P := Tryz.prog) XC cs (zsize103.trans hP.size.symm) hP.ones
  have hBf := below_setRow (HS.out.1.trans (hbl.mono HS.out.1.size)) HS.out.2.1 cs
  have HF := hide (And.intro hBf (And.intro (XC.setRow cs) (FC.setRow_far HS.out.2.2.2.2.2 cs)))
  have hszz := hP.size
  have HP := hide hP
  clear hbl hBf FC hP
  go_wp2_with fail
  go_ret2
  exact ⟨w1.heap.size, fg, cs, _, rfl, HS.out.2.1, HS.out.2.2.2.1, HF.out.1, HF.out.2.1, HP.out, HF.out.2.2, _, _, rfl⟩
theorem zsize113 : Tryz.zeroCells113.size = 205 := by kernel_rfl
set_option maxRecDepth 100000 in
set_option maxHeartbeats 1000000 in
theorem make26few (len bits ch : Nat) (s : Int) (A : Option Addr) (n c : Nat) (w : World) (hl0 : 1 ≤ len) (hl : len ≤ 16) (hbi : 1 ≤ bits) (hbi2 : bits ≤ 64) (hc : 1 ≤ ch) (hc2 : ch ≤ 16) (h1 : s < 2) (hE : ErrAt w 2) : Calls Tryz.prog 26 #[.int .u8 s, .int .u64 len, .int .u64 bits, .int .u64 ch, .slice A n c] w (Fails w) := by
  have H0 := hide hE
  clear hE
  go_enter Tryz.func26, Tryz.ntmps26
  go_wp2_with fail
  refine (flp36 len bits ch _ hl0 hl hbi hbi2 hc hc2).mono ?_
  rintro e w1 ⟨fg, f, rfl, hfg, hB1, hK1⟩
  have hBl : Below w.heap.size w (w1.alloc (.cells Tryz.zeroCells113 113)) := hB1.alloc hB1.size _
  have hne : fg ≠ w1.heap.size := by have := hK1.lt; omega
  have HS := hide (And.intro hBl (And.intro hB1.size (And.intro (Blk.new w1 113 Tryz.zeroCells113) (And.intro hfg (And.intro (hK1.alloc (.cells Tryz.zeroCells113 113)) hne)))))
  clear hBl hfg hne hB1 hK1
  go_wp2_with fail
  refine (new37few fg s A n c 3 _ h1 (H0.out.below HS.out.1)).mono ?_
  rintro e w3 ⟨cs, t, v, rfl, hsz, hon, hbl⟩
  have XC := HS.out.2.2.1.below hbl (by simp)
  have hst := run_put_row (P := Tryz.prog) XC cs (zsize113.trans hsz.symm) hon
  have hBf := below_setRow (HS.out.1.trans (hbl.mono HS.out.1.size)) HS.out.2.1 cs
  have HF := hide hBf
  clear hbl hBf hon
  have hszz := zsize113.trans hsz.symm
  go_wp2_with fail
  go_ret2
  exact ⟨⟨_, _, rfl⟩, HF.out⟩
set_option maxRecDepth 100000 in
set_option maxHeartbeats 1000000 in
theorem make26 (len bits ch : Nat) (s : Int) (A : Option Addr) (n c : Nat) (w : World) (hl0 : 1 ≤ len) (hl : len ≤ 16) (hbi : 1 ≤ bits) (hbi2 : bits ≤ 64) (hc : 1 ≤ ch) (hc2 : ch ≤ 16) (h0 : 2 ≤ s) (h1 : s ≤ 255) (hn : n ≤ 4096) (hb : Bytes w A n) :
    Calls Tryz.prog 26 #[.int .u8 s, .int .u64 len, .int .u64 bits, .int .u64 ch, .slice A n c] w fun e w' => Vote w w' e 113 172 (32 * s * 2) s (fun fs => ∃ (f : Value), fs = #[f, .int .u64 ch, .int .u64 ((len * bits + ch - 1) / ch : Nat), .int .u64 (len * bits : Nat), .int .u64 ((len * bits + ch - 1) / ch : Nat), .int .u64 1, .int .u64 len, .int .u64 len, .int .u64 bits, .int .u64 ch]) := by
  have hj : 1 ≤ (((len * bits + ch - 1) / ch : Nat) : Int) := by
    have hp : 1 ≤ len * bits := Nat.mul_pos hl0 hbi
    have : 1 ≤ (len * bits + ch - 1) / ch := by rw [Nat.le_div_iff_mul_le (by omega)]; omega
    omega
  have H0 := hide hb
  clear hb
  go_enter Tryz.func26, Tryz.ntmps26
  go_wp2_with fail
  refine (flp36 len bits ch _ hl0 hl hbi hbi2 hc hc2).mono ?_
  rintro e w1 ⟨fg, f, rfl, hfg, hB1, hK1⟩
  have hBl : Below w.heap.size w (w1.alloc (.cells Tryz.zeroCells113 113)) := hB1.alloc hB1.size _
  have hne : fg ≠ w1.heap.size := by have := hK1.lt; omega
  have HS := hide (And.intro hBl (And.intro hB1.size (And.intro (Blk.new w1 113 Tryz.zeroCells113) (And.intro hfg (And.intro (hK1.alloc (.cells Tryz.zeroCells113 113)) hne)))))
  clear hBl hfg hne hB1 hK1
  go_wp2_with fail
  refine (new37 fg s A n c 3 _ h0 h1 hn (H0.out.keep HS.out.1.size (fun p hp => HS.out.1.cell hp)) _ HS.out.2.2.2.2.1 _ _ _ _ rfl rfl rfl rfl hj).mono ?_
  rintro e w3 ⟨cs, rfl, hP, hbl⟩
  have XC := HS.out.2.2.1.below hbl (by simp)
  have FC := HS.out.2.2.2.2.1.below hbl HS.out.2.2.2.2.1.lt
  have hst := run_put_row (P := Tryz.prog) XC cs (zsize113.trans hP.size.symm) hP.ones
  have hBf := below_setRow (HS.out.1.trans (hbl.mono HS.out.1.size)) HS.out.2.1 cs
  have HF := hide (And.intro hBf (And.intro (XC.setRow cs) (FC.setRow_far HS.out.2.2.2.2.2 cs)))
  have hszz := hP.size
  have HP := hide hP
  clear hbl hBf FC hP
  go_wp2_with fail
  go_ret2
  exact ⟨w1.heap.size, fg, cs, _, rfl, HS.out.2.1, HS.out.2.2.2.1, HF.out.1, HF.out.2.1, HP.out, HF.out.2.2, _, rfl⟩
theorem zsize135 : Tryz.zeroCells135.size = 205 := by kernel_rfl
set_option maxRecDepth 100000 in
set_option maxHeartbeats 1000000 in
theorem make28few (len ch : Nat) (m : Int) (b : Nat) (s : Int) (A : Option Addr) (n c : Nat) (w : World) (hl0 : 1 ≤ len) (hl : len ≤ 16) (hm0 : 0 ≤ m) (hm : m ≤ (len : Int)) (hc : 1 ≤ ch) (hc2 : ch ≤ 16) (hL : Lib.bitLen m.toNat = b) (h1 : s < 2) (hE : ErrAt w 2) : Calls Tryz.prog 28 #[.int .u8 s, .int .u64 len, .int .u64 m, .int .u64 ch, .slice A n c] w (Fails w) := by
  have H0 := hide hE
  clear hE
  go_enter Tryz.func28, Tryz.ntmps28
  go_wp2_with fail
  refine (flp40b len ch m b _ hl0 hl hm0 hm hc hc2 hL).mono ?_
  rintro e w1 ⟨fg, f, x, y, rfl, hfg, hB1, hK1⟩
  have hBl : Below w.heap.size w (w1.alloc (.cells Tryz.zeroCells135 135)) := hB1.alloc hB1.size _
  have hne : fg ≠ w1.heap.size := by have := hK1.lt; omega
  have HS := hide (And.intro hBl (And.intro hB1.size (And.intro (Blk.new w1 135 Tryz.zeroCells135) (And.intro hfg (And.intro (hK1.alloc (.cells Tryz.zeroCells135 135)) hne)))))
  clear hBl hfg hne hB1 hK1
  go_wp2_with fail
  refine (new41few fg s A n c 5 _ h1 (H0.out.below HS.out.1)).mono ?_
  rintro e w3 ⟨cs, t, v, rfl, hsz, hon, hbl⟩
  have XC := HS.out.2.2.1.below hbl (by simp)
  have hst := run_put_row (P := Tryz.prog) XC cs (zsize135.trans hsz.symm) hon
  have hBf := below_setRow (HS.out.1.trans (hbl.mono HS.out.1.size)) HS.out.2.1 cs
  have HF := hide hBf
  clear hbl hBf hon
  have hszz := zsize135.trans hsz.symm
  go_wp2_with fail
  go_ret2
  exact ⟨⟨_, _, rfl⟩, HF.out⟩
set_option maxRecDepth 100000 in
set_option maxHeartbeats 1000000 in
theorem make28 (len ch : Nat) (m : Int) (b : Nat) (s : Int) (A : Option Addr) (n c : Nat) (w : World) (hl0 : 1 ≤ len) (hl : len ≤ 16) (hm0 : 0 ≤ m) (hm : m ≤ (len : Int)) (hc : 1 ≤ ch) (hc2 : ch ≤ 16) (hL : Lib.bitLen m.toNat = b) (h0 : 2 ≤ s) (h1 : s ≤ 255) (hn : n ≤ 4096) (hb : Bytes w A n) :
    Calls Tryz.prog 28 #[.int .u8 s, .int .u64 len, .int .u64 m, .int .u64 ch, .slice A n c] w fun e w' => Vote w w' e 135 180 (32 * s * 2) s (fun fs => ∃ (f : Value) (x : Value) (y : Value), fs = #[f, .int .u64 ch, .int .u64 (((len : Int) + b + ch - 1) / ch), .int .u64 ((len : Int) + b), .int .u64 (((len : Int) + b + ch - 1) / ch), .int .u64 2, .int .u64 len, .int .u64 b, .int .u64 ch, .int .u64 len, x, y]) := by
  have hj : 1 ≤ ((len : Int) + b + ch - 1) / ch := by rw [Int.le_ediv_iff_mul_le (by omega)]; omega
  have H0 := hide hb
  clear hb
  go_enter Tryz.func28, Tryz.ntmps28
  go_wp2_with fail
  refine (flp40b len ch m b _ hl0 hl hm0 hm hc hc2 hL).mono ?_
  rintro e w1 ⟨fg, f, x, y, rfl, hfg, hB1, hK1⟩
  have hBl : Below w.heap.size w (w1.alloc (.cells Tryz.zeroCells135 135)) := hB1.alloc hB1.size _
  have hne : fg ≠ w1.heap.size := by have := hK1.lt; omega
  have HS := hide (And.intro hBl (And.intro hB1.size (And.intro (Blk.new w1 135 Tryz.zeroCells135) (And.intro hfg (And.intro (hK1.alloc (.cells Tryz.zeroCells135 135)) hne)))))
  clear hBl hfg hne hB1 hK1
  go_wp2_with fail
  refine (new41 fg s A n c 5 _ h0 h1 hn (H0.out.keep HS.out.1.size (fun p hp => HS.out.1.cell hp)) _ HS.out.2.2.2.2.1 _ _ _ _ rfl rfl rfl rfl hj).mono ?_
  rintro e w3 ⟨cs, rfl, hP, hbl⟩
  have XC := HS.out.2.2.1.below hbl (by simp)
  have FC := HS.out.2.2.2.2.1.below hbl HS.out.2.2.2.2.1.lt
  have hst := run_put_row (P := Tryz.prog) XC cs (zsize135.trans hP.size.symm) hP.ones
  have hBf := below_setRow (HS.out.1.trans (hbl.mono HS.out.1.size)) HS.out.2.1 cs
  have HF := hide (And.intro hBf (And.intro (XC.setRow cs) (FC.setRow_far HS.out.2.2.2.2.2 cs)))
  have hszz := hP.size
  have HP := hide hP
  clear hbl hBf FC hP
  go_wp2_with fail
  go_ret2
  exact ⟨w1.heap.size, fg, cs, _, rfl, HS.out.2.1, HS.out.2.2.2.1, HF.out.1, HF.out.2.1, HP.out, HF.out.2.2, _, _, _, rfl⟩
theorem make25big (m : Int) (s : Int) (A : Option Addr) (n c : Nat) (w : World) (hm : 9223372036854775808 ≤ m) (hE : ErrAt w 3) : Calls Tryz.prog 25 #[.int .u8 s, .int .u64 m, .slice A n c] w (Fails w) := by
  go_enter Tryz.func25, Tryz.ntmps25
  go_wp2_with fail
  refine (flp34big m _ hm hE).mono ?_
  rintro e w1 ⟨⟨t, v, rfl⟩, hbl⟩
  go_wp2_with fail
  go_ret2
  exact ⟨⟨_, _, rfl⟩, hbl⟩
theorem make26len (bits ch : Nat) (s : Int) (A : Option Addr) (n c : Nat) (w : World) (hE : ErrAt w 4) : Calls Tryz.prog 26 #[.int .u8 s, .int .u64 0, .int .u64 bits, .int .u64 ch, .slice A n c] w (Fails w) := by
  go_enter Tryz.func26, Tryz.ntmps26
  go_wp2_with fail
  refine (flp36len bits ch _ hE).mono ?_
  rintro e w1 ⟨⟨t, v, rfl⟩, hbl⟩
  go_wp2_with fail
  go_ret2
  exact ⟨⟨_, _, rfl⟩, hbl⟩
theorem make26bits (len bits ch : Nat) (s : Int) (A : Option Addr) (n c : Nat) (w : World) (h0 : 1 ≤ len) (hl : len ≤ 16) (hb : bits = 0 ∨ 64 < bits) (hE : ErrAt w 5) : Calls Tryz.prog 26 #[.int .u8 s, .int .u64 len, .int .u64 bits, .int .u64 ch, .slice A n c] w (Fails w) := by
  go_enter Tryz.func26, Tryz.ntmps26
  go_wp2_with fail
  refine (flp36bits len bits ch _ h0 hl hb hE).mono ?_
  rintro e w1 ⟨⟨t, v, rfl⟩, hbl⟩
  go_wp2_with fail
  go_ret2
  exact ⟨⟨_, _, rfl⟩, hbl⟩
theorem make26ch (len bits : Nat) (s : Int) (A : Option Addr) (n c : Nat) (w : World) (h0 : 1 ≤ len) (hl : len ≤ 16) (hb : 1 ≤ bits) (hb2 : bits ≤ 64) (hE : ErrAt w 6) : Calls Tryz.prog 26 #[.int .u8 s, .int .u64 len, .int .u64 bits, .int .u64 0, .slice A n c] w (Fails w) := by
  go_enter Tryz.func26, Tryz.ntmps26
  go_wp2_with fail
  refine (flp36ch len bits _ h0 hl hb hb2 hE).mono ?_
  rintro e w1 ⟨⟨t, v, rfl⟩, hbl⟩
  go_wp2_with fail
  go_ret2
  exact ⟨⟨_, _, rfl⟩, hbl⟩
theorem make28len (mx ch : Int) (s : Int) (A : Option Addr) (n c : Nat) (w : World) (hE : ErrAt w 7) : Calls Tryz.prog 28 #[.int .u8 s, .int .u64 0, .int .u64 mx, .int .u64 ch, .slice A n c] w (Fails w) := by
  go_enter Tryz.func28, Tryz.ntmps28
  go_wp2_with fail
  refine (flp40len mx ch _ hE).mono ?_
  rintro e w1 ⟨⟨t, v, rfl⟩, hbl⟩
  go_wp2_with fail
  go_ret2
  exact ⟨⟨_, _, rfl⟩, hbl⟩
theorem make28max (len : Nat) (mx ch : Int) (s : Int) (A : Option Addr) (n c : Nat) (w : World) (h0 : 1 ≤ len) (hm : (len : Int) < mx) (hE : ErrAt w 8) : Calls Tryz.prog 28 #[.int .u8 s, .int .u64 len, .int .u64 mx, .int .u64 ch, .slice A n c] w (Fails w) := by
  go_enter Tryz.func28, Tryz.ntmps28
  go_wp2_with fail
  refine (flp40max len mx ch _ h0 hm hE).mono ?_
  rintro e w1 ⟨⟨t, v, rfl⟩, hbl⟩
  go_wp2_with fail
  go_ret2
  exact ⟨⟨_, _, rfl⟩, hbl⟩
theorem make28ch (len : Nat) (mx : Int) (s : Int) (A : Option Addr) (n c : Nat) (w : World) (h0 : 1 ≤ len) (hm : mx ≤ (len : Int)) (hE : ErrAt w 9) : Calls Tryz.prog 28 #[.int .u8 s, .int .u64 len, .int .u64 mx, .int .u64 0, .slice A n c] w (Fails w) := by
  go_enter Tryz.func28, Tryz.ntmps28
  go_wp2_with fail
  refine (flp40ch len mx _ h0 hm hE).mono ?_
  rintro e w1 ⟨⟨t, v, rfl⟩, hbl⟩
  go_wp2_with fail
  go_ret2
  exact ⟨⟨_, _, rfl⟩, hbl⟩
theorem make27len (ch : Int) (s : Int) (A : Option Addr) (n c : Nat) (w : World) (hE : ErrAt w 0) : Calls Tryz.prog 27 #[.int .u8 s, .int .u64 0, .int .u64 ch, .slice A n c] w (Fails w) := by
  obtain ⟨t, v, hv⟩ := hE
  go_enter Tryz.func27, Tryz.ntmps27
  go_wp2
  go_region
  all_goals go_wp2
  all_goals go_ret2
  all_goals exact ⟨⟨_, _, rfl⟩, (Below.refl _ _).drew⟩
theorem make27ch (len : Nat) (s : Int) (A : Option Addr) (n c : Nat) (w : World) (h0 : 1 ≤ len) (hE : ErrAt w 1) : Calls Tryz.prog 27 #[.int .u8 s, .int .u64 len, .int .u64 0, .slice A n c] w (Fails w) := by
  obtain ⟨t, v, hv⟩ := hE
  have hz : ((len : Int) == 0) = false := by simp; omega
  go_enter Tryz.func27, Tryz.ntmps27
  go_wp2
  go_region
  all_goals go_wp2
  all_goals go_ret2
  all_goals exact ⟨⟨_, _, rfl⟩, (Below.refl _ _).drew⟩
end Go.Proofs.YtkacahdogfchfaaGreatDoor
