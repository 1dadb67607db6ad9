/-
  The gadgets' and the Valid structs' getters: arities, degrees, and the lengths that prio3.Params asks for. Conditions: what the Valid struct's cells are; at most 1,090 gadget calls; the table of math/bits is laid.
-/
import Derived.Test.YtkacahdogfchfaaGreatDoorQ
import Derived.Test.YtkacahdogfchfaaGreatDoorN
import Derived.Deep.RegionWith
import Derived.Deep.RegionHeld3
namespace Go.Proofs.YtkacahdogfchfaaGreatDoor
open Go.RowKit
theorem Tab.below {w w' : World} (h : Tab w) (hb : Below w.heap.size w w') : Tab w' := by
  obtain ⟨x, hx, _⟩ := h 0 (by omega)
  have hlt : 18 < w.heap.size := by
    rcases Nat.lt_or_ge 18 w.heap.size with h | h
    · exact h
    · simp [World.cell?, Array.getElem?_eq_none h] at hx
  intro i hi
  obtain ⟨x, hx, h2⟩ := h i hi
  exact ⟨x, (hb.cell (p := ⟨18, i, none⟩) hlt).trans hx, h2⟩
theorem gad188 (w : World) : Calls Tryz.prog 188 #[.agg #[]] w fun e w' => e = .returned (.int .u64 2) ∧ w' = w.alloc (.cells #[] 144) := by
  go_enter Tryz.func188, Tryz.ntmps188
  go_wp2
  go_ret
  exact ⟨rfl, rfl⟩
theorem gad189 (w : World) : Calls Tryz.prog 189 #[.agg #[]] w fun e w' => e = .returned (.int .u64 2) ∧ w' = w.alloc (.cells #[] 144) := by
  go_enter Tryz.func189, Tryz.ntmps189
  go_wp2
  go_ret
  exact ⟨rfl, rfl⟩
theorem gad191 (w : World) : Calls Tryz.prog 191 #[.agg #[]] w fun e w' => e = .returned (.int .u64 1) ∧ w' = w.alloc (.cells #[] 155) := by
  go_enter Tryz.func191, Tryz.ntmps191
  go_wp2
  go_ret
  exact ⟨rfl, rfl⟩
theorem gad192 (w : World) : Calls Tryz.prog 192 #[.agg #[]] w fun e w' => e = .returned (.int .u64 2) ∧ w' = w.alloc (.cells #[] 155) := by
  go_enter Tryz.func192, Tryz.ntmps192
  go_wp2
  go_ret
  exact ⟨rfl, rfl⟩
theorem part166 (w : World) (b : Nat) (cs : Array Value) (h : Blk w b 166 cs) : Sem.run Tryz.prog (partAt ⟨b, 0, none⟩ 0 0) w = .ok ⟨b, 0, none⟩ w :=
  run_partAt h 0 0 (by have h : Tryz.prog.cellsOf 166 = 1 := by kernel_rfl
                       rw [h]; decide) (by kernel_rfl)
theorem gad196 (ch : Nat) (w : World) : Calls Tryz.prog 196 #[.agg #[.int .u64 ch]] w fun e w' => e = .returned (.int .u64 2) ∧ Below w.heap.size w w' := by
  have hp := part166 (w.alloc (.cells #[.int .u64 ch] 166)) w.heap.size _ (Blk.new w 166 _)
  go_enter Tryz.func196, Tryz.ntmps196
  go_wp2_with fail
  refine (gad189 _).mono ?_
  rintro e w' ⟨rfl, rfl⟩
  go_wp2
  go_ret
  exact ⟨rfl, ((Below.refl _ _).alloc (Nat.le_refl _) _).alloc (by simp) _⟩
set_option maxHeartbeats 1000000 in
theorem gad195 (ch : Nat) (w : World) (hc : ch ≤ 16) : Calls Tryz.prog 195 #[.agg #[.int .u64 ch]] w fun e w' => e = .returned (.int .u64 (2 * (ch : Int))) ∧ Below w.heap.size w w' := by
  have hp := part166 (w.alloc (.cells #[.int .u64 ch] 166)).drew w.heap.size _ (Blk.new w 166 _).drew
  have hp2 := part166 (((w.alloc (.cells #[.int .u64 ch] 166)).drew).alloc (.cells #[] 144)) w.heap.size _ ((Blk.new w 166 _).drew.alloc _)
  have hw : IntKind.u64.wrap (2 * (ch : Int)) = 2 * (ch : Int) := by rw [IntKind.wrap_u64]; omega
  go_enter Tryz.func195, Tryz.ntmps195
  go_wp2_with fail
  go_region_with (go_at_call 188; refine (gad188 _).mono ?_; rintro e w' ⟨rfl, rfl⟩)
  all_goals go_wp2
  all_goals go_ret
  all_goals refine ⟨?_, (((Below.refl _ _).alloc (Nat.le_refl _) _).alloc (by simp) _).drew⟩
  all_goals rfl
theorem arity146 (w : World) (f : Nat) : (method (f + 1) 146 (.agg #[]) "Arity").run Tryz.prog w = .ok (188, .agg #[]) w := by kernel_rfl
theorem arity146n (w : World) (f : Nat) : (nilAhead (f + 1) 146 (.agg #[]) "Arity").run Tryz.prog w = .ok (some false) w := by kernel_rfl
theorem degree146 (w : World) (f : Nat) : (method (f + 1) 146 (.agg #[]) "Degree").run Tryz.prog w = .ok (189, .agg #[]) w := by kernel_rfl
theorem degree146n (w : World) (f : Nat) : (nilAhead (f + 1) 146 (.agg #[]) "Degree").run Tryz.prog w = .ok (some false) w := by kernel_rfl
theorem arity155 (w : World) (f : Nat) : (method (f + 1) 155 (.agg #[]) "Arity").run Tryz.prog w = .ok (191, .agg #[]) w := by kernel_rfl
theorem arity155n (w : World) (f : Nat) : (nilAhead (f + 1) 155 (.agg #[]) "Arity").run Tryz.prog w = .ok (some false) w := by kernel_rfl
theorem degree155 (w : World) (f : Nat) : (method (f + 1) 155 (.agg #[]) "Degree").run Tryz.prog w = .ok (192, .agg #[]) w := by kernel_rfl
theorem degree155n (w : World) (f : Nat) : (nilAhead (f + 1) 155 (.agg #[]) "Degree").run Tryz.prog w = .ok (some false) w := by kernel_rfl
theorem arity166 (v : Value) (w : World) (f : Nat) : (method (f + 1) 166 (.agg #[v]) "Arity").run Tryz.prog w = .ok (195, .agg #[v]) w := by kernel_rfl
theorem arity166n (v : Value) (w : World) (f : Nat) : (nilAhead (f + 1) 166 (.agg #[v]) "Arity").run Tryz.prog w = .ok (some false) w := by kernel_rfl
theorem degree166 (v : Value) (w : World) (f : Nat) : (method (f + 1) 166 (.agg #[v]) "Degree").run Tryz.prog w = .ok (196, .agg #[v]) w := by kernel_rfl
theorem degree166n (v : Value) (w : World) (f : Nat) : (nilAhead (f + 1) 166 (.agg #[v]) "Degree").run Tryz.prog w = .ok (some false) w := by kernel_rfl
theorem prove160 (g : Nat) (cs : Array Value) (w : World) (hB : Blk w g 154 cs) : Calls Tryz.prog 160 #[.pointer (some ⟨g, 1, none⟩)] w fun e w' => e = .returned (.int .u64 2) ∧ Below w.heap.size w w' := by
  have hp := part154 w g cs hB
  have ha := arity146
  have han := arity146n
  go_enter Tryz.func160, Tryz.ntmps160
  go_wp2_with fail
  refine (gad188 _).mono ?_
  rintro e w1 ⟨rfl, rfl⟩
  go_wp2
  go_ret
  exact ⟨rfl, (Below.refl _ _).alloc (Nat.le_refl _) _⟩
theorem verif162 (g : Nat) (cs : Array Value) (w : World) (hB : Blk w g 154 cs) : Calls Tryz.prog 162 #[.pointer (some ⟨g, 1, none⟩)] w fun e w' => e = .returned (.int .u64 (2 + 2)) ∧ Below w.heap.size w w' := by
  have hp := part154 w g cs hB
  have ha := arity146
  have han := arity146n
  go_enter Tryz.func162, Tryz.ntmps162
  go_wp2_with fail
  refine (gad188 _).mono ?_
  rintro e w1 ⟨rfl, rfl⟩
  go_wp2
  go_ret
  exact ⟨rfl, (Below.refl _ _).alloc (Nat.le_refl _) _⟩
theorem poly163 (g : Nat) (calls q : Nat) (hq : np2 (1 + calls) = q) (cs : Array Value) (w : World) (hB : Blk w g 154 cs) (h2 : cs[1]? = some (.int .u64 calls)) (hc : calls ≤ 1090) (hT : Tab w) : Calls Tryz.prog 163 #[.pointer (some ⟨g, 1, none⟩)] w fun e w' => e = .returned (.int .u64 (1 + 2 * ((q : Int) - 1))) ∧ Below w.heap.size w w' := by
  have hp := part154 w g cs hB
  have hc2 : w.cell? ⟨g, 1, none⟩ = some (.int .u64 calls) := (hB.cell 1).trans h2
  have ha := degree146
  have han := degree146n
  have hN : 1 ≤ q ∧ q ≤ 2048 := by
    have := np2_bound (1 + calls) (by omega) (by omega)
    omega
  have he : Hid ((1 + (calls : Int)) = ((1 + calls : Nat) : Int)) := hide (by omega)
  have hT := hide hT
  have hq := hide hq
  go_enter Tryz.func163, Tryz.ntmps163
  go_wp2_with fail
  rw [he.out]
  refine (pow164 (1 + calls) _ (by omega) (by omega) hT.out).mono ?_
  rintro e w0 ⟨⟨k, rfl⟩, rfl⟩
  rw [hq.out]
  go_wp2_with fail
  refine (gad189 _).mono ?_
  rintro e w1 ⟨rfl, rfl⟩
  go_wp2
  go_ret
  exact ⟨rfl, (Below.refl _ _).alloc (Nat.le_refl _) _⟩
theorem proof159 (g : Nat) (calls q : Nat) (hq : np2 (1 + calls) = q) (cs : Array Value) (w : World) (hB : Blk w g 154 cs) (h2 : cs[1]? = some (.int .u64 calls)) (hc : calls ≤ 1090) (hT : Tab w) : Calls Tryz.prog 159 #[.pointer (some ⟨g, 1, none⟩)] w fun e w' => e = .returned (.int .u64 (2 + (1 + 2 * ((q : Int) - 1)))) ∧ Below w.heap.size w w' := by
  have hp := part154 w g cs hB
  have ha := arity146
  have han := arity146n
  have hN : 1 ≤ q ∧ q ≤ 2048 := by
    have := np2_bound (1 + calls) (by omega) (by omega)
    omega
  have H := hide (And.intro hB (And.intro h2 hT))
  have hq := hide hq
  clear hB h2 hT
  go_enter Tryz.func159, Tryz.ntmps159
  go_wp2_with fail
  refine (gad188 _).mono ?_
  rintro e w1 ⟨rfl, rfl⟩
  have hbl : Below w.heap.size w (w.alloc (.cells #[] 144)) := (Below.refl _ _).alloc (Nat.le_refl _) _
  go_wp2_with fail
  refine (poly163 g calls q hq.out cs _ (H.out.1.below hbl H.out.1.lt) H.out.2.1 hc (H.out.2.2.below hbl)).mono ?_
  rintro e w2 ⟨rfl, hb2⟩
  have HB := hide (hbl.trans (hb2.mono hbl.size))
  clear hb2
  go_wp2
  go_ret
  exact ⟨rfl, HB.out⟩
theorem prove178 (g : Nat) (cs : Array Value) (w : World) (hB : Blk w g 161 cs) : Calls Tryz.prog 178 #[.pointer (some ⟨g, 1, none⟩)] w fun e w' => e = .returned (.int .u64 1) ∧ Below w.heap.size w w' := by
  have hp := part161 w g cs hB
  have ha := arity155
  have han := arity155n
  go_enter Tryz.func178, Tryz.ntmps178
  go_wp2_with fail
  refine (gad191 _).mono ?_
  rintro e w1 ⟨rfl, rfl⟩
  go_wp2
  go_ret
  exact ⟨rfl, (Below.refl _ _).alloc (Nat.le_refl _) _⟩
theorem verif179 (g : Nat) (cs : Array Value) (w : World) (hB : Blk w g 161 cs) : Calls Tryz.prog 179 #[.pointer (some ⟨g, 1, none⟩)] w fun e w' => e = .returned (.int .u64 (2 + 1)) ∧ Below w.heap.size w w' := by
  have hp := part161 w g cs hB
  have ha := arity155
  have han := arity155n
  go_enter Tryz.func179, Tryz.ntmps179
  go_wp2_with fail
  refine (gad191 _).mono ?_
  rintro e w1 ⟨rfl, rfl⟩
  go_wp2
  go_ret
  exact ⟨rfl, (Below.refl _ _).alloc (Nat.le_refl _) _⟩
theorem poly180 (g : Nat) (calls q : Nat) (hq : np2 (1 + calls) = q) (cs : Array Value) (w : World) (hB : Blk w g 161 cs) (h2 : cs[1]? = some (.int .u64 calls)) (hc : calls ≤ 1090) (hT : Tab w) : Calls Tryz.prog 180 #[.pointer (some ⟨g, 1, none⟩)] w fun e w' => e = .returned (.int .u64 (1 + 2 * ((q : Int) - 1))) ∧ Below w.heap.size w w' := by
  have hp := part161 w g cs hB
  have hc2 : w.cell? ⟨g, 1, none⟩ = some (.int .u64 calls) := (hB.cell 1).trans h2
  have ha := degree155
  have han := degree155n
  have hN : 1 ≤ q ∧ q ≤ 2048 := by
    have := np2_bound (1 + calls) (by omega) (by omega)
    omega
  have he : Hid ((1 + (calls : Int)) = ((1 + calls : Nat) : Int)) := hide (by omega)
  have hT := hide hT
  have hq := hide hq
  go_enter Tryz.func180, Tryz.ntmps180
  go_wp2_with fail
  rw [he.out]
  refine (pow164 (1 + calls) _ (by omega) (by omega) hT.out).mono ?_
  rintro e w0 ⟨⟨k, rfl⟩, rfl⟩
  rw [hq.out]
  go_wp2_with fail
  refine (gad192 _).mono ?_
  rintro e w1 ⟨rfl, rfl⟩
  go_wp2
  go_ret
  exact ⟨rfl, (Below.refl _ _).alloc (Nat.le_refl _) _⟩
theorem proof177 (g : Nat) (calls q : Nat) (hq : np2 (1 + calls) = q) (cs : Array Value) (w : World) (hB : Blk w g 161 cs) (h2 : cs[1]? = some (.int .u64 calls)) (hc : calls ≤ 1090) (hT : Tab w) : Calls Tryz.prog 177 #[.pointer (some ⟨g, 1, none⟩)] w fun e w' => e = .returned (.int .u64 (1 + (1 + 2 * ((q : Int) - 1)))) ∧ Below w.heap.size w w' := by
  have hp := part161 w g cs hB
  have ha := arity155
  have han := arity155n
  have hN : 1 ≤ q ∧ q ≤ 2048 := by
    have := np2_bound (1 + calls) (by omega) (by omega)
    omega
  have H := hide (And.intro hB (And.intro h2 hT))
  have hq := hide hq
  clear hB h2 hT
  go_enter Tryz.func177, Tryz.ntmps177
  go_wp2_with fail
  refine (gad191 _).mono ?_
  rintro e w1 ⟨rfl, rfl⟩
  have hbl : Below w.heap.size w (w.alloc (.cells #[] 155)) := (Below.refl _ _).alloc (Nat.le_refl _) _
  go_wp2_with fail
  refine (poly180 g calls q hq.out cs _ (H.out.1.below hbl H.out.1.lt) H.out.2.1 hc (H.out.2.2.below hbl)).mono ?_
  rintro e w2 ⟨rfl, hb2⟩
  have HB := hide (hbl.trans (hb2.mono hbl.size))
  clear hb2
  go_wp2
  go_ret
  exact ⟨rfl, HB.out⟩
theorem prove182 (bt : TypeId) (g ch : Nat) (cs : Array Value) (w : World) (hB : Blk w g bt cs) (h1 : cs[1]? = some (.int .u64 ch)) (hch : ch ≤ 16) : Calls Tryz.prog 182 #[.pointer (some ⟨g, 1, none⟩)] w fun e w' => e = .returned (.int .u64 (2 * (ch : Int))) ∧ Below w.heap.size w w' := by
  have hc1 : w.cell? ⟨g, 1, none⟩ = some (.int .u64 ch) := (hB.cell 1).trans h1
  have ha := arity166 (.int .u64 ch)
  have han := arity166n (.int .u64 ch)
  go_enter Tryz.func182, Tryz.ntmps182
  go_wp2_with fail
  refine (gad195 ch _ hch).mono ?_
  rintro e w1 ⟨rfl, hbl⟩
  go_wp2
  go_ret
  exact ⟨rfl, hbl⟩
theorem verif183 (bt : TypeId) (g ch : Nat) (cs : Array Value) (w : World) (hB : Blk w g bt cs) (h1 : cs[1]? = some (.int .u64 ch)) (hch : ch ≤ 16) : Calls Tryz.prog 183 #[.pointer (some ⟨g, 1, none⟩)] w fun e w' => e = .returned (.int .u64 (2 + (2 * (ch : Int)))) ∧ Below w.heap.size w w' := by
  have hc1 : w.cell? ⟨g, 1, none⟩ = some (.int .u64 ch) := (hB.cell 1).trans h1
  have ha := arity166 (.int .u64 ch)
  have han := arity166n (.int .u64 ch)
  go_enter Tryz.func183, Tryz.ntmps183
  go_wp2_with fail
  refine (gad195 ch _ hch).mono ?_
  rintro e w1 ⟨rfl, hbl⟩
  go_wp2
  go_ret
  exact ⟨rfl, hbl⟩
theorem poly184 (bt : TypeId) (g ch : Nat) (calls q : Nat) (hq : np2 (1 + calls) = q) (cs : Array Value) (w : World) (hB : Blk w g bt cs) (h1 : cs[1]? = some (.int .u64 ch)) (h2 : cs[2]? = some (.int .u64 calls)) (hc : calls ≤ 1090) (hT : Tab w) : Calls Tryz.prog 184 #[.pointer (some ⟨g, 1, none⟩)] w fun e w' => e = .returned (.int .u64 (1 + 2 * ((q : Int) - 1))) ∧ Below w.heap.size w w' := by
  have hc1 : w.cell? ⟨g, 1, none⟩ = some (.int .u64 ch) := (hB.cell 1).trans h1
  have hc2 : w.cell? ⟨g, 2, none⟩ = some (.int .u64 calls) := (hB.cell 2).trans h2
  have ha := degree166 (.int .u64 ch)
  have han := degree166n (.int .u64 ch)
  have hN : 1 ≤ q ∧ q ≤ 2048 := by
    have := np2_bound (1 + calls) (by omega) (by omega)
    omega
  have he : Hid ((1 + (calls : Int)) = ((1 + calls : Nat) : Int)) := hide (by omega)
  have hT := hide hT
  have hq := hide hq
  go_enter Tryz.func184, Tryz.ntmps184
  go_wp2_with fail
  rw [he.out]
  refine (pow164 (1 + calls) _ (by omega) (by omega) hT.out).mono ?_
  rintro e w0 ⟨⟨k, rfl⟩, rfl⟩
  rw [hq.out]
  go_wp2_with fail
  refine (gad196 ch _).mono ?_
  rintro e w1 ⟨rfl, hbl⟩
  go_wp2
  go_ret
  exact ⟨rfl, hbl⟩
theorem proof181 (bt : TypeId) (g ch : Nat) (calls q : Nat) (hq : np2 (1 + calls) = q) (cs : Array Value) (w : World) (hB : Blk w g bt cs) (h1 : cs[1]? = some (.int .u64 ch)) (hch : ch ≤ 16) (h2 : cs[2]? = some (.int .u64 calls)) (hc : calls ≤ 1090) (hT : Tab w) : Calls Tryz.prog 181 #[.pointer (some ⟨g, 1, none⟩)] w fun e w' => e = .returned (.int .u64 ((2 * (ch : Int)) + (1 + 2 * ((q : Int) - 1)))) ∧ Below w.heap.size w w' := by
  have hc1 : w.cell? ⟨g, 1, none⟩ = some (.int .u64 ch) := (hB.cell 1).trans h1
  have ha := arity166 (.int .u64 ch)
  have han := arity166n (.int .u64 ch)
  have hN : 1 ≤ q ∧ q ≤ 2048 := by
    have := np2_bound (1 + calls) (by omega) (by omega)
    omega
  have H := hide (And.intro hB (And.intro h2 hT))
  have hq := hide hq
  clear hB h2 hT
  go_enter Tryz.func181, Tryz.ntmps181
  go_wp2_with fail
  refine (gad195 ch _ hch).mono ?_
  rintro e w1 ⟨rfl, hbl⟩
  go_wp2_with fail
  refine (poly184 bt g ch calls q hq.out cs _ (H.out.1.below hbl H.out.1.lt) h1 H.out.2.1 hc (H.out.2.2.below hbl)).mono ?_
  rintro e w2 ⟨rfl, hb2⟩
  have HB := hide (hbl.trans (hb2.mono hbl.size))
  clear hb2
  go_wp2
  go_ret
  exact ⟨rfl, HB.out⟩
end Go.Proofs.YtkacahdogfchfaaGreatDoor
