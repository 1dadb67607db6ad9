/-
  The input opened: seven cells and the bytes of the context. Conditions: the input reads, and is of its shape.
-/
import Derived.Test.YtkacahdogfchfaaGreatDoorCards
import Derived.Test.YtkacahdogfchfaaGreatDoorLaw
import Derived.ProofKit
import Derived.Deep.Slices
namespace Go.Proofs.YtkacahdogfchfaaGreatDoor
open Go.ChangeShapes Go.WideShapes Go.ChangeAt Go.RowKit Go.Deep
theorem size_seven (l : List Value) (h : l.length = 7) : ∃ a0 a1 a2 a3 a4 a5 a6, l = [a0, a1, a2, a3, a4, a5, a6] := by
  match l, h with
  | [a0, a1, a2, a3, a4, a5, a6], _ => exact ⟨_, _, _, _, _, _, _, rfl⟩
theorem cells25 : Tryz.prog.cellsOf 25 = 7 := by kernel_rfl
theorem cells3 : Tryz.prog.cellsOf 3 = 1 := by kernel_rfl
theorem cells22 : Tryz.prog.cellsOf 22 = 1 := by kernel_rfl
theorem cells23 : Tryz.prog.cellsOf 23 = 1 := by kernel_rfl
theorem cells5 : Tryz.prog.cellsOf 5 = 1 := by kernel_rfl
set_option maxRecDepth 10000 in
theorem open25 {H : Type} {enc : TypeId × Value → H} {W : World} {b0 base : Nat} {spare : Nat → Bool} {held : Bool} {v : Value} {d : DataW H} {p : List MemPlace} (hv : Value.okWide Tryz.prog W .any b0 25 v) (h : DataW.Trod enc Tryz.prog W base spare held 25 v d p) :
    ∃ (k s l b c m : Int) (A : Option Addr) (n cp : Nat), v = .agg #[.int .i64 k, .int .i64 s, .int .i64 l, .int .i64 b, .int .i64 c, .int .u64 m, .slice A n cp] ∧ 0 ≤ m ∧ Bytes W A n := by
  obtain ⟨cs, rfl, hsz⟩ := okWide_struct Tryz.underlying25 hv
  rw [cells25] at hsz
  obtain ⟨l⟩ := cs
  obtain ⟨a0, a1, a2, a3, a4, a5, a6, rfl⟩ := size_seven l (by simpa using hsz)
  obtain ⟨fuel, hf⟩ := h
  obtain ⟨xs, n, _, hx, _, hlen, hg⟩ := DataW.trod_struct Tryz.underlying25 hf
  obtain ⟨y0, hy0⟩ : ∃ y, xs[0]? = some y := ⟨xs[0]'(by rw [hlen]; decide), List.getElem?_eq_getElem _⟩
  have g0 := (hg 0 _ rfl).trans hy0
  obtain ⟨y1, hy1⟩ : ∃ y, xs[1]? = some y := ⟨xs[1]'(by rw [hlen]; decide), List.getElem?_eq_getElem _⟩
  have g1 := (hg 1 _ rfl).trans hy1
  obtain ⟨y2, hy2⟩ : ∃ y, xs[2]? = some y := ⟨xs[2]'(by rw [hlen]; decide), List.getElem?_eq_getElem _⟩
  have g2 := (hg 2 _ rfl).trans hy2
  obtain ⟨y3, hy3⟩ : ∃ y, xs[3]? = some y := ⟨xs[3]'(by rw [hlen]; decide), List.getElem?_eq_getElem _⟩
  have g3 := (hg 3 _ rfl).trans hy3
  obtain ⟨y4, hy4⟩ : ∃ y, xs[4]? = some y := ⟨xs[4]'(by rw [hlen]; decide), List.getElem?_eq_getElem _⟩
  have g4 := (hg 4 _ rfl).trans hy4
  obtain ⟨y5, hy5⟩ : ∃ y, xs[5]? = some y := ⟨xs[5]'(by rw [hlen]; decide), List.getElem?_eq_getElem _⟩
  have g5 := (hg 5 _ rfl).trans hy5
  obtain ⟨y6, hy6⟩ : ∃ y, xs[6]? = some y := ⟨xs[6]'(by rw [hlen]; decide), List.getElem?_eq_getElem _⟩
  have g6 := (hg 6 _ rfl).trans hy6
  simp [Value.cells, cells3] at g0 g1 g2 g3 g4
  simp [Value.cells, cells22] at g5
  simp [Value.cells, cells23] at g6
  obtain ⟨n0, e0, _, w0⟩ := DataW.trod_int Tryz.underlying3 g0
  obtain rfl : a0 = _ := (List.cons.inj e0).1
  obtain ⟨n1, e1, _, w1⟩ := DataW.trod_int Tryz.underlying3 g1
  obtain rfl : a1 = _ := (List.cons.inj e1).1
  obtain ⟨n2, e2, _, w2⟩ := DataW.trod_int Tryz.underlying3 g2
  obtain rfl : a2 = _ := (List.cons.inj e2).1
  obtain ⟨n3, e3, _, w3⟩ := DataW.trod_int Tryz.underlying3 g3
  obtain rfl : a3 = _ := (List.cons.inj e3).1
  obtain ⟨n4, e4, _, w4⟩ := DataW.trod_int Tryz.underlying3 g4
  obtain rfl : a4 = _ := (List.cons.inj e4).1
  obtain ⟨n5, e5, _, w5⟩ := DataW.trod_int Tryz.underlying22 g5
  obtain rfl : a5 = _ := (List.cons.inj e5).1
  have hm0 : 0 ≤ n5 := by
    simp only [Lit.wf, Bool.and_eq_true, decide_eq_true_eq] at w5
    exact w5.1
  rcases open_slice1 Tryz.underlying23 cells5 g6 with ⟨e6, _⟩ | ⟨a, len, cap, mm, nn, V, D, Pl, e6, _, hl, _, hmm, _, hV⟩
  · obtain rfl : a6 = _ := (List.cons.inj e6).1
    exact ⟨n0, n1, n2, n3, n4, n5, none, 0, 0, rfl, hm0, .inl rfl⟩
  · obtain rfl : a6 = _ := (List.cons.inj e6).1
    refine ⟨n0, n1, n2, n3, n4, n5, some a, len, cap, rfl, hm0, ?_⟩
    have hle : len ≤ mm := by rw [hmm]; split <;> omega
    by_cases hz : len = 0
    · exact .inl hz
    refine .inr ⟨a, rfl, ?_, (List.range len).map V, by simp, fun j u hu => ?_, fun u hu => ?_⟩
    · have := World.block_lt_of_cell? W (a.add 0) (hV 0 (by omega)).1
      rwa [addr_add_block] at this
    · rw [List.getElem?_map, Option.map_eq_some_iff] at hu
      obtain ⟨i, hi, rfl⟩ := hu
      obtain ⟨hlt, rfl⟩ := List.getElem?_eq_some_iff.1 hi
      simp only [List.getElem_range]
      simp only [List.length_range] at hlt
      exact (hV j (by omega)).1
    · obtain ⟨i, hi, rfl⟩ := List.mem_map.1 hu
      rw [List.mem_range] at hi
      obtain ⟨x, ex, _, _⟩ := DataW.trod_int Tryz.underlying5 (hV i (by omega)).2
      rw [(List.cons.inj ex).1]
      rfl
end Go.Proofs.YtkacahdogfchfaaGreatDoor
