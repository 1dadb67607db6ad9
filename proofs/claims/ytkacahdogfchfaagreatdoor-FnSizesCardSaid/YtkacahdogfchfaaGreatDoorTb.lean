/-
  What the row gives the walk: the table of math/bits by its shape, the error variables by the list. Conditions: the row s own.
-/
import Derived.Test.YtkacahdogfchfaaGreatDoorO
import Derived.Stop.LaidErr
namespace Go.Proofs.YtkacahdogfchfaaGreatDoor
open Go.ChangeShapes Go.WideShapes Go.ChangeAt Go.RowKit
theorem tab_row : (((begin Tryz.prog (fun _ _ => 0) default).world.heap[18]?).bind Obj.row?).map (fun r => (r.1.size, r.2)) = some (64, 265) := by kernel_rfl
theorem tab_types : (Tryz.prog.cellTypes Tryz.prog.depth 265).map (fun ts => ts.all (· == 5)) = some true := by kernel_rfl
theorem tab_builds : Tryz.prog.buildable 265 = true := by kernel_rfl
set_option maxRecDepth 10000 in
theorem tab_of_shaped {W : World} (h : W.ShapedOpen Tryz.prog) : Tab W := by
  obtain ⟨h1, _⟩ := h
  obtain ⟨⟨zero, t⟩, hr, he⟩ := Option.map_eq_some_iff.1 tab_row
  obtain ⟨hz, rfl⟩ := Prod.mk.inj he
  obtain ⟨cs, hc, hs, hok⟩ := h1 18 zero 265 (of_decide_eq_true (by kernel_rfl)) hr
  obtain ⟨ts, ht, _, hcell⟩ := hok tab_builds
  obtain ⟨ts', ht', ha⟩ := Option.map_eq_some_iff.1 tab_types
  obtain rfl : ts = ts' := Option.some.inj (ht.symm.trans ht')
  intro i hi
  have hi' : i < cs.size := by rw [hs, hz]; exact hi
  obtain ⟨u, hu, hv⟩ := hcell i cs[i] (Array.getElem?_eq_getElem hi')
  have hu5 : u = 5 := by
    have hm := List.mem_of_getElem? hu
    simpa using List.all_eq_true.1 ha u hm
  subst hu5
  have hcl : W.cell? ⟨18, i, none⟩ = some cs[i] := by
    rw [cell_of_row W 18 i cs 265 (0, 0) hc, Array.getElem?_eq_getElem hi']
  generalize cs[i] = v at hv hcl
  unfold Cell.ok at hv
  rw [Tryz.underlying5] at hv
  cases v <;> simp at hv
  rename_i k x
  obtain ⟨rfl, hx⟩ := hv
  have hmin : IntKind.u8.min = 0 := by decide
  have hmax : IntKind.u8.max = 255 := by decide
  simp only [IntKind.has, hmin, hmax] at hx
  exact ⟨x, hcl, hx.1, hx.2⟩
theorem laid_plain : (Rows.fnSizesRow.laid.filter fun x => x.2.handleName?.isSome) = [] := by kernel_rfl
theorem laid_met {W : World} (h : laidMetH Tryz.prog Rows.fnSizesRow.laid W) : laidMet Tryz.prog Rows.fnSizesRow.laid W := by
  unfold laidMetH at h
  rw [laid_plain] at h
  exact h
/-- The head of the list, an error read through: the variable holds an interface value that is not nil. -/
theorem err_at {n nm : String} {d : DataW Unit} {r : List (String × DataW Unit)} {W : World} {g : Nat} (h : laidMet Tryz.prog ((n, .iface nm d) :: r) W) (hg : Tryz.prog.globalNamed n = some g) (ht : (Tryz.prog.globals[g]?).map (·.type) = some 54) : ErrAt W g := by
  obtain ⟨ps, ⟨g0, t0, cs0, f0, p0, q0, hg0, ht0, hv0, hd0, _, _⟩, _, _⟩ := h
  obtain rfl := Option.some.inj (hg.symm.trans hg0)
  obtain rfl := Option.some.inj (ht.symm.trans ht0)
  obtain ⟨_, u, v, hcs, _, _⟩ := iface_of_trod Tryz.underlying54 hd0
  have hc := World.var?_cell hg0 hv0 0
  obtain ⟨l0⟩ := cs0
  obtain rfl : l0 = [.iface u v] := hcs
  exact ⟨u, v, hc⟩
theorem gn2 : Tryz.prog.globalNamed "loop.example/pub-voteroads/pub/circlprio3.ErrNumShares" = some 2 := by kernel_rfl
theorem gt2 : (Tryz.prog.globals[2]?).map (·.type) = some 54 := by kernel_rfl
theorem gn0 : Tryz.prog.globalNamed "loop.example/pub-voteroads/pub/circlhistogram.ErrLength" = some 0 := by kernel_rfl
theorem gt0 : (Tryz.prog.globals[0]?).map (·.type) = some 54 := by kernel_rfl
theorem gn1 : Tryz.prog.globalNamed "loop.example/pub-voteroads/pub/circlhistogram.ErrChunkLength" = some 1 := by kernel_rfl
theorem gt1 : (Tryz.prog.globals[1]?).map (·.type) = some 54 := by kernel_rfl
theorem gn7 : Tryz.prog.globalNamed "loop.example/pub-voteroads/pub/circlmhcv.ErrLength" = some 7 := by kernel_rfl
theorem gt7 : (Tryz.prog.globals[7]?).map (·.type) = some 54 := by kernel_rfl
theorem gn8 : Tryz.prog.globalNamed "loop.example/pub-voteroads/pub/circlmhcv.ErrMaxWeight" = some 8 := by kernel_rfl
theorem gt8 : (Tryz.prog.globals[8]?).map (·.type) = some 54 := by kernel_rfl
theorem gn9 : Tryz.prog.globalNamed "loop.example/pub-voteroads/pub/circlmhcv.ErrChunkLength" = some 9 := by kernel_rfl
theorem gt9 : (Tryz.prog.globals[9]?).map (·.type) = some 54 := by kernel_rfl
theorem gn3 : Tryz.prog.globalNamed "loop.example/pub-voteroads/pub/circlsum.ErrMaxMeasurement" = some 3 := by kernel_rfl
theorem gt3 : (Tryz.prog.globals[3]?).map (·.type) = some 54 := by kernel_rfl
theorem gn4 : Tryz.prog.globalNamed "loop.example/pub-voteroads/pub/circlsumvec.ErrLength" = some 4 := by kernel_rfl
theorem gt4 : (Tryz.prog.globals[4]?).map (·.type) = some 54 := by kernel_rfl
theorem gn5 : Tryz.prog.globalNamed "loop.example/pub-voteroads/pub/circlsumvec.ErrBits" = some 5 := by kernel_rfl
theorem gt5 : (Tryz.prog.globals[5]?).map (·.type) = some 54 := by kernel_rfl
theorem gn6 : Tryz.prog.globalNamed "loop.example/pub-voteroads/pub/circlsumvec.ErrChunkLength" = some 6 := by kernel_rfl
theorem gt6 : (Tryz.prog.globals[6]?).map (·.type) = some 54 := by kernel_rfl
/-- What the row's list gives: each of the ten error variables holds an error. -/
theorem errs {W : World} (h : laidMetH Tryz.prog Rows.fnSizesRow.laid W) : ∀ i, i ≤ 9 → ErrAt W i := by
  have h5 := (laid_met h).tail.tail.tail.tail.tail
  have e2 := err_at h5 gn2 gt2
  have h7 := h5.tail.tail
  have e0 := err_at h7 gn0 gt0
  have h8 := h7.tail
  have e1 := err_at h8 gn1 gt1
  have h9 := h8.tail
  have e7 := err_at h9 gn7 gt7
  have h10 := h9.tail
  have e8 := err_at h10 gn8 gt8
  have h11 := h10.tail
  have e9 := err_at h11 gn9 gt9
  have h13 := h11.tail.tail
  have e3 := err_at h13 gn3 gt3
  have h14 := h13.tail
  have e4 := err_at h14 gn4 gt4
  have h15 := h14.tail
  have e5 := err_at h15 gn5 gt5
  have h16 := h15.tail
  have e6 := err_at h16 gn6 gt6
  intro i hi
  match i, hi with
  | 0, _ => exact e0
  | 1, _ => exact e1
  | 2, _ => exact e2
  | 3, _ => exact e3
  | 4, _ => exact e4
  | 5, _ => exact e5
  | 6, _ => exact e6
  | 7, _ => exact e7
  | 8, _ => exact e8
  | 9, _ => exact e9
  | n + 10, h => exact absurd h (by omega)
end Go.Proofs.YtkacahdogfchfaaGreatDoor
