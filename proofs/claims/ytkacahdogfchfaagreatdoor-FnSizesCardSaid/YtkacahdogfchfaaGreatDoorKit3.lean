/-
  More words for the walks of FnSizes: the struct Prio3 while prio3.New fills it, and a whole struct that is read in a region that draws its order. Conditions: none beyond each lemma's own premises.
-/
import Derived.Test.YtkacahdogfchfaaGreatDoorKit2
namespace Go.Proofs.YtkacahdogfchfaaGreatDoor
open Go.RowKit
theorem run_get_row {P : Program} {w : World} {g : Nat} {t : TypeId} {cs : Array Value} (h : Blk w g t cs) (n : Nat) (hn : cs.size = n) : (loadCellsFrom ⟨g, 0, none⟩ 0 n #[]).run P w = .ok cs w := by
  subst hn
  have := run_loadCells_list (P := P) w ⟨g, 0, none⟩ cs.toList (fun j v hv => by
    have hadd : (⟨g, 0, none⟩ : Addr).add j = ⟨g, j, none⟩ := by unfold Addr.add; split <;> simp_all
    rw [hadd, h.cell]
    simpa using hv)
  simpa [loadCells] using this
/-- The load of a whole struct, as one step of a region that draws its order. -/
theorem step_load_row {P : Program} {ops : Array Oper} {o : Oper} {a : Act} {w : World} {K : Act → World → Prop} {Q : Exit → Act → World → Prop} {E : Prop}
    (hgd : o.guard = none) (ty : TypeId) (x : Operand) (ho : o.op = .load ty x) (t : Option Tmp) (hdst : o.dst = t) (g : Nat) (hx : a.eval x = .pointer (some ⟨g, 0, none⟩)) (b : TypeId) (cs : Array Value) (d : TypeDesc) (hB : Blk w g b cs)
    (hu : P.underlying ty = some d) (hd : (match d with | .struct _ | .array _ _ => true | _ => false) = true) (hi : (P.info? ty).map (·.size) = some cs.size)
    (h : K (a.put t (.agg cs)) w) : if Region.wanted o (yielded ops a.tmps) = true then Oper.wp P o a w K Q else E := by
  have hw : Region.wanted o (yielded ops a.tmps) = true := by simp [Region.wanted, hgd]
  rw [if_pos hw]
  subst hdst
  exact wp_load_row ty x ho g hx b cs (0, 0) d hB hu hd hi h
theorem Blk.setCells_keep {g : Nat} {t : TypeId} : ∀ (vs : List Value) (o : Nat) (w : World) (cs : Array Value), Blk w g t cs → Ones cs → (∀ v ∈ vs, v.oneCell' = true) →
    ∃ cs', Blk (w.setCells g o vs) g t cs' ∧ cs'.size = cs.size ∧ Ones cs' ∧ ∀ i, i < o → cs'[i]? = cs[i]? := by
  intro vs
  induction vs with
  | nil => intro o w cs h h1 _; exact ⟨cs, h, rfl, h1, fun _ _ => rfl⟩
  | cons v r ih =>
    intro o w cs h h1 hv
    obtain ⟨cs', h', hs', ho', hk⟩ := ih (o + 1) _ _ (h.set_ o v) (h1.set_ o (hv v (by simp))) (fun x hx => hv x (by simp [hx]))
    exact ⟨cs', h', by simpa using hs', ho', fun i hi => (hk i (by omega)).trans (by rw [Array.getElem?_setIfInBounds_ne (by omega)])⟩

/-- WHAT prio3.New KEEPS: its variable (block b, type t, 205 cells) of the cells cs. -/
structure PS (w0 w : World) (t : TypeId) (b : Nat) (cs : Array Value) : Prop where
  below : Below w0.heap.size w0 w
  hb : w0.heap.size ≤ b
  blk : Blk w b t cs
  size : cs.size = 205
  ones : Ones cs
section
variable {w0 w w' : World} {t : TypeId} {b : Nat} {cs : Array Value}
theorem PS.set_ (h : PS w0 w t b cs) (i : Nat) {v : Value} (hv : v.oneCell' = true) : PS w0 (w.setCell ⟨b, i, none⟩ v) t b (cs.setIfInBounds i v) :=
  ⟨h.below.setCell (p := ⟨b, i, none⟩) h.hb v, h.hb, h.blk.set_ i v, by simpa using h.size, h.ones.set_ i hv⟩
theorem PS.more (h : PS w0 w t b cs) (hb : Below w.heap.size w w') : PS w0 w' t b cs :=
  ⟨h.below.trans (hb.mono h.below.size), h.hb, h.blk.below hb h.blk.lt, h.size, h.ones⟩
theorem PS.drew (h : PS w0 w t b cs) : PS w0 w.drew t b cs := ⟨h.below.drew, h.hb, h.blk.drew, h.size, h.ones⟩
theorem PS.cell1 (h : PS w0 w t b cs) (i : Nat) (hi : i < 205) : ∃ v, w.cell? ⟨b, i, none⟩ = some v :=
  ⟨cs[i]'(by rw [h.size]; exact hi), by rw [h.blk.cell, Array.getElem?_eq_getElem]⟩
theorem PS.frozen (h : PS w0 w t b cs) (i : Nat) : w.frozen? ⟨b, i, none⟩ = false := h.blk.frozen i
theorem PS.setCells (h : PS w0 w t b cs) (o : Nat) (xs : Array Value) (h1 : Ones xs) : ∃ cs', PS w0 (w.setCells b o xs.toList) t b cs' ∧ ∀ i, i < o → cs'[i]? = cs[i]? := by
  obtain ⟨cs', h', hs', ho', hk⟩ := Blk.setCells_keep xs.toList o w cs h.blk h.ones (fun v hv => (Array.all_eq_true_iff_forall_mem.1 h1) v (by simpa using hv))
  exact ⟨cs', ⟨below_setCells h.below h.hb _ _, h.hb, h', hs'.trans h.size, ho'⟩, hk⟩
theorem PS.setRow (h : PS w0 w t b cs) : PS w0 (w.setRow b cs) t b cs := ⟨below_setRow h.below h.hb _, h.hb, h.blk.setRow cs, h.size, h.ones⟩
end
/-- A filled Prio3 struct: its flp, its two last cells. -/
structure P3 (cs : Array Value) (g : Nat) (rand sh : Int) : Prop where
  size : cs.size = 205
  ones : Ones cs
  flp : cs[0]? = some (.pointer (some ⟨g, 0, none⟩))
  rand : cs[203]? = some (.int .u64 rand)
  sh : cs[204]? = some (.int .u8 sh)
end Go.Proofs.YtkacahdogfchfaaGreatDoor
