/-
  Words for a region that draws its order and is walked by hand: an operation that yields under S is taken, its slot written out; a whole struct is read or stored under a letter. Conditions: none beyond each lemma's own premises.
-/
import Derived.Test.YtkacahdogfchfaaGreatDoorKit3
import Derived.Deep.RegionHeld3
namespace Go.Proofs.YtkacahdogfchfaaGreatDoor
open Go.RowKit
section
variable {P : Program} {ops : Array Oper} {Q : Exit → Act → World → Prop} {md : Region.Mode} {S : World → Prop}
theorem take_to {i : Nat} {oi : Oper} (t : Option Tmp) {v : Value} {fuel : Nat} {listed : Array Bool} {a : Act} {w : World} (hi : ops[i]? = some oi)
    (hs : Region.noSelect ops = true) (hf : Region.free md ops listed i = true) (hr : (Region.ready md ops listed).contains i = true)
    (hQ : ∀ c a w, Q (.panic c) (a.put oi.dst v) w → Q (.panic c) a w) (hd : oi.dst = t) (hy : YieldsIf P ops S oi v a) (hS : S w)
    (h : wpAnyH P md ops Q S fuel (listed.setIfInBounds i true) (a.put t v) w) : wpAnyH P md ops Q S (fuel + 1) listed a w := by
  subst hd
  exact wpAnyH_take hi hs hf hr hQ hy hS h
theorem yields_row {op : Oper} {a : Act} (hw : Region.wanted op (yielded ops a.tmps) = true) (ty : TypeId) (x : Operand) (ho : op.op = .load ty x)
    (g : Nat) (hx : a.eval x = .pointer (some ⟨g, 0, none⟩)) (t : TypeId) (cs : Array Value) (d : TypeDesc) (hS : ∀ w, S w → Blk w g t cs)
    (hu : P.underlying ty = some d) (hd : (match d with | .struct _ | .array _ _ => true | _ => false) = true) (hi : (P.info? ty).map (·.size) = some cs.size) : YieldsIf P ops S op (.agg cs) a :=
  .inl ⟨hw, fun w hw' => by
    unfold execOp
    simp only [ho, hx, Instr.loadAt, Instr.sureAddr, Sem.run_bind, Sem.run_pure, Result.andThen_ok, run_loadVar_row w g t ty cs (0, 0) d (hS w hw') hu hd hi]⟩
/-- The store of a whole struct into a block that was just made. -/
theorem run_put_new {w : World} {t : TypeId} (c cs : Array Value) (hn : c.size = cs.size) (h1 : Ones cs) : Sem.run P (storeCells ⟨w.heap.size, 0, none⟩ cs.toList) (w.alloc (.cells c t)) = .ok () (w.alloc (.cells cs t)) := by
  rw [run_put_row (P := P) (Blk.new w t c) cs hn h1, World.setRow_alloc_new]
end
theorem below_alloc_self {a w : World} (o : Obj) (h : Below a.heap.size a w) : Below a.heap.size a (w.alloc o) := h.alloc h.size o
theorem below_more {a w w' : World} (h : Below a.heap.size a w) (hb : Below w.heap.size w w') : Below a.heap.size a w' := h.trans (hb.mono h.size)
end Go.Proofs.YtkacahdogfchfaaGreatDoor
