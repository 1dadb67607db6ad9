/-
  More words on memory for the walks of FnSizes: fields without cells. Conditions: none beyond each lemma's own premises.
-/
import Derived.Test.YtkacahdogfchfaaGreatDoorKit
import Derived.WalkKit
namespace Go.Proofs.YtkacahdogfchfaaGreatDoor
open Go.RowKit
/-- The address of a field without cells, at the head of a struct: the struct's own. -/
theorem run_partAt {P : Program} {w : World} {b : Nat} {t : TypeId} {cs : Array Value} (h : Blk w b t cs) (o q : Nat) (hs : P.cellsOf t ≠ 0) (hq : byteOfCell P P.depth t (o % P.cellsOf t) = some q) :
    Sem.run P (partAt ⟨b, o, none⟩ 0 0) w = .ok ⟨b, o, none⟩ w := by
  have hsh : w.shape? b = some (t, cs.size) := by
    unfold Blk at h
    simp [World.shape?, h]
  have hby : Sem.run P (byteOf ⟨b, o, none⟩) w = .ok (o / P.cellsOf t * P.bytesOf t + q) w := by
    simp [byteOf, noView, viewAt, shape, program, Sem.run, hsh, hs, hq]
  simp [partAt, hby]
end Go.Proofs.YtkacahdogfchfaaGreatDoor
