import Derived.Test.Qxb6603776aW5
import Derived.Test.Qxb6603776aFacts
namespace Go.Proofs.Qxb6603776a
open Go.RowKit
theorem pre_facts2 {s : PS} {w w1 w2 w3 : World} (hb1 : Below (w.alloc (Obj.cells s.cells 28)).heap.size (w.alloc (Obj.cells s.cells 28)) w1) (hb2 : Below w1.heap.size w1 w2)
    (hb3 : Below w2.heap.size w2 w3) :
    w3.heap[w.heap.size]? = some (.cells s.cells 28) ∧ w.heap.size < w3.heap.size ∧ Below w.heap.size w w3 := by
  have z1 := hb1.size
  have z2 := hb2.size
  have z3 := hb3.size
  simp at z1
  refine ⟨?_, by omega, ?_⟩
  · rw [hb3.block _ (by omega), hb2.block _ (by omega), hb1.block _ (by simp)]
    exact heap_alloc_last w _
  · exact ((Below.refl _ _).alloc (Nat.le_refl _) _).trans ((hb1.mono (by simp)).trans ((hb2.mono (by omega)).trans (hb3.mono (by omega))))
end Go.Proofs.Qxb6603776a
