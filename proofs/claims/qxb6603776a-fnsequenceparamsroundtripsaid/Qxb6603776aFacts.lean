import Derived.Test.Qxb6603776aLaws2
namespace Go.Proofs.Qxb6603776a
open Go.RowKit
set_option linter.unusedVariables false

theorem pre_facts {s r : PS} {w w1 w2 w3 : World} (hb1 : Below (w.alloc (Obj.cells s.cells 28)).heap.size (w.alloc (Obj.cells s.cells 28)) w1) (hb2 : Below w1.heap.size w1 w2)
    (hb3 : Below (w2.alloc (Obj.cells r.cells 29)).heap.size (w2.alloc (Obj.cells r.cells 29)) w3) :
    w3.heap[w.heap.size]? = some (.cells s.cells 28) ∧ w.heap.size < w3.heap.size ∧ Below w.heap.size w w3 := by
  have z1 := hb1.size
  have z2 := hb2.size
  have z3 := hb3.size
  simp at z1 z3
  refine ⟨?_, by omega, ?_⟩
  · rw [hb3.block _ (by simp; omega), Below.heap_alloc _ _ _ (by omega), hb2.block _ (by omega), hb1.block _ (by simp)]
    exact heap_alloc_last w _
  · exact ((Below.refl _ _).alloc (Nat.le_refl _) _).trans ((hb1.mono (by simp)).trans ((hb2.mono (by omega)).trans (((Below.refl _ _).alloc (by omega) _).trans (hb3.mono (by simp; omega)))))
theorem mid_facts {s r : PS} {w w3 w4 : World} (h3 : w3.heap[w.heap.size]? = some (.cells s.cells 28)) (hb : Below w.heap.size w w3)
    (hb4 : Below (w3.alloc (Obj.cells r.cells 28)).heap.size (w3.alloc (Obj.cells r.cells 28)) w4) :
    w4.heap[w.heap.size]? = some (.cells s.cells 28) ∧ w4.heap[w3.heap.size]? = some (.cells r.cells 28) ∧ Below w.heap.size w w4 := by
  have z := heap_lt h3
  refine ⟨?_, ?_, ?_⟩
  · rw [hb4.block _ (by simp; omega), Below.heap_alloc _ _ _ (by omega)]
    exact h3
  · rw [hb4.block _ (by simp)]
    exact heap_alloc_last w3 _
  · exact (hb.alloc (by omega) _).trans (hb4.mono (by simp; omega))

end Go.Proofs.Qxb6603776a
