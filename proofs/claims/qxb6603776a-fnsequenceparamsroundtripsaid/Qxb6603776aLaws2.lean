import Derived.Test.Qxb6603776aW6
import Derived.BigFrame
namespace Go.Proofs.Qxb6603776a
open Go.RowKit

section
variable {ops : Array Oper} {rest : List Oper} {op : Oper} {a : Act} {w : World} {Q : Exit → Act → World → Prop}

/-- The three intermediate bytes, by value, behind a guard. -/
theorem wg_load24 (x : Operand) (ho : op.op = .load 24 x) (hw : Region.wanted op (yielded ops a.tmps) = true) (g : Nat) (hx : a.eval x = .pointer (some ⟨g, 4, none⟩)) (s : PS) (t : TypeId)
    (hg : w.heap[g]? = some (.cells s.cells t (0, 0))) (h : wpList Try.prog ops Q rest (a.put op.dst (.agg s.interC)) w) : wpList Try.prog ops Q (op :: rest) a w := by
  have hr := World.rangeAt_of_block hg 4 3
  rw [show 4 + 3 = 7 from rfl, PS.eI] at hr
  refine wpList_step fun K hK => ?_
  rw [if_pos hw]
  exact wp_load_mid 24 x ho g 4 hx _ _ hr Try.underlying24 rfl (by rw [size24]; simp [PS.interC_size]) (hK _ _ (by simpa using h))
theorem wg_load25 (x : Operand) (ho : op.op = .load 25 x) (hw : Region.wanted op (yielded ops a.tmps) = true) (g : Nat) (hx : a.eval x = .pointer (some ⟨g, 8, none⟩)) (s : PS) (t : TypeId)
    (hg : w.heap[g]? = some (.cells s.cells t (0, 0))) (h : wpList Try.prog ops Q rest (a.put op.dst (.agg s.paramsC)) w) : wpList Try.prog ops Q (op :: rest) a w := by
  have hr := World.rangeAt_of_block hg 8 23
  rw [show 8 + 23 = 31 from rfl, PS.eP] at hr
  refine wpList_step fun K hK => ?_
  rw [if_pos hw]
  exact wp_load_mid 25 x ho g 8 hx _ _ hr Try.underlying25 rfl (by rw [size25]; simp [PS.paramsC_size]) (hK _ _ (by simpa using h))
end

/-- The single cells of a block that holds a Parser's 37. -/
theorem cells_of {W : World} {g : Nat} {s : PS} {t : TypeId} (h : W.heap[g]? = some (.cells s.cells t (0, 0))) :
    W.cell? ⟨g, 0, none⟩ = some (.int .u8 s.st) ∧ W.cell? ⟨g, 1, none⟩ = some (.bool s.dis) ∧ W.cell? ⟨g, 2, none⟩ = some (.bool s.frn) ∧ W.cell? ⟨g, 3, none⟩ = some (.int .u8 s.fin) ∧
    W.cell? ⟨g, 7, none⟩ = some (.int .u8 s.nin) ∧ W.cell? ⟨g, 31, none⟩ = some (.int .u8 s.np) ∧ W.cell? ⟨g, 32, none⟩ = some (.int .u32 s.col) ∧ W.cell? ⟨g, 33, none⟩ = some (.int .u8 s.pb) ∧
    W.cell? ⟨g, 34, none⟩ = some (.int .i64 s.cur) ∧ W.cell? ⟨g, 35, none⟩ = some (.bool s.inc) ∧ W.cell? ⟨g, 36, none⟩ = some (.bool s.ovf) := by
  have k : ∀ j, W.cell? ⟨g, j, none⟩ = s.cells[j]? := fun j => cell_of_row W g j s.cells t (0, 0) h
  simp only [k, PS.c0, PS.c1, PS.c2, PS.c3, PS.c7, PS.c31, PS.c32, PS.c33, PS.c34, PS.c35, PS.c36, and_self]
theorem cell_at {W : World} {g : Nat} {s : PS} {t : TypeId} (h : W.heap[g]? = some (.cells s.cells t (0, 0))) (j : Nat) : W.cell? ⟨g, j, none⟩ = s.cells[j]? :=
  cell_of_row W g j s.cells t (0, 0) h
theorem heap_lt {W : World} {g : Nat} {o : Obj} (h : W.heap[g]? = some o) : g < W.heap.size := by
  by_cases h' : g < W.heap.size
  · exact h'
  · simp [Array.getElem?_eq_none (Nat.le_of_not_lt h')] at h
theorem ten24 (s : PS) (w : World) : (Op.equalIn 10000 24 (.agg s.interC) (.agg s.interC)).run Try.prog w = .ok true w := eqIn24 9998 s w
theorem ten25 (s : PS) (w : World) : (Op.equalIn 10000 25 (.agg s.paramsC) (.agg s.paramsC)).run Try.prog w = .ok true w := eqIn25 9998 s w
theorem ten28 (s : PS) (w : World) : (Op.equalIn 10000 28 (.agg s.cells) (.agg s.cells)).run Try.prog w = .ok true w := by
  have h := eq28 s w
  rw [run_eql_struct] at h
  cases hq : (Op.equalIn 10000 28 (.agg s.cells) (.agg s.cells)).run Try.prog w with
  | ok b w' => rw [hq] at h; simp at h; simp [h]
  | halt x w' => rw [hq] at h; simp [Result.andThen] at h
end Go.Proofs.Qxb6603776a
