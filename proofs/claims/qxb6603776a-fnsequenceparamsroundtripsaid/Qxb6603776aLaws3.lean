import Derived.Test.Qxb6603776aW7
import Derived.Deep.OwnRows
import Derived.LoopTactic
import Derived.RegionTactic
import Derived.Orders
namespace Go.Proofs.Qxb6603776a
open Go.RowKit
set_option linter.unusedVariables false
set_option linter.unusedSimpArgs false
theorem info5' : (Try.prog.info? 5).map (fun i => (i.zero, i.size, i.bytes)) = some (some (.int .u8 0), 1, 1) := by kernel_rfl
theorem zero_cells : (#[.int .u8 0, .bool false, .bool false, .int .u8 0, .int .u8 0, .int .u8 0, .int .u8 0, .int .u8 0, .int .i32 0, .int .i32 0, .int .i32 0, .int .i32 0, .int .i32 0, .int .i32 0, .int .i32 0, .int .i32 0, .int .i32 0, .int .i32 0, .int .i32 0, .int .i32 0, .int .i32 0, .int .i32 0, .int .i32 0, .int .i32 0, .int .i32 0, .int .i32 0, .int .i32 0, .int .i32 0, .int .i32 0, .int .i32 0, .int .i32 0, .int .u8 0, .int .u32 0, .int .u8 0, .int .i64 0, .bool false, .bool false] : Array Value) = PS.zero.cells := by kernel_rfl

section
variable {ops : Array Oper} {rest : List Oper} {op : Oper} {a : Act} {w : World} {Q : Exit → Act → World → Prop} {QS : Act → Prop}
/-- The whole struct, by value, in a region that draws its order. -/
theorem ws_load (T : TypeId) (hT : ∃ d, Try.prog.underlying T = some d ∧ d.isRow = true) (hi : (Try.prog.info? T).map (·.size) = some 37)
    (hgd : op.guard = none) (x : Operand) (ho : op.op = .load T x) (g : Nat) (hx : a.eval x = .pointer (some ⟨g, 0, none⟩)) (s : PS) (t : TypeId)
    (hg : w.heap[g]? = some (.cells s.cells t (0, 0))) (h : wpStill Try.prog ops w QS rest (a.put op.dst (.agg s.cells))) : wpStill Try.prog ops w QS (op :: rest) a := by
  obtain ⟨d, hu, hd⟩ := hT
  refine ws_step hgd _ ?_ h
  have := run_loadVar_row (P := Try.prog) w g t T s.cells (0, 0) d hg hu (by cases d <;> simp_all [TypeDesc.isRow]) (by rw [hi, PS.cells_size])
  unfold execOp
  simp only [ho, hx, Instr.loadAt, Instr.sureAddr, Sem.run_bind, this, Sem.run_pure, Result.andThen_ok]
/-- The whole struct, by value, behind a guard. -/
theorem wg_load (T : TypeId) (hT : ∃ d, Try.prog.underlying T = some d ∧ d.isRow = true) (hi : (Try.prog.info? T).map (·.size) = some 37)
    (x : Operand) (ho : op.op = .load T x) (hw : Region.wanted op (yielded ops a.tmps) = true) (g : Nat) (hx : a.eval x = .pointer (some ⟨g, 0, none⟩)) (s : PS) (t : TypeId)
    (hg : w.heap[g]? = some (.cells s.cells t (0, 0))) (h : wpList Try.prog ops Q rest (a.put op.dst (.agg s.cells)) w) : wpList Try.prog ops Q (op :: rest) a w := by
  obtain ⟨d, hu, hd⟩ := hT
  refine wpList_step fun K hK => ?_
  rw [if_pos hw]
  exact wp_load_row T x ho g hx t s.cells (0, 0) d hg hu (by cases d <;> simp_all [TypeDesc.isRow]) (by rw [hi, PS.cells_size]) (hK _ _ h)
/-- The whole struct into a block of the call's own, as one operation. -/
theorem wp_store_at {K : Act → World → Prop} (T : TypeId) (hi : (Try.prog.info? T).map (·.size) = some 37)
    (x y : Operand) (ho : op.op = .store T x y) (d : Option Tmp) (hdst : op.dst = d) (g : Nat) (hx : a.eval x = .pointer (some ⟨g, 0, none⟩)) (s : PS) (hy : a.eval y = .agg s.cells)
    (c : Array Value) (t : TypeId) (hg : w.heap[g]? = some (.cells c t (0, 0))) (hc : c.size = 37)
    (h : K (a.put d undef) (w.setRow g s.cells)) : op.wp Try.prog a w K Q := by
  subst hdst
  unfold Oper.wp execOp
  simp only [ho, hx, hy, Instr.storeAt, Instr.sureAddr, Sem.run_bind, run_storeVar_row w g t T c s.cells hg (by rw [hi, PS.cells_size]) (by rw [hc, PS.cells_size]) (one_cells s), Sem.run_pure, Result.andThen_ok]
  exact h
theorem wp_load_at {K : Act → World → Prop} (T : TypeId) (hT : ∃ d, Try.prog.underlying T = some d ∧ d.isRow = true) (hi : (Try.prog.info? T).map (·.size) = some 37)
    (x : Operand) (ho : op.op = .load T x) (d : Option Tmp) (hdst : op.dst = d) (g : Nat) (hx : a.eval x = .pointer (some ⟨g, 0, none⟩)) (s : PS) (t : TypeId)
    (hg : w.heap[g]? = some (.cells s.cells t (0, 0))) (h : K (a.put d (.agg s.cells)) w) : op.wp Try.prog a w K Q := by
  subst hdst
  obtain ⟨d, hu, hd⟩ := hT
  exact wp_load_row T x ho g hx t s.cells (0, 0) d hg hu (by cases d <;> simp_all [TypeDesc.isRow]) (by rw [hi, PS.cells_size]) h
/-- An operation that yields in whatever world is taken first; its slot named. -/
theorem take_at {P : Program} {i : Nat} {oi : Oper} (d : Option Tmp) (v : Value) {fuel : Nat} {listed : Array Bool} (hi : ops[i]? = some oi) (hdst : oi.dst = d)
    (hs : Region.noSelect ops = true) (hf : Region.free .any ops listed i = true) (hr : (Region.ready .any ops listed).contains i = true)
    (hQ : ∀ c a w, Q (.panic c) (a.put d v) w → Q (.panic c) a w) (hgd : Region.wanted oi (yielded ops a.tmps) = true) (hv : ∀ w, (execOp a.eval oi).run P w = .ok (.value v) w)
    (h : wpAny P .any ops Q fuel (listed.setIfInBounds i true) (a.put d v) w) : wpAny P .any ops Q (fuel + 1) listed a w := by
  subst hdst
  exact wpAny_take hi hs hf hr hQ (Or.inl ⟨hgd, hv⟩) h
/-- The one operation that may come up. -/
theorem step_at {P : Program} {i : Nat} {oi : Oper} {fuel : Nat} {listed : Array Bool} (hi : ops[i]? = some oi) (hgd : oi.guard = none) (hr : Region.ready .any ops listed = [i])
    (h : ∀ K : Act → World → Prop, (∀ a w, wpAny P .any ops Q fuel (listed.setIfInBounds i true) a w → K a w) → oi.wp P a w K Q) : wpAny P .any ops Q (fuel + 1) listed a w :=
  wpAny_ready hr (by simp) (AllReady.cons hi (fun K hK => by rw [if_pos (by simp [Region.wanted, hgd])]; exact h K hK) AllReady.nil)
/-- Two that may come up. -/
theorem step_two {P : Program} {i j : Nat} {oi oj : Oper} {fuel : Nat} {listed : Array Bool} (hi : ops[i]? = some oi) (hj : ops[j]? = some oj) (hgi : oi.guard = none) (hgj : oj.guard = none) (hr : Region.ready .any ops listed = [i, j])
    (h : ∀ K : Act → World → Prop, (∀ a w, wpAny P .any ops Q fuel (listed.setIfInBounds i true) a w → K a w) → oi.wp P a w K Q)
    (h' : ∀ K : Act → World → Prop, (∀ a w, wpAny P .any ops Q fuel (listed.setIfInBounds j true) a w → K a w) → oj.wp P a w K Q) : wpAny P .any ops Q (fuel + 1) listed a w :=
  wpAny_ready hr (by simp) (AllReady.cons hi (fun K hK => by rw [if_pos (by simp [Region.wanted, hgi])]; exact h K hK) (AllReady.cons hj (fun K hK => by rw [if_pos (by simp [Region.wanted, hgj])]; exact h' K hK) AllReady.nil))
/-- Whatever struct of 37 cells into the block that was made last: its cells read off the frame. -/
theorem wl_put (T : TypeId) (hi : (Try.prog.info? T).map (·.size) = some 37)
    (hgd : op.guard = none) (x y : Operand) (ho : op.op = .store T x y) (g : Nat) (hx : a.eval x = .pointer (some ⟨g, 0, none⟩)) (C : Array Value) (hy : a.eval y = .agg C)
    (c : Array Value) (W : World) (hW : w = W.alloc (.cells c T)) (hw : g = W.heap.size) (hc : c.size = 37) (hC : C.size = 37) (h1 : C.all (·.oneCell') = true)
    (h : wpList Try.prog ops Q rest (a.put op.dst undef) (W.alloc (.cells C T))) : wpList Try.prog ops Q (op :: rest) a w := by
  subst hw hW
  refine wpList_plain hgd fun K hK => ?_
  unfold Oper.wp execOp
  simp only [ho, hx, hy, Sem.run_bind, run_storeAt_new W T c C (by rw [hi, hC]) (by rw [hc, hC]) h1, Sem.run_pure, Result.andThen_ok]
  exact hK _ _ h
end
end Go.Proofs.Qxb6603776a
