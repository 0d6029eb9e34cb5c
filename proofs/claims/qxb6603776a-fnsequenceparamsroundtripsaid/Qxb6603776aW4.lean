import Derived.Test.Qxb6603776aW1
import Derived.Test.Qxb6603776aW3
import Derived.WalkSmall
import Derived.Laws.ResultCell
namespace Go.Proofs.Qxb6603776a
open Go.RowKit
set_option linter.unusedVariables false
set_option linter.unusedSimpArgs false

theorem below_setRow {B : Nat} {a w : World} {g : Nat} {cs : Array Value} (h : Below B a w) (hg : B ≤ g) : Below B a (w.setRow g cs) :=
  h.trans ⟨rfl, rfl, rfl, by simp, fun k hk => setRow_other w g k cs (by omega)⟩

section
variable {ops : Array Oper} {rest : List Oper} {op : Oper} {a : Act} {w : World} {Q : Exit → Act → World → Prop}
/-- The whole struct into a block of the call's own. -/
theorem wl_store_at (T : TypeId) (hi : (Try.prog.info? T).map (·.size) = some 37)
    (hgd : op.guard = none) (x y : Operand) (ho : op.op = .store T x y) (g : Nat) (hx : a.eval x = .pointer (some ⟨g, 0, none⟩)) (s : PS) (hy : a.eval y = .agg s.cells)
    (c : Array Value) (t : TypeId) (hg : w.heap[g]? = some (.cells c t (0, 0))) (hc : c.size = 37)
    (h : wpList Try.prog ops Q rest (a.put op.dst undef) (w.setRow g s.cells)) : wpList Try.prog ops Q (op :: rest) a w := by
  refine wpList_plain hgd fun K hK => ?_
  unfold Oper.wp execOp
  simp only [ho, hx, hy, Instr.storeAt, Instr.sureAddr, Sem.run_bind, run_storeVar_row w g t T c s.cells hg (by rw [hi, PS.cells_size]) (by rw [hc, PS.cells_size]) (one_cells s), Sem.run_pure, Result.andThen_ok]
  exact hK _ _ h
end

theorem results_row_tmp {fn : Func} {p u : Tmp} {ty : TypeId} (h : fn.results = #[.cell p ty, .tmp u]) (tmps : Array Value) (w : World) (g : Nat) (t : TypeId) (s : PS) (v : Value)
    (hp : tmps.getD p undef = .pointer (some ⟨g, 0, none⟩)) (hv : tmps.getD u undef = v) (hg : w.heap[g]? = some (.cells s.cells t (0, 0)))
    (hT : ∃ d, Try.prog.underlying ty = some d ∧ d.isRow = true) (hi : (Try.prog.info? ty).map (·.size) = some 37) :
    (results fn tmps).run Try.prog w = .ok (.tuple #[.agg s.cells, v]) w := by
  obtain ⟨d, hu, hd⟩ := hT
  rw [results_cell_tmp h, hp, hv]
  simp [asAddr, run_loadVar_row w g t ty s.cells (0, 0) d hg hu (by cases d <;> simp_all [TypeDesc.isRow]) (by rw [hi, PS.cells_size])]

set_option maxHeartbeats 400000 in
theorem ZZEscapeByte_any (s : PS) (c : Int) (w : World) (n1 : 0 ≤ s.nin) (n2 : s.nin ≤ 3) :
    Calls Try.prog 11 #[.agg s.cells, .int .u8 c] w fun e w' => e = .returned (.tuple #[.agg (s.escByte c).cells, .int .u8 (s.escKind c)]) ∧ Below w.heap.size w w' := by
  go_enter Try.func11, Try.ntmps11
  have h0 : ∀ O, ((w.alloc (.cells s.cells 29)).alloc O).heap[w.heap.size]? = some (.cells s.cells 29) := fun O => heap_alloc2_old w _ O
  go_wp2_with (first
    | ((with_reducible refine wl_load 29 isRow29 size29 rfl _ rfl _ ?hx s 29 (h0 _) ?_); (case hx => rfl))
    | (go_at_call 22; refine (zzToParser_any s _).mono ?_; rintro e w1 ⟨rfl, hb1⟩)
    | ((with_reducible refine wl_store 49 size49 rfl _ _ rfl ?g ?hx s ?hy ?c ?W ?hW ?hw ?hc ?_); (case hx => rfl); (case hy => rfl); (case hW => rfl); (case hw => simp); (case hc => simp)))
  obtain ⟨z, hz, hzs⟩ : ∃ z : Array Value, w1.heap[w.heap.size + 1]? = some (.cells z 29) ∧ z.size = 37 :=
    ⟨_, (hb1.block (w.heap.size + 1) (by simp)).trans (heap_alloc2_new w _ _), by simp⟩
  have hsz : w.heap.size + 2 ≤ w1.heap.size := by have := hb1.size; simpa using this
  have hbw : Below w.heap.size w w1 := (((Below.refl _ _).alloc (Nat.le_refl _) _).alloc (by simp) _).trans (hb1.mono (by simp; omega))
  clear hb1 h0
  have hg2 : ∀ n, ((w1.alloc (.cells (s.escByte c).cells 49)).drewN n).heap[w1.heap.size]? = some (.cells (s.escByte c).cells 49) := fun n => heap_alloc_last w1 _
  have hg3 : ∀ n w3, Below ((w1.alloc (.cells (s.escByte c).cells 49)).drewN n).heap.size ((w1.alloc (.cells (s.escByte c).cells 49)).drewN n) w3 →
      w3.heap[w.heap.size + 1]? = some (.cells z 29) ∧ Below w.heap.size w w3 := fun n w3 hb3 =>
    ⟨(hb3.block (w.heap.size + 1) (by simp; omega)).trans ((Below.heap_alloc w1 _ (w.heap.size + 1) (by omega)).trans hz),
     (hbw.alloc (by omega) _).trans ((below_drewN (Below.refl _ _) n).trans (hb3.mono (by simp; omega)))⟩
  go_wp2_with (first
    | (go_at_call 23; refine (escapeByte_any s c w1 n1 n2).mono ?_; rintro e w2 ⟨rfl, n, rfl⟩)
    | (go_at_call 24; refine (zzFromParser_any (s.escByte c) _ w1.heap.size (hg2 _)).mono ?_; rintro e w3 ⟨rfl, hb3⟩; obtain ⟨hz3, hbw3⟩ := hg3 n w3 hb3)
    | ((with_reducible refine wl_store_at 29 size29 rfl _ _ rfl _ ?hx (s.escByte c) ?hy z 29 hz3 hzs ?_); (case hx => rfl); (case hy => rfl)))
  refine bodyPost_ret (v := .tuple #[.agg (s.escByte c).cells, .int .u8 (s.escKind c)]) ?_ rfl ⟨rfl, below_setRow hbw3 (by omega)⟩
  exact results_row_tmp Try.results11 _ _ (w.heap.size + 1) 29 (s.escByte c) _ rfl rfl (setRow_heap w3 (w.heap.size + 1) z _ 29 _ hz3) isRow29 size29
end Go.Proofs.Qxb6603776a
