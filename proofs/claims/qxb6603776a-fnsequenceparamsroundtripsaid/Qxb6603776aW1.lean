import Derived.Test.Qxb6603776aLaws
namespace Go.Proofs.Qxb6603776a
open Go.RowKit
attribute [local go_sem] PS.c0 PS.c1 PS.c2 PS.c3 PS.c7 PS.c31 PS.c32 PS.c33 PS.c34 PS.c35 PS.c36

set_option maxHeartbeats 400000 in
theorem toZZ_any (s : PS) (w : World) : Calls Try.prog 10 #[.agg s.cells] w fun e w' => e = .returned (.agg s.cells) ∧ Below w.heap.size w w' := by
  go_enter Try.func10, Try.ntmps10
  have h0 : ∀ O, ((w.alloc (.cells s.cells 28)).alloc O).heap[w.heap.size]? = some (.cells s.cells 28) := fun O => heap_alloc2_old w _ O
  go_wp2_with (first
    | ((with_reducible refine wl_load24 rfl _ rfl _ ?hx s 28 (h0 _) ?_); (case hx => rfl))
    | ((with_reducible refine wl_load25 rfl _ rfl _ ?hx s 28 (h0 _) ?_); (case hx => rfl))
    | ((with_reducible refine wl_build 29 _ rfl rfl s (build29 s) ?hp ?_); (case hp => rfl))
    | ((with_reducible refine wl_store 29 size29 rfl _ _ rfl ?g ?hx s ?hy ?c ?W ?hW ?hw ?hc ?_); (case hx => rfl); (case hy => rfl); (case hW => rfl); (case hw => simp); (case hc => simp)))
  refine bodyPost_ret (v := .agg s.cells) ?_ rfl ⟨rfl, ((Below.refl _ _).alloc (Nat.le_refl _) _).alloc (by simp) _⟩
  exact results_cell_row Try.results10 _ _ _ 29 s.cells (0, 0) _ rfl (heap_alloc2_new w _ _) Try.underlying29 rfl (by rw [size29, PS.cells_size])

set_option maxHeartbeats 400000 in
theorem fromZZ_any (s : PS) (w : World) : Calls Try.prog 12 #[.agg s.cells] w fun e w' => e = .returned (.agg s.cells) ∧ Below w.heap.size w w' := by
  go_enter Try.func12, Try.ntmps12
  have h0 : ∀ O, ((w.alloc (.cells s.cells 29)).alloc O).heap[w.heap.size]? = some (.cells s.cells 29) := fun O => heap_alloc2_old w _ O
  go_wp2_with (first
    | ((with_reducible refine wl_load24 rfl _ rfl _ ?hx s 29 (h0 _) ?_); (case hx => rfl))
    | ((with_reducible refine wl_load25 rfl _ rfl _ ?hx s 29 (h0 _) ?_); (case hx => rfl))
    | ((with_reducible refine wl_build 28 _ rfl rfl s (build28 s) ?hp ?_); (case hp => rfl))
    | ((with_reducible refine wl_store 28 size28 rfl _ _ rfl ?g ?hx s ?hy ?c ?W ?hW ?hw ?hc ?_); (case hx => rfl); (case hy => rfl); (case hW => rfl); (case hw => simp); (case hc => simp)))
  refine bodyPost_ret (v := .agg s.cells) ?_ rfl ⟨rfl, ((Below.refl _ _).alloc (Nat.le_refl _) _).alloc (by simp) _⟩
  exact results_cell_row Try.results12 _ _ _ 28 s.cells (0, 0) _ rfl (heap_alloc2_new w _ _) Try.underlying28 rfl (by rw [size28, PS.cells_size])

set_option maxHeartbeats 400000 in
theorem zzToParser_any (s : PS) (w : World) : Calls Try.prog 22 #[.agg s.cells] w fun e w' => e = .returned (.agg s.cells) ∧ Below w.heap.size w w' := by
  go_enter Try.func22, Try.ntmps22
  have h0 : ∀ O, ((w.alloc (.cells s.cells 29)).alloc O).heap[w.heap.size]? = some (.cells s.cells 29) := fun O => heap_alloc2_old w _ O
  go_wp2_with (first
    | ((with_reducible refine wl_load24 rfl _ rfl _ ?hx s 29 (h0 _) ?_); (case hx => rfl))
    | ((with_reducible refine wl_load25 rfl _ rfl _ ?hx s 29 (h0 _) ?_); (case hx => rfl))
    | ((with_reducible refine wl_build 49 _ rfl rfl s (build49 s) ?hp ?_); (case hp => rfl))
    | ((with_reducible refine wl_store 49 size49 rfl _ _ rfl ?g ?hx s ?hy ?c ?W ?hW ?hw ?hc ?_); (case hx => rfl); (case hy => rfl); (case hW => rfl); (case hw => simp); (case hc => simp)))
  refine bodyPost_ret (v := .agg s.cells) ?_ rfl ⟨rfl, ((Below.refl _ _).alloc (Nat.le_refl _) _).alloc (by simp) _⟩
  exact results_cell_row Try.results22 _ _ _ 49 s.cells (0, 0) _ rfl (heap_alloc2_new w _ _) Try.underlying49 rfl (by rw [size49, PS.cells_size])

theorem mixed : Try.prog.follows .mixedOrders = true := by kernel_rfl
set_option maxHeartbeats 400000 in
theorem zzFromParser_any (s : PS) (w : World) (g : Nat) (hg : w.heap[g]? = some (.cells s.cells 49)) :
    Calls Try.prog 24 #[.pointer (some ⟨g, 0, none⟩)] w fun e w' => e = .returned (.agg s.cells) ∧ Below w.heap.size w w' := by
  have hlt : g < w.heap.size := by
    by_cases h : g < w.heap.size
    · exact h
    · simp [Array.getElem?_eq_none (Nat.le_of_not_lt h)] at hg
  have k : ∀ j, w.cell? ⟨g, j, none⟩ = s.cells[j]? := fun j => cell_of_row w g j s.cells 49 (0, 0) hg
  have k0 := k 0
  have k1 := k 1
  have k2 := k 2
  have k3 := k 3
  have k7 := k 7
  have k31 := k 31
  have k32 := k 32
  have k33 := k 33
  have k34 := k 34
  have k35 := k 35
  have k36 := k 36
  rw [PS.c0] at k0
  rw [PS.c1] at k1
  rw [PS.c2] at k2
  rw [PS.c3] at k3
  rw [PS.c7] at k7
  rw [PS.c31] at k31
  rw [PS.c32] at k32
  rw [PS.c33] at k33
  rw [PS.c34] at k34
  rw [PS.c35] at k35
  rw [PS.c36] at k36
  clear k
  have h0 : ∀ O, (w.alloc O).drew.heap[g]? = some (.cells s.cells 49) := fun O => (Below.heap_alloc w O g hlt).trans hg
  clear hg
  go_enter Try.func24, Try.ntmps24
  go_wp2
  refine region_still_tail 53 mixed (by kernel_rfl) ?_
  simp only [List.take_succ_cons, List.take_zero, List.drop_succ_cons, List.drop_zero]
  repeat (first
    | ((with_reducible refine ws_load24 rfl _ rfl _ ?hx s 49 (h0 _) ?_); (case hx => rfl))
    | ((with_reducible refine ws_load25 rfl _ rfl _ ?hx s 49 (h0 _) ?_); (case hx => rfl))
    | ((with_reducible refine ws_build 29 _ rfl rfl s (build29 s) ?hp ?_); (case hp => rfl))
    | still_step)
  refine wpStill_nil ?_
  refine wl_store 29 size29 rfl _ _ rfl w.heap.size rfl s rfl _ w.drew rfl rfl (by simp) ?_
  go_wp2
  refine bodyPost_ret (v := .agg s.cells) ?_ rfl ⟨rfl, ((Below.refl _ _).drew).alloc (Nat.le_refl _) _⟩
  exact results_cell_row Try.results24 _ _ _ 29 s.cells (0, 0) _ rfl (heap_alloc_last w.drew _) Try.underlying29 rfl (by rw [size29, PS.cells_size])
end Go.Proofs.Qxb6603776a
