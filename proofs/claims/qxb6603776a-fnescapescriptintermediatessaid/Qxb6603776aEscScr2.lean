import Derived.Test.Qxb6603776aLaws3
namespace Go.Proofs.Qxb6603776a
open Go.RowKit
set_option linter.unusedVariables false
set_option linter.unusedSimpArgs false
attribute [local go_sem] zero_cells PS.c0 PS.c1 PS.c3 PS.c7 PS.c34 PS.s0 PS.s1 PS.s3 PS.s7 PS.s34

set_option maxRecDepth 100000 in
set_option maxHeartbeats 1000000 in
theorem es_long (a : Option Addr) (len cap : Nat) (f : Int) (w : World) (h : 1048576 < len) (h2 : len ≤ 9223372036854775807) :
    Calls Try.prog 3 #[.slice a len cap, .int .u8 f] w fun e w' => e = .returned (.bool true) ∧ Below w.heap.size w w' := by
  go_enter Try.func3, Try.ntmps3
  go_wp2_with (first | (go_at_call 9; refine (zz9_no _ _ _ _ _ h h2).mono ?_; rintro e w' ⟨rfl, rfl⟩))
  go_ret
  exact ⟨rfl, Below.refl _ _⟩
set_option maxRecDepth 100000 in
set_option maxHeartbeats 1000000 in
theorem es_out (a : Option Addr) (len cap : Nat) (f : Int) (w : World) (h : len ≤ 1048576) (hf : f < 48 ∨ 126 < f) :
    Calls Try.prog 3 #[.slice a len cap, .int .u8 f] w fun e w' => e = .returned (.bool true) ∧ Below w.heap.size w w' := by
  by_cases h1 : f < 48
  · clear hf
    go_enter Try.func3, Try.ntmps3
    go_wp2_with (first | (go_at_call 9; refine (zz9_yes _ _ _ _ _ h).mono ?_; rintro e w' ⟨rfl, rfl⟩))
    go_ret
    exact ⟨rfl, Below.refl _ _⟩
  · have h2 : 126 < f := by omega
    clear hf
    go_enter Try.func3, Try.ntmps3
    go_wp2_with (first | (go_at_call 9; refine (zz9_yes _ _ _ _ _ h).mono ?_; rintro e w' ⟨rfl, rfl⟩))
    go_ret
    exact ⟨rfl, Below.refl _ _⟩

/-- No intermediate byte: what stands behind the calls. -/
structure Es0 (w : World) (gs gp : Nat) (r : PS) (wr : World) : Prop where
  bel : Below w.heap.size w wr
  st : wr.heap[gs]? = some (.cells ({ PS.zero with st := 1 } : PS).cells 28)
  p : wr.heap[gp]? = some (.cells r.cells 29)
  lo : w.heap.size ≤ gp
  ne : gs < gp
theorem Es0.drop {w wr w2 : World} {gs gp : Nat} {r : PS} (h : Es0 w gs gp r wr) (hb : Below wr.heap.size wr w2) : Es0 w gs gp r w2 :=
  ⟨h.bel.trans (hb.mono h.bel.size), (hb.block _ (heap_lt h.st)).trans h.st, (hb.block _ (heap_lt h.p)).trans h.p, h.lo, h.ne⟩
theorem Es0.put {w wr : World} {gs gp : Nat} {r : PS} (h : Es0 w gs gp r wr) (r' : PS) : Es0 w gs gp r' (wr.setRow gp r'.cells) :=
  ⟨below_setRow h.bel h.lo, (setRow_other wr gp _ _ (by have := h.ne; omega)).trans h.st, setRow_heap wr gp _ _ 29 _ h.p, h.lo, h.ne⟩
theorem Es0.start {w w1 : World} (hb1 : Below (w.alloc (.cells ({ PS.zero with st := 1 } : PS).cells 28)).heap.size (w.alloc (.cells ({ PS.zero with st := 1 } : PS).cells 28)) w1) :
    Es0 w w.heap.size w1.heap.size { PS.zero with st := 1 } (w1.alloc (.cells ({ PS.zero with st := 1 } : PS).cells 29)) := by
  have hz := hb1.size
  simp at hz
  refine ⟨(((Below.refl _ _).alloc (Nat.le_refl _) _).trans (hb1.mono (by simp))).alloc (by omega) _, ?_, heap_alloc_last w1 _, by omega, by omega⟩
  rw [Below.heap_alloc _ _ _ (by omega), hb1.block _ (by simp)]
  exact heap_alloc_last w _
theorem Es0.start2 {w w1 : World} {O : Obj} (hb1 : Below ((w.alloc O).alloc (.cells ({ PS.zero with st := 1 } : PS).cells 28)).heap.size ((w.alloc O).alloc (.cells ({ PS.zero with st := 1 } : PS).cells 28)) w1) :
    Es0 w (w.heap.size + 1) w1.heap.size { PS.zero with st := 1 } (w1.alloc (.cells ({ PS.zero with st := 1 } : PS).cells 29)) := by
  have hz := hb1.size
  simp at hz
  refine ⟨((((Below.refl _ _).alloc (Nat.le_refl _) _).alloc (by simp) _).trans (hb1.mono (by simp; omega))).alloc (by omega) _, ?_, heap_alloc_last w1 _, by omega, by omega⟩
  rw [Below.heap_alloc _ _ _ (by omega), hb1.block _ (by simp)]
  exact heap_alloc2_new w _ _


set_option maxRecDepth 100000 in
set_option maxHeartbeats 4000000 in
theorem es_csi_n (f : Int) (w : World) (f1 : 48 ≤ f) (f2 : f ≤ 126) (r : PS)
    (HZf : ∀ w : World, Calls Try.prog 11 #[.agg ({ PS.zero with st := 1 } : PS).cells, .int .u8 f] w fun e w' => e = .returned (.tuple #[.agg r.cells, .int .u8 0]) ∧ Below w.heap.size w w') (hi : introOf f = 3)
    (HE : ∀ w : World, (Op.equalIn 10000 28 (.agg r.cells) (.agg ({ PS.zero with st := 3, cur := -1 } : PS).cells)).run Try.prog w = .ok true w) :
    Calls Try.prog 3 #[.slice none 0 0, .int .u8 f] w fun e w' => e = .returned (.bool true) ∧ Below w.heap.size w w' := by
  have ns := fun (w : World) a n c => run_neq_slice_nil_any (P := Try.prog) w 22 5 a n c 0 0 Try.underlying22
  go_enter Try.func3, Try.ntmps3
  go_wp2_with (first | (go_at_call 9; refine (zz9_yes _ _ _ _ _ (by decide)).mono ?_; rintro e w' ⟨rfl, rfl⟩))
  refine wp_loop_rounds 1 ?_
  rw [rounds_succ]
  go_wp2_with (first
    | ((with_reducible refine wl_load 28 isRow28 size28 rfl _ rfl _ ?hx { PS.zero with st := 1 } 28 (heap_alloc_last w _) ?_); (case hx => rfl))
    | (go_at_call 10; refine (toZZ_any { PS.zero with st := 1 } _).mono ?_; rintro e w1 ⟨rfl, hb1⟩)
    | ((with_reducible refine wl_put 29 size29 rfl _ _ rfl ?_ ?hx2 ?_ ?hy2 ?_ ?_ ?hW2 ?hw2 ?hc2 ?hC2 ?h12 ?_); (case hx2 => rfl); (case hy2 => rfl); (case hW2 => rfl); (case hw2 => simp); (case hc2 => simp [PS.cells_size]); (case hC2 => exact PS.cells_size _); (case h12 => exact one_cells _)))
  have hE := Es0.start hb1
  refine wp_loop_rounds 1 ?_
  rw [rounds_succ]
  go_wp2_with (first
    | ((with_reducible refine wl_load 29 isRow29 size29 rfl _ rfl _ ?hx { PS.zero with st := 1 } 29 hE.p ?_); (case hx => rfl))
    | (go_at_call 11; refine (HZf _).mono ?_; rintro e w2 ⟨rfl, hb2⟩; have hE2 := hE.drop hb2; clear hb2)
    | ((with_reducible refine wl_store_at 29 size29 rfl _ _ rfl _ ?hx5 r ?hy5 _ 29 hE2.p (PS.cells_size _) ?_); (case hx5 => rfl); (case hy5 => rfl); have hE3 := hE2.put r; clear hE2)
    | ((with_reducible refine wl_load 29 isRow29 size29 rfl _ rfl _ ?hx r 29 hE3.p ?_); (case hx => rfl))
    | (go_at_call 12; refine (fromZZ_any r _).mono ?_; rintro e w4 ⟨rfl, hb4⟩; have hE4 := hE3.drop hb4; clear hE3 hb4; have hs4 := fun O => (Below.heap_alloc w4 O _ (heap_lt hE4.st)).trans hE4.st; have hbel := hE4.bel; have hlt4 := hE4.bel.size)
    | ((with_reducible refine wl_put 28 size28 rfl _ _ rfl ?_ ?hx2 ?_ ?hy2 ?_ ?_ ?hW2 ?hw2 ?hc2 ?hC2 ?h12 ?_); (case hx2 => rfl); (case hy2 => rfl); (case hW2 => rfl); (case hw2 => simp); (case hc2 => simp [PS.cells_size]); (case hC2 => exact PS.cells_size _); (case h12 => exact one_cells _))
    | ((with_reducible refine wl_load 28 isRow28 size28 rfl _ rfl _ ?hx { PS.zero with st := 1 } 28 (hs4 _) ?_); (case hx => rfl))
    | (go_at_call 13; refine (intro_any f _).mono ?_; rintro e w6 ⟨rfl, hw6⟩; subst hw6)
    | ((with_reducible refine wg_load 28 isRow28 size28 _ rfl ?hgd _ ?hx r 28 (heap_alloc2_old w4 _ _) ?_); (case hx => rfl); (case hgd => rfl))
    | ((with_reducible refine wg_load 28 isRow28 size28 _ rfl ?hgd ?_ ?hx4 { PS.zero with st := 3, cur := -1 } 28 ?hg4 ?_); (case hx4 => rfl); (case hgd => rfl); (case hg4 => with_reducible exact heap_alloc2_new w4 _ _)))
  go_ret
  exact ⟨rfl, (hbel.alloc hlt4 _).alloc (by simp; omega) _⟩

set_option maxRecDepth 100000 in
set_option maxHeartbeats 4000000 in
theorem es_str_n (f : Int) (w : World) (f1 : 48 ≤ f) (f2 : f ≤ 126) (r : PS)
    (HZf : ∀ w : World, Calls Try.prog 11 #[.agg ({ PS.zero with st := 1 } : PS).cells, .int .u8 f] w fun e w' => e = .returned (.tuple #[.agg r.cells, .int .u8 0]) ∧ Below w.heap.size w w') (hi0 : (introOf f == 0) = false) (hi3 : (introOf f == 3) = false)
    (HE : ∀ w : World, (Op.equalIn 10000 28 (.agg r.cells) (.agg ({ PS.zero with st := introOf f } : PS).cells)).run Try.prog w = .ok true w) :
    Calls Try.prog 3 #[.slice none 0 0, .int .u8 f] w fun e w' => e = .returned (.bool true) ∧ Below w.heap.size w w' := by
  have ns := fun (w : World) a n c => run_neq_slice_nil_any (P := Try.prog) w 22 5 a n c 0 0 Try.underlying22
  go_enter Try.func3, Try.ntmps3
  go_wp2_with (first | (go_at_call 9; refine (zz9_yes _ _ _ _ _ (by decide)).mono ?_; rintro e w' ⟨rfl, rfl⟩))
  refine wp_loop_rounds 1 ?_
  rw [rounds_succ]
  go_wp2_with (first
    | ((with_reducible refine wl_load 28 isRow28 size28 rfl _ rfl _ ?hx { PS.zero with st := 1 } 28 (heap_alloc_last w _) ?_); (case hx => rfl))
    | (go_at_call 10; refine (toZZ_any { PS.zero with st := 1 } _).mono ?_; rintro e w1 ⟨rfl, hb1⟩)
    | ((with_reducible refine wl_put 29 size29 rfl _ _ rfl ?_ ?hx2 ?_ ?hy2 ?_ ?_ ?hW2 ?hw2 ?hc2 ?hC2 ?h12 ?_); (case hx2 => rfl); (case hy2 => rfl); (case hW2 => rfl); (case hw2 => simp); (case hc2 => simp [PS.cells_size]); (case hC2 => exact PS.cells_size _); (case h12 => exact one_cells _)))
  have hE := Es0.start hb1
  refine wp_loop_rounds 1 ?_
  rw [rounds_succ]
  go_wp2_with (first
    | ((with_reducible refine wl_load 29 isRow29 size29 rfl _ rfl _ ?hx { PS.zero with st := 1 } 29 hE.p ?_); (case hx => rfl))
    | (go_at_call 11; refine (HZf _).mono ?_; rintro e w2 ⟨rfl, hb2⟩; have hE2 := hE.drop hb2; clear hb2)
    | ((with_reducible refine wl_store_at 29 size29 rfl _ _ rfl _ ?hx5 r ?hy5 _ 29 hE2.p (PS.cells_size _) ?_); (case hx5 => rfl); (case hy5 => rfl); have hE3 := hE2.put r; clear hE2)
    | ((with_reducible refine wl_load 29 isRow29 size29 rfl _ rfl _ ?hx r 29 hE3.p ?_); (case hx => rfl))
    | (go_at_call 12; refine (fromZZ_any r _).mono ?_; rintro e w4 ⟨rfl, hb4⟩; have hE4 := hE3.drop hb4; clear hE3 hb4; have hs4 := fun O => (Below.heap_alloc w4 O _ (heap_lt hE4.st)).trans hE4.st; have hbel := hE4.bel; have hlt4 := hE4.bel.size)
    | ((with_reducible refine wl_put 28 size28 rfl _ _ rfl ?_ ?hx2 ?_ ?hy2 ?_ ?_ ?hW2 ?hw2 ?hc2 ?hC2 ?h12 ?_); (case hx2 => rfl); (case hy2 => rfl); (case hW2 => rfl); (case hw2 => simp); (case hc2 => simp [PS.cells_size]); (case hC2 => exact PS.cells_size _); (case h12 => exact one_cells _))
    | ((with_reducible refine wl_load 28 isRow28 size28 rfl _ rfl _ ?hx { PS.zero with st := 1 } 28 (hs4 _) ?_); (case hx => rfl))
    | (go_at_call 13; refine (intro_any f _).mono ?_; rintro e w6 ⟨rfl, hw6⟩; subst hw6)
    | ((with_reducible refine wg_load 28 isRow28 size28 _ rfl ?hgd _ ?hx r 28 (heap_alloc2_old w4 _ _) ?_); (case hx => rfl); (case hgd => rfl))
    | ((with_reducible refine wg_load 28 isRow28 size28 _ rfl ?hgd ?_ ?hx4 { PS.zero with st := introOf f } 28 ?hg4 ?_); (case hx4 => rfl); (case hgd => rfl); (case hg4 => with_reducible exact heap_alloc2_new w4 _ _)))
  go_ret
  exact ⟨rfl, (hbel.alloc hlt4 _).alloc (by simp; omega) _⟩

set_option maxRecDepth 100000 in
set_option maxHeartbeats 4000000 in
theorem es_end_n (f : Int) (w : World) (f1 : 48 ≤ f) (f2 : f ≤ 126) (r : PS)
    (HZf : ∀ w : World, Calls Try.prog 11 #[.agg ({ PS.zero with st := 1 } : PS).cells, .int .u8 f] w fun e w' => e = .returned (.tuple #[.agg r.cells, .int .u8 3]) ∧ Below w.heap.size w w') (hi : introOf f = 0)
    (HE : ∀ w : World, (Op.equalIn 10000 28 (.agg r.cells) (.agg ({ PS.zero with st := 0, nin := 0, fin := f } : PS).cells)).run Try.prog w = .ok true w) :
    Calls Try.prog 3 #[.slice none 0 0, .int .u8 f] w fun e w' => e = .returned (.bool true) ∧ Below w.heap.size w w' := by
  have ns := fun (w : World) a n c => run_neq_slice_nil_any (P := Try.prog) w 22 5 a n c 0 0 Try.underlying22
  go_enter Try.func3, Try.ntmps3
  go_wp2_with (first | (go_at_call 9; refine (zz9_yes _ _ _ _ _ (by decide)).mono ?_; rintro e w' ⟨rfl, rfl⟩))
  refine wp_loop_rounds 1 ?_
  rw [rounds_succ]
  go_wp2_with (first
    | ((with_reducible refine wl_load 28 isRow28 size28 rfl _ rfl _ ?hx { PS.zero with st := 1 } 28 (heap_alloc_last w _) ?_); (case hx => rfl))
    | (go_at_call 10; refine (toZZ_any { PS.zero with st := 1 } _).mono ?_; rintro e w1 ⟨rfl, hb1⟩)
    | ((with_reducible refine wl_put 29 size29 rfl _ _ rfl ?_ ?hx2 ?_ ?hy2 ?_ ?_ ?hW2 ?hw2 ?hc2 ?hC2 ?h12 ?_); (case hx2 => rfl); (case hy2 => rfl); (case hW2 => rfl); (case hw2 => simp); (case hc2 => simp [PS.cells_size]); (case hC2 => exact PS.cells_size _); (case h12 => exact one_cells _)))
  have hE := Es0.start hb1
  refine wp_loop_rounds 1 ?_
  rw [rounds_succ]
  go_wp2_with (first
    | ((with_reducible refine wl_load 29 isRow29 size29 rfl _ rfl _ ?hx { PS.zero with st := 1 } 29 hE.p ?_); (case hx => rfl))
    | (go_at_call 11; refine (HZf _).mono ?_; rintro e w2 ⟨rfl, hb2⟩; have hE2 := hE.drop hb2; clear hb2)
    | ((with_reducible refine wl_store_at 29 size29 rfl _ _ rfl _ ?hx5 r ?hy5 _ 29 hE2.p (PS.cells_size _) ?_); (case hx5 => rfl); (case hy5 => rfl); have hE3 := hE2.put r; clear hE2)
    | ((with_reducible refine wl_load 29 isRow29 size29 rfl _ rfl _ ?hx r 29 hE3.p ?_); (case hx => rfl))
    | (go_at_call 12; refine (fromZZ_any r _).mono ?_; rintro e w4 ⟨rfl, hb4⟩; have hE4 := hE3.drop hb4; clear hE3 hb4; have hs4 := fun O => (Below.heap_alloc w4 O _ (heap_lt hE4.st)).trans hE4.st; have hbel := hE4.bel; have hlt4 := hE4.bel.size)
    | ((with_reducible refine wl_put 28 size28 rfl _ _ rfl ?_ ?hx2 ?_ ?hy2 ?_ ?_ ?hW2 ?hw2 ?hc2 ?hC2 ?h12 ?_); (case hx2 => rfl); (case hy2 => rfl); (case hW2 => rfl); (case hw2 => simp); (case hc2 => simp [PS.cells_size]); (case hC2 => exact PS.cells_size _); (case h12 => exact one_cells _))
    | ((with_reducible refine wl_load 28 isRow28 size28 rfl _ rfl _ ?hx { PS.zero with st := 1 } 28 (hs4 _) ?_); (case hx => rfl))
    | (go_at_call 13; refine (intro_any f _).mono ?_; rintro e w6 ⟨rfl, hw6⟩; subst hw6)
    | ((with_reducible refine wg_load 28 isRow28 size28 _ rfl ?hgd _ ?hx r 28 (heap_alloc2_old w4 _ _) ?_); (case hx => rfl); (case hgd => rfl))
    | ((with_reducible refine wg_load 28 isRow28 size28 _ rfl ?hgd ?_ ?hx4 { PS.zero with st := 0, nin := 0, fin := f } 28 ?hg4 ?_); (case hx4 => rfl); (case hgd => rfl); (case hg4 => with_reducible exact heap_alloc2_new w4 _ _)))
  refine wp_loop_rounds 1 ?_
  rw [rounds_succ]
  go_wp2_with (first
    | ((with_reducible refine wg_load 28 isRow28 size28 _ rfl ?hgd _ ?hx r 28 (heap_alloc2_old w4 _ _) ?_); (case hx => rfl); (case hgd => rfl))
    | ((with_reducible refine wg_load 28 isRow28 size28 _ rfl ?hgd ?_ ?hx4 { PS.zero with st := 0, nin := 0, fin := f } 28 ?hg4 ?_); (case hx4 => rfl); (case hgd => rfl); (case hg4 => with_reducible exact heap_alloc2_new w4 _ _)))
  go_ret
  exact ⟨rfl, (hbel.alloc hlt4 _).alloc (by simp; omega) _⟩

set_option maxRecDepth 100000 in
set_option maxHeartbeats 4000000 in
theorem es_csi_s (x : Addr) (cap : Nat) (f : Int) (w : World) (f1 : 48 ≤ f) (f2 : f ≤ 126) (r : PS)
    (HZf : ∀ w : World, Calls Try.prog 11 #[.agg ({ PS.zero with st := 1 } : PS).cells, .int .u8 f] w fun e w' => e = .returned (.tuple #[.agg r.cells, .int .u8 0]) ∧ Below w.heap.size w w') (hi : introOf f = 3)
    (HE : ∀ w : World, (Op.equalIn 10000 28 (.agg r.cells) (.agg ({ PS.zero with st := 3, cur := -1 } : PS).cells)).run Try.prog w = .ok true w) :
    Calls Try.prog 3 #[.slice (some x) 0 cap, .int .u8 f] w fun e w' => e = .returned (.bool true) ∧ Below w.heap.size w w' := by
  have ns := fun (w : World) a n c => run_neq_slice_nil_any (P := Try.prog) w 22 5 a n c 0 0 Try.underlying22
  have hmk : ∀ w : World, (Instr.makeSlice 22 (.int .i64 0) (.int .i64 0)).run Try.prog w = .ok (.slice (some ⟨w.heap.size, 0, none⟩) 0 0) (w.alloc (.cells (madeCells #[.int .u8 0] 0) 5)) := fun w => by
    have := run_make_row' (P := Try.prog) 22 5 (.int .u8 0) 1 Try.underlying22 info5' rfl .i64 .i64 0 (by omega) (by omega) w
    simpa using this
  go_enter Try.func3, Try.ntmps3
  go_wp2_with (first | (go_at_call 9; refine (zz9_yes _ _ _ _ _ (by decide)).mono ?_; rintro e w' ⟨rfl, rfl⟩))
  refine wp_loop_rounds 1 ?_
  rw [rounds_succ]
  go_wp2
  refine wp_loop_rounds 1 ?_
  rw [rounds_succ]
  go_wp2_with (first
    | ((with_reducible refine wl_load 28 isRow28 size28 rfl _ rfl _ ?hx { PS.zero with st := 1 } 28 (heap_alloc2_new w _ _) ?_); (case hx => rfl))
    | (go_at_call 10; refine (toZZ_any { PS.zero with st := 1 } _).mono ?_; rintro e w1 ⟨rfl, hb1⟩)
    | ((with_reducible refine wl_put 29 size29 rfl _ _ rfl ?_ ?hx2 ?_ ?hy2 ?_ ?_ ?hW2 ?hw2 ?hc2 ?hC2 ?h12 ?_); (case hx2 => rfl); (case hy2 => rfl); (case hW2 => rfl); (case hw2 => simp); (case hc2 => simp [PS.cells_size]); (case hC2 => exact PS.cells_size _); (case h12 => exact one_cells _)))
  have hE := Es0.start2 hb1
  refine wp_loop_rounds 1 ?_
  rw [rounds_succ]
  go_wp2_with (first
    | ((with_reducible refine wl_load 29 isRow29 size29 rfl _ rfl _ ?hx { PS.zero with st := 1 } 29 hE.p ?_); (case hx => rfl))
    | (go_at_call 11; refine (HZf _).mono ?_; rintro e w2 ⟨rfl, hb2⟩; have hE2 := hE.drop hb2; clear hb2)
    | ((with_reducible refine wl_store_at 29 size29 rfl _ _ rfl _ ?hx5 r ?hy5 _ 29 hE2.p (PS.cells_size _) ?_); (case hx5 => rfl); (case hy5 => rfl); have hE3 := hE2.put r; clear hE2)
    | ((with_reducible refine wl_load 29 isRow29 size29 rfl _ rfl _ ?hx r 29 hE3.p ?_); (case hx => rfl))
    | (go_at_call 12; refine (fromZZ_any r _).mono ?_; rintro e w4 ⟨rfl, hb4⟩; have hE4 := hE3.drop hb4; clear hE3 hb4; have hs4 := fun O => (Below.heap_alloc w4 O _ (heap_lt hE4.st)).trans hE4.st; have hbel := hE4.bel; have hlt4 := hE4.bel.size)
    | ((with_reducible refine wl_put 28 size28 rfl _ _ rfl ?_ ?hx2 ?_ ?hy2 ?_ ?_ ?hW2 ?hw2 ?hc2 ?hC2 ?h12 ?_); (case hx2 => rfl); (case hy2 => rfl); (case hW2 => rfl); (case hw2 => simp); (case hc2 => simp [PS.cells_size]); (case hC2 => exact PS.cells_size _); (case h12 => exact one_cells _))
    | ((with_reducible refine wl_load 28 isRow28 size28 rfl _ rfl _ ?hx { PS.zero with st := 1 } 28 (hs4 _) ?_); (case hx => rfl))
    | (go_at_call 13; refine (intro_any f _).mono ?_; rintro e w6 ⟨rfl, hw6⟩; subst hw6)
    | ((with_reducible refine wg_load 28 isRow28 size28 _ rfl ?hgd _ ?hx r 28 (heap_alloc2_old w4 _ _) ?_); (case hx => rfl); (case hgd => rfl))
    | ((with_reducible refine wg_load 28 isRow28 size28 _ rfl ?hgd ?_ ?hx4 { PS.zero with st := 3, cur := -1 } 28 ?hg4 ?_); (case hx4 => rfl); (case hgd => rfl); (case hg4 => with_reducible exact heap_alloc2_new w4 _ _)))
  go_ret
  exact ⟨rfl, (hbel.alloc hlt4 _).alloc (by simp; omega) _⟩

set_option maxRecDepth 100000 in
set_option maxHeartbeats 4000000 in
theorem es_str_s (x : Addr) (cap : Nat) (f : Int) (w : World) (f1 : 48 ≤ f) (f2 : f ≤ 126) (r : PS)
    (HZf : ∀ w : World, Calls Try.prog 11 #[.agg ({ PS.zero with st := 1 } : PS).cells, .int .u8 f] w fun e w' => e = .returned (.tuple #[.agg r.cells, .int .u8 0]) ∧ Below w.heap.size w w') (hi0 : (introOf f == 0) = false) (hi3 : (introOf f == 3) = false)
    (HE : ∀ w : World, (Op.equalIn 10000 28 (.agg r.cells) (.agg ({ PS.zero with st := introOf f } : PS).cells)).run Try.prog w = .ok true w) :
    Calls Try.prog 3 #[.slice (some x) 0 cap, .int .u8 f] w fun e w' => e = .returned (.bool true) ∧ Below w.heap.size w w' := by
  have ns := fun (w : World) a n c => run_neq_slice_nil_any (P := Try.prog) w 22 5 a n c 0 0 Try.underlying22
  have hmk : ∀ w : World, (Instr.makeSlice 22 (.int .i64 0) (.int .i64 0)).run Try.prog w = .ok (.slice (some ⟨w.heap.size, 0, none⟩) 0 0) (w.alloc (.cells (madeCells #[.int .u8 0] 0) 5)) := fun w => by
    have := run_make_row' (P := Try.prog) 22 5 (.int .u8 0) 1 Try.underlying22 info5' rfl .i64 .i64 0 (by omega) (by omega) w
    simpa using this
  go_enter Try.func3, Try.ntmps3
  go_wp2_with (first | (go_at_call 9; refine (zz9_yes _ _ _ _ _ (by decide)).mono ?_; rintro e w' ⟨rfl, rfl⟩))
  refine wp_loop_rounds 1 ?_
  rw [rounds_succ]
  go_wp2
  refine wp_loop_rounds 1 ?_
  rw [rounds_succ]
  go_wp2_with (first
    | ((with_reducible refine wl_load 28 isRow28 size28 rfl _ rfl _ ?hx { PS.zero with st := 1 } 28 (heap_alloc2_new w _ _) ?_); (case hx => rfl))
    | (go_at_call 10; refine (toZZ_any { PS.zero with st := 1 } _).mono ?_; rintro e w1 ⟨rfl, hb1⟩)
    | ((with_reducible refine wl_put 29 size29 rfl _ _ rfl ?_ ?hx2 ?_ ?hy2 ?_ ?_ ?hW2 ?hw2 ?hc2 ?hC2 ?h12 ?_); (case hx2 => rfl); (case hy2 => rfl); (case hW2 => rfl); (case hw2 => simp); (case hc2 => simp [PS.cells_size]); (case hC2 => exact PS.cells_size _); (case h12 => exact one_cells _)))
  have hE := Es0.start2 hb1
  refine wp_loop_rounds 1 ?_
  rw [rounds_succ]
  go_wp2_with (first
    | ((with_reducible refine wl_load 29 isRow29 size29 rfl _ rfl _ ?hx { PS.zero with st := 1 } 29 hE.p ?_); (case hx => rfl))
    | (go_at_call 11; refine (HZf _).mono ?_; rintro e w2 ⟨rfl, hb2⟩; have hE2 := hE.drop hb2; clear hb2)
    | ((with_reducible refine wl_store_at 29 size29 rfl _ _ rfl _ ?hx5 r ?hy5 _ 29 hE2.p (PS.cells_size _) ?_); (case hx5 => rfl); (case hy5 => rfl); have hE3 := hE2.put r; clear hE2)
    | ((with_reducible refine wl_load 29 isRow29 size29 rfl _ rfl _ ?hx r 29 hE3.p ?_); (case hx => rfl))
    | (go_at_call 12; refine (fromZZ_any r _).mono ?_; rintro e w4 ⟨rfl, hb4⟩; have hE4 := hE3.drop hb4; clear hE3 hb4; have hs4 := fun O => (Below.heap_alloc w4 O _ (heap_lt hE4.st)).trans hE4.st; have hbel := hE4.bel; have hlt4 := hE4.bel.size)
    | ((with_reducible refine wl_put 28 size28 rfl _ _ rfl ?_ ?hx2 ?_ ?hy2 ?_ ?_ ?hW2 ?hw2 ?hc2 ?hC2 ?h12 ?_); (case hx2 => rfl); (case hy2 => rfl); (case hW2 => rfl); (case hw2 => simp); (case hc2 => simp [PS.cells_size]); (case hC2 => exact PS.cells_size _); (case h12 => exact one_cells _))
    | ((with_reducible refine wl_load 28 isRow28 size28 rfl _ rfl _ ?hx { PS.zero with st := 1 } 28 (hs4 _) ?_); (case hx => rfl))
    | (go_at_call 13; refine (intro_any f _).mono ?_; rintro e w6 ⟨rfl, hw6⟩; subst hw6)
    | ((with_reducible refine wg_load 28 isRow28 size28 _ rfl ?hgd _ ?hx r 28 (heap_alloc2_old w4 _ _) ?_); (case hx => rfl); (case hgd => rfl))
    | ((with_reducible refine wg_load 28 isRow28 size28 _ rfl ?hgd ?_ ?hx4 { PS.zero with st := introOf f } 28 ?hg4 ?_); (case hx4 => rfl); (case hgd => rfl); (case hg4 => with_reducible exact heap_alloc2_new w4 _ _)))
  go_ret
  exact ⟨rfl, (hbel.alloc hlt4 _).alloc (by simp; omega) _⟩

set_option maxRecDepth 100000 in
set_option maxHeartbeats 4000000 in
theorem es_end_s (x : Addr) (cap : Nat) (f : Int) (w : World) (f1 : 48 ≤ f) (f2 : f ≤ 126) (r : PS)
    (HZf : ∀ w : World, Calls Try.prog 11 #[.agg ({ PS.zero with st := 1 } : PS).cells, .int .u8 f] w fun e w' => e = .returned (.tuple #[.agg r.cells, .int .u8 3]) ∧ Below w.heap.size w w') (hi : introOf f = 0)
    (HE : ∀ w : World, (Op.equalIn 10000 28 (.agg r.cells) (.agg ({ PS.zero with st := 0, nin := 0, fin := f } : PS).cells)).run Try.prog w = .ok true w) :
    Calls Try.prog 3 #[.slice (some x) 0 cap, .int .u8 f] w fun e w' => e = .returned (.bool true) ∧ Below w.heap.size w w' := by
  have ns := fun (w : World) a n c => run_neq_slice_nil_any (P := Try.prog) w 22 5 a n c 0 0 Try.underlying22
  have hmk : ∀ w : World, (Instr.makeSlice 22 (.int .i64 0) (.int .i64 0)).run Try.prog w = .ok (.slice (some ⟨w.heap.size, 0, none⟩) 0 0) (w.alloc (.cells (madeCells #[.int .u8 0] 0) 5)) := fun w => by
    have := run_make_row' (P := Try.prog) 22 5 (.int .u8 0) 1 Try.underlying22 info5' rfl .i64 .i64 0 (by omega) (by omega) w
    simpa using this
  go_enter Try.func3, Try.ntmps3
  go_wp2_with (first | (go_at_call 9; refine (zz9_yes _ _ _ _ _ (by decide)).mono ?_; rintro e w' ⟨rfl, rfl⟩))
  refine wp_loop_rounds 1 ?_
  rw [rounds_succ]
  go_wp2
  refine wp_loop_rounds 1 ?_
  rw [rounds_succ]
  go_wp2_with (first
    | ((with_reducible refine wl_load 28 isRow28 size28 rfl _ rfl _ ?hx { PS.zero with st := 1 } 28 (heap_alloc2_new w _ _) ?_); (case hx => rfl))
    | (go_at_call 10; refine (toZZ_any { PS.zero with st := 1 } _).mono ?_; rintro e w1 ⟨rfl, hb1⟩)
    | ((with_reducible refine wl_put 29 size29 rfl _ _ rfl ?_ ?hx2 ?_ ?hy2 ?_ ?_ ?hW2 ?hw2 ?hc2 ?hC2 ?h12 ?_); (case hx2 => rfl); (case hy2 => rfl); (case hW2 => rfl); (case hw2 => simp); (case hc2 => simp [PS.cells_size]); (case hC2 => exact PS.cells_size _); (case h12 => exact one_cells _)))
  have hE := Es0.start2 hb1
  refine wp_loop_rounds 1 ?_
  rw [rounds_succ]
  go_wp2_with (first
    | ((with_reducible refine wl_load 29 isRow29 size29 rfl _ rfl _ ?hx { PS.zero with st := 1 } 29 hE.p ?_); (case hx => rfl))
    | (go_at_call 11; refine (HZf _).mono ?_; rintro e w2 ⟨rfl, hb2⟩; have hE2 := hE.drop hb2; clear hb2)
    | ((with_reducible refine wl_store_at 29 size29 rfl _ _ rfl _ ?hx5 r ?hy5 _ 29 hE2.p (PS.cells_size _) ?_); (case hx5 => rfl); (case hy5 => rfl); have hE3 := hE2.put r; clear hE2)
    | ((with_reducible refine wl_load 29 isRow29 size29 rfl _ rfl _ ?hx r 29 hE3.p ?_); (case hx => rfl))
    | (go_at_call 12; refine (fromZZ_any r _).mono ?_; rintro e w4 ⟨rfl, hb4⟩; have hE4 := hE3.drop hb4; clear hE3 hb4; have hs4 := fun O => (Below.heap_alloc w4 O _ (heap_lt hE4.st)).trans hE4.st; have hbel := hE4.bel; have hlt4 := hE4.bel.size)
    | ((with_reducible refine wl_put 28 size28 rfl _ _ rfl ?_ ?hx2 ?_ ?hy2 ?_ ?_ ?hW2 ?hw2 ?hc2 ?hC2 ?h12 ?_); (case hx2 => rfl); (case hy2 => rfl); (case hW2 => rfl); (case hw2 => simp); (case hc2 => simp [PS.cells_size]); (case hC2 => exact PS.cells_size _); (case h12 => exact one_cells _))
    | ((with_reducible refine wl_load 28 isRow28 size28 rfl _ rfl _ ?hx { PS.zero with st := 1 } 28 (hs4 _) ?_); (case hx => rfl))
    | (go_at_call 13; refine (intro_any f _).mono ?_; rintro e w6 ⟨rfl, hw6⟩; subst hw6)
    | ((with_reducible refine wg_load 28 isRow28 size28 _ rfl ?hgd _ ?hx r 28 (heap_alloc2_old w4 _ _) ?_); (case hx => rfl); (case hgd => rfl))
    | ((with_reducible refine wg_load 28 isRow28 size28 _ rfl ?hgd ?_ ?hx4 { PS.zero with st := 0, nin := 0, fin := f } 28 ?hg4 ?_); (case hx4 => rfl); (case hgd => rfl); (case hg4 => with_reducible exact heap_alloc2_new w4 _ _)))
  refine wp_loop_rounds 1 ?_
  rw [rounds_succ]
  go_wp2_with (first
    | ((with_reducible refine wg_load 28 isRow28 size28 _ rfl ?hgd _ ?hx r 28 (heap_alloc2_old w4 _ _) ?_); (case hx => rfl); (case hgd => rfl))
    | ((with_reducible refine wg_load 28 isRow28 size28 _ rfl ?hgd ?_ ?hx4 { PS.zero with st := 0, nin := 0, fin := f } 28 ?hg4 ?_); (case hx4 => rfl); (case hgd => rfl); (case hg4 => with_reducible exact heap_alloc2_new w4 _ _)))
  go_ret
  exact ⟨rfl, (hbel.alloc hlt4 _).alloc (by simp; omega) _⟩
end Go.Proofs.Qxb6603776a
