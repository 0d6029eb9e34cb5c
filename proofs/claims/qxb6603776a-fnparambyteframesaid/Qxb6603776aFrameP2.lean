import Derived.Test.Qxb6603776aParamPre
namespace Go.Proofs.Qxb6603776a
open Go.RowKit
set_option linter.unusedVariables false
set_option linter.unusedSimpArgs false
attribute [local go_sem] ten24 ten25 PS.c0 PS.c1 PS.c2 PS.c3 PS.c7 PS.c31 PS.c32 PS.c33 PS.c34 PS.c35 PS.c36
attribute [local go_sem] PS.s0 PS.s1 PS.s2 PS.s3 PS.s7 PS.s31 PS.s32 PS.s33 PS.s34 PS.s35 PS.s36

set_option maxRecDepth 100000 in
set_option maxHeartbeats 4000000 in
theorem pf_P4 (s r : PS) (w : World) (HZ : ∀ w : World, Calls Try.prog 20 #[.agg s.cells, .int .u8 58] w fun e w' => e = .returned (.agg r.cells) ∧ Below w.heap.size w w')
    (n1 : 0 ≤ s.np) (n2 : s.np ≤ 23) (b1 : 0 ≤ s.pb) (b2 : s.pb ≤ 255) (hp : (s.pb == 63) = false) (r33 : r.pb = (s.pb + 1) % 256) (r31 : r.np = s.np) (rP : r.paramsC = s.paramsC) (r32 : r.col = s.col) (r1 : r.dis = s.dis) (r36 : r.ovf = s.ovf) (r0 : r.st = s.st) (r2 : r.frn = s.frn) (r3 : r.fin = s.fin) (rI : r.interC = s.interC) (r7 : r.nin = s.nin)
    (HE : ∀ (x y : Bool) (w : World), s.dis = x → s.ovf = y → (Op.equalIn 10000 28 (.agg r.cells) (.agg ({ s with dis := x, ovf := y, pb := (s.pb + 1) % 256, inc := true } : PS).cells)).run Try.prog w = .ok true w)  :
    Calls Try.prog 8 #[.agg s.cells, .int .u8 58] w fun e w' => e = .returned (.bool true) ∧ Below w.heap.size w w' := by
  have n3 : ¬ 23 < s.np := by omega
  go_enter Try.func8, Try.ntmps8
  go_wp2_with (first
    | ((with_reducible refine wl_load 28 isRow28 size28 rfl _ rfl _ ?hx s 28 (heap_alloc_last w _) ?_); (case hx => rfl))
    | (go_at_call 10; refine (toZZ_any s _).mono ?_; rintro e w1 ⟨rfl, hb1⟩)
    | (go_at_call 20; refine (HZ _).mono ?_; rintro e w2 ⟨rfl, hb2⟩)
    | (go_at_call 12; refine (fromZZ_any r _).mono ?_; rintro e w3 ⟨rfl, hb3⟩; obtain ⟨hs3, hz3, hw3⟩ := pre_facts2 hb1 hb2 hb3; clear hb1 hb2 hb3; obtain ⟨k0, k1, k2, k3, k7, k31, k32, k33, k34, k35, k36⟩ := cells_of hs3;
        have hg0 := fun O => (Below.heap_alloc w3 O w.heap.size hz3).trans hs3; have hg1 := fun O O' => (Below.heap_alloc (w3.alloc O) O' w.heap.size (by simp; omega)).trans (hg0 O); have hg2 := fun O O' => heap_alloc2_old w3 O O')
    | ((with_reducible refine wl_store 28 size28 rfl _ _ rfl ?_ ?hx2 r ?hy2 ?_ ?_ ?hW2 ?hw2 ?hc2 ?_); (case hx2 => rfl); (case hy2 => rfl); (case hW2 => rfl); (case hw2 => simp); (case hc2 => simp))
    | ((with_reducible refine wl_store 28 size28 rfl _ _ rfl ?_ ?hx3 s ?hy3 ?_ ?_ ?hW3 ?hw3 ?hc3 ?_); (case hx3 => rfl); (case hy3 => rfl); (case hW3 => rfl); (case hw3 => simp); (case hc3 => simp))
    | ((with_reducible refine wg_load24 _ rfl ?hgd _ ?hx r 28 (heap_alloc_last w3 _) ?_); (case hx => rfl); (case hgd => rfl))
    | ((with_reducible refine wg_load24 _ rfl ?hgd _ ?hx s 28 (hg0 _) ?_); (case hx => rfl); (case hgd => rfl))
    | ((with_reducible refine wg_load25 _ rfl ?hgd _ ?hx r 28 (heap_alloc_last w3 _) ?_); (case hx => rfl); (case hgd => rfl))
    | ((with_reducible refine wg_load25 _ rfl ?hgd _ ?hx s 28 (hg0 _) ?_); (case hx => rfl); (case hgd => rfl))
    | ((with_reducible refine wl_load 28 isRow28 size28 rfl _ rfl _ ?hx r 28 (heap_alloc_last w3 _) ?_); (case hx => rfl))
    | ((with_reducible refine wl_load 28 isRow28 size28 rfl _ rfl _ ?hx s 28 (hg0 _) ?_); (case hx => rfl))
    | ((with_reducible refine wl_load 28 isRow28 size28 rfl _ rfl _ ?hx r 28 (hg2 _ _) ?_); (case hx => rfl))
    | ((with_reducible refine wl_load 28 isRow28 size28 rfl _ rfl ?_ ?hx4 { s with dis := true, ovf := true, pb := (s.pb + 1) % 256, inc := true } 28 ?hg4 ?_); (case hx4 => rfl); (case hg4 => with_reducible exact heap_alloc2_new w3 _ _))
    | ((with_reducible refine wl_load 28 isRow28 size28 rfl _ rfl ?_ ?hx4 { s with dis := true, ovf := false, pb := (s.pb + 1) % 256, inc := true } 28 ?hg4 ?_); (case hx4 => rfl); (case hg4 => with_reducible exact heap_alloc2_new w3 _ _))
    | ((with_reducible refine wl_load 28 isRow28 size28 rfl _ rfl ?_ ?hx4 { s with dis := false, ovf := true, pb := (s.pb + 1) % 256, inc := true } 28 ?hg4 ?_); (case hx4 => rfl); (case hg4 => with_reducible exact heap_alloc2_new w3 _ _))
    | ((with_reducible refine wl_load 28 isRow28 size28 rfl _ rfl ?_ ?hx4 { s with dis := false, ovf := false, pb := (s.pb + 1) % 256, inc := true } 28 ?hg4 ?_); (case hx4 => rfl); (case hg4 => with_reducible exact heap_alloc2_new w3 _ _)))
  all_goals
    go_ret
    exact ⟨rfl, (hw3.alloc (Nat.le_of_lt hz3) _).alloc (by simp; omega) _⟩

set_option maxRecDepth 100000 in
set_option maxHeartbeats 4000000 in
theorem pf_P6a_f (s r : PS) (c : Int) (w : World) (HZ : ∀ w : World, Calls Try.prog 20 #[.agg s.cells, .int .u8 c] w fun e w' => e = .returned (.agg r.cells) ∧ Below w.heap.size w w')
    (n1 : 0 ≤ s.np) (n2 : s.np ≤ 23) (b1 : 0 ≤ s.pb) (b2 : s.pb ≤ 255) (c1 : 48 ≤ c) (c2 : c ≤ 57) (q1 : (c == 59) = false) (q2 : (c == 58) = false) (hp : (s.pb == 63) = false) (r33 : r.pb = (s.pb + 1) % 256) (r31 : r.np = s.np) (rP : r.paramsC = s.paramsC) (r32 : r.col = s.col) (r1 : r.dis = s.dis) (hi : s.inc = false) (r35 : r.inc = false) (so : s.ovf = false) (x1 : s.cur < -1) (r0 : r.st = s.st) (r2 : r.frn = s.frn) (r3 : r.fin = s.fin) (rI : r.interC = s.interC) (r7 : r.nin = s.nin)
      :
    Calls Try.prog 8 #[.agg s.cells, .int .u8 c] w fun e w' => e = .returned (.bool true) ∧ Below w.heap.size w w' := by
  have n3 : ¬ 23 < s.np := by omega
  go_enter Try.func8, Try.ntmps8
  go_wp2_with (first
    | ((with_reducible refine wl_load 28 isRow28 size28 rfl _ rfl _ ?hx s 28 (heap_alloc_last w _) ?_); (case hx => rfl))
    | (go_at_call 10; refine (toZZ_any s _).mono ?_; rintro e w1 ⟨rfl, hb1⟩)
    | (go_at_call 20; refine (HZ _).mono ?_; rintro e w2 ⟨rfl, hb2⟩)
    | (go_at_call 12; refine (fromZZ_any r _).mono ?_; rintro e w3 ⟨rfl, hb3⟩; obtain ⟨hs3, hz3, hw3⟩ := pre_facts2 hb1 hb2 hb3; clear hb1 hb2 hb3; obtain ⟨k0, k1, k2, k3, k7, k31, k32, k33, k34, k35, k36⟩ := cells_of hs3;
        have hg0 := fun O => (Below.heap_alloc w3 O w.heap.size hz3).trans hs3; have hg1 := fun O O' => (Below.heap_alloc (w3.alloc O) O' w.heap.size (by simp; omega)).trans (hg0 O); have hg2 := fun O O' => heap_alloc2_old w3 O O')
    | ((with_reducible refine wl_store 28 size28 rfl _ _ rfl ?_ ?hx2 r ?hy2 ?_ ?_ ?hW2 ?hw2 ?hc2 ?_); (case hx2 => rfl); (case hy2 => rfl); (case hW2 => rfl); (case hw2 => simp); (case hc2 => simp))
    | ((with_reducible refine wl_store 28 size28 rfl _ _ rfl ?_ ?hx3 s ?hy3 ?_ ?_ ?hW3 ?hw3 ?hc3 ?_); (case hx3 => rfl); (case hy3 => rfl); (case hW3 => rfl); (case hw3 => simp); (case hc3 => simp))
    | ((with_reducible refine wg_load24 _ rfl ?hgd _ ?hx r 28 (heap_alloc_last w3 _) ?_); (case hx => rfl); (case hgd => rfl))
    | ((with_reducible refine wg_load24 _ rfl ?hgd _ ?hx s 28 (hg0 _) ?_); (case hx => rfl); (case hgd => rfl))
    | ((with_reducible refine wg_load25 _ rfl ?hgd _ ?hx r 28 (heap_alloc_last w3 _) ?_); (case hx => rfl); (case hgd => rfl))
    | ((with_reducible refine wg_load25 _ rfl ?hgd _ ?hx s 28 (hg0 _) ?_); (case hx => rfl); (case hgd => rfl))
    | ((with_reducible refine wl_load 28 isRow28 size28 rfl _ rfl _ ?hx r 28 (heap_alloc_last w3 _) ?_); (case hx => rfl))
    | ((with_reducible refine wl_load 28 isRow28 size28 rfl _ rfl _ ?hx s 28 (hg0 _) ?_); (case hx => rfl))
    | ((with_reducible refine wl_load 28 isRow28 size28 rfl _ rfl _ ?hx r 28 (hg2 _ _) ?_); (case hx => rfl)))
  all_goals
    go_ret
    exact ⟨rfl, hw3.alloc (Nat.le_of_lt hz3) _⟩

set_option maxRecDepth 100000 in
set_option maxHeartbeats 4000000 in
theorem pf_P6a_t (s r : PS) (c : Int) (w : World) (HZ : ∀ w : World, Calls Try.prog 20 #[.agg s.cells, .int .u8 c] w fun e w' => e = .returned (.agg r.cells) ∧ Below w.heap.size w w')
    (n1 : 0 ≤ s.np) (n2 : s.np ≤ 23) (b1 : 0 ≤ s.pb) (b2 : s.pb ≤ 255) (c1 : 48 ≤ c) (c2 : c ≤ 57) (q1 : (c == 59) = false) (q2 : (c == 58) = false) (hp : (s.pb == 63) = false) (r33 : r.pb = (s.pb + 1) % 256) (r31 : r.np = s.np) (rP : r.paramsC = s.paramsC) (r32 : r.col = s.col) (r1 : r.dis = s.dis) (hi : s.inc = false) (r35 : r.inc = false) (ro : r.ovf = true) (x1 : s.cur < -1) (r0 : r.st = s.st) (r2 : r.frn = s.frn) (r3 : r.fin = s.fin) (rI : r.interC = s.interC) (r7 : r.nin = s.nin)
      :
    Calls Try.prog 8 #[.agg s.cells, .int .u8 c] w fun e w' => e = .returned (.bool true) ∧ Below w.heap.size w w' := by
  have n3 : ¬ 23 < s.np := by omega
  go_enter Try.func8, Try.ntmps8
  go_wp2_with (first
    | ((with_reducible refine wl_load 28 isRow28 size28 rfl _ rfl _ ?hx s 28 (heap_alloc_last w _) ?_); (case hx => rfl))
    | (go_at_call 10; refine (toZZ_any s _).mono ?_; rintro e w1 ⟨rfl, hb1⟩)
    | (go_at_call 20; refine (HZ _).mono ?_; rintro e w2 ⟨rfl, hb2⟩)
    | (go_at_call 12; refine (fromZZ_any r _).mono ?_; rintro e w3 ⟨rfl, hb3⟩; obtain ⟨hs3, hz3, hw3⟩ := pre_facts2 hb1 hb2 hb3; clear hb1 hb2 hb3; obtain ⟨k0, k1, k2, k3, k7, k31, k32, k33, k34, k35, k36⟩ := cells_of hs3;
        have hg0 := fun O => (Below.heap_alloc w3 O w.heap.size hz3).trans hs3; have hg1 := fun O O' => (Below.heap_alloc (w3.alloc O) O' w.heap.size (by simp; omega)).trans (hg0 O); have hg2 := fun O O' => heap_alloc2_old w3 O O')
    | ((with_reducible refine wl_store 28 size28 rfl _ _ rfl ?_ ?hx2 r ?hy2 ?_ ?_ ?hW2 ?hw2 ?hc2 ?_); (case hx2 => rfl); (case hy2 => rfl); (case hW2 => rfl); (case hw2 => simp); (case hc2 => simp))
    | ((with_reducible refine wl_store 28 size28 rfl _ _ rfl ?_ ?hx3 s ?hy3 ?_ ?_ ?hW3 ?hw3 ?hc3 ?_); (case hx3 => rfl); (case hy3 => rfl); (case hW3 => rfl); (case hw3 => simp); (case hc3 => simp))
    | ((with_reducible refine wg_load24 _ rfl ?hgd _ ?hx r 28 (heap_alloc_last w3 _) ?_); (case hx => rfl); (case hgd => rfl))
    | ((with_reducible refine wg_load24 _ rfl ?hgd _ ?hx s 28 (hg0 _) ?_); (case hx => rfl); (case hgd => rfl))
    | ((with_reducible refine wg_load25 _ rfl ?hgd _ ?hx r 28 (heap_alloc_last w3 _) ?_); (case hx => rfl); (case hgd => rfl))
    | ((with_reducible refine wg_load25 _ rfl ?hgd _ ?hx s 28 (hg0 _) ?_); (case hx => rfl); (case hgd => rfl))
    | ((with_reducible refine wl_load 28 isRow28 size28 rfl _ rfl _ ?hx r 28 (heap_alloc_last w3 _) ?_); (case hx => rfl))
    | ((with_reducible refine wl_load 28 isRow28 size28 rfl _ rfl _ ?hx s 28 (hg0 _) ?_); (case hx => rfl))
    | ((with_reducible refine wl_load 28 isRow28 size28 rfl _ rfl _ ?hx r 28 (hg2 _ _) ?_); (case hx => rfl)))
  all_goals
    go_ret
    exact ⟨rfl, hw3.alloc (Nat.le_of_lt hz3) _⟩
end Go.Proofs.Qxb6603776a
