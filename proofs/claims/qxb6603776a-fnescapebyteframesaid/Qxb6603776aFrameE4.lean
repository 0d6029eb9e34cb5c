import Derived.Test.Qxb6603776aFacts
namespace Go.Proofs.Qxb6603776a
open Go.RowKit
set_option linter.unusedVariables false
attribute [local go_sem] ten24 ten25 PS.c0 PS.c1 PS.c2 PS.c3 PS.c7 PS.c31 PS.c32 PS.c33 PS.c34 PS.c35 PS.c36


set_option maxRecDepth 100000 in
set_option maxHeartbeats 2000000 in
theorem frame_I (s r : PS) (c : Int) (w : World) (HZ : ∀ w : World, Calls Try.prog 11 #[.agg s.cells, .int .u8 c] w fun e w' => e = .returned (.tuple #[.agg r.cells, .int .u8 3]) ∧ Below w.heap.size w w')
    (n1 : 0 ≤ s.nin) (n2 : s.nin ≤ 3) (hc : 48 ≤ c) (hc2 : (c == 91) = false) (hs : (s.st == 2) = false) (d : s.dis = false) (r0 : r.st = 0) (r1 : r.dis = false) (r3 : r.fin = c) (r2 : r.frn = s.frn) (rP : r.paramsC = s.paramsC) (rI : r.interC = s.interC) (r7 : r.nin = s.nin) (r31 : r.np = s.np) (r32 : r.col = s.col) (r33 : r.pb = s.pb) (r34 : r.cur = s.cur) (r35 : r.inc = s.inc) (r36 : r.ovf = s.ovf)
    (HI : ∀ w : World, Calls Try.prog 14 #[.agg r.cells, .agg s.cells, .int .i64 s.nin] w fun e w' => e = .returned (.bool true) ∧ Below w.heap.size w w') :
    Calls Try.prog 4 #[.agg s.cells, .int .u8 c] w fun e w' => e = .returned (.bool true) ∧ Below w.heap.size w w' := by
  have n3 : ¬ 3 < s.nin := by omega
  go_enter Try.func4, Try.ntmps4
  go_wp2_with (first
    | ((with_reducible refine wl_load 28 isRow28 size28 rfl _ rfl _ ?hx s 28 (heap_alloc_last w _) ?_); (case hx => rfl))
    | (go_at_call 10; refine (toZZ_any s _).mono ?_; rintro e w1 ⟨rfl, hb1⟩)
    | (go_at_call 11; refine (HZ _).mono ?_; rintro e w2 ⟨rfl, hb2⟩)
    | ((with_reducible refine wl_store 29 size29 rfl _ _ rfl ?g ?hx r ?hy ?c ?W ?hW ?hw ?hc ?_); (case hx => rfl); (case hy => rfl); (case hW => rfl); (case hw => simp); (case hc => simp))
    | ((with_reducible refine wl_load 29 isRow29 size29 rfl _ rfl _ ?hx r 29 (heap_alloc_last w2 _) ?_); (case hx => rfl))
    | (go_at_call 12; refine (fromZZ_any r _).mono ?_; rintro e w3 ⟨rfl, hb3⟩; obtain ⟨hs3, hz3, hw3⟩ := pre_facts hb1 hb2 hb3; clear hb1 hb2 hb3; obtain ⟨k0, k1, k2, k3, k7, k31, k32, k33, k34, k35, k36⟩ := cells_of hs3;
        have hg0 := fun O => (Below.heap_alloc w3 O w.heap.size hz3).trans hs3)
    | ((with_reducible refine wl_store 28 size28 rfl _ _ rfl ?g2 ?hx2 r ?hy2 ?c2 ?W2 ?hW2 ?hw2 ?hc2 ?_); (case hx2 => rfl); (case hy2 => rfl); (case hW2 => rfl); (case hw2 => simp); (case hc2 => simp))
    | ((with_reducible refine wg_load25 _ rfl ?hgd _ ?hx r 28 (heap_alloc_last w3 _) ?_); (case hx => rfl); (case hgd => rfl))
    | ((with_reducible refine wg_load25 _ rfl ?hgd _ ?hx s 28 (hg0 _) ?_); (case hx => rfl); (case hgd => rfl))
    | ((with_reducible refine wl_load 28 isRow28 size28 rfl _ rfl _ ?hx r 28 (heap_alloc_last w3 _) ?_); (case hx => rfl))
    | ((with_reducible refine wl_load 28 isRow28 size28 rfl _ rfl _ ?hx s 28 (hg0 _) ?_); (case hx => rfl))
    | (go_at_call 14; refine (HI _).mono ?_; rintro e w4 ⟨rfl, hb4⟩; obtain ⟨hs4, hr4, hw4⟩ := mid_facts hs3 hw3 hb4; clear hb4 k0 k1 k2 k3 k7 k31 k32 k33 k34 k35 k36 hg0;
        obtain ⟨k0, k1, k2, k3, k7, k31, k32, k33, k34, k35, k36⟩ := cells_of hs4; obtain ⟨q0, q1, q2, q3, q7, q31, q32, q33, q34, q35, q36⟩ := cells_of hr4)
    | ((with_reducible refine wg_load24 _ rfl ?hgd _ ?hx r 28 hr4 ?_); (case hx => rfl); (case hgd => rfl))
    | ((with_reducible refine wg_load24 _ rfl ?hgd _ ?hx s 28 hs4 ?_); (case hx => rfl); (case hgd => rfl)))
  all_goals
    go_ret
    exact ⟨rfl, hw4⟩

set_option maxRecDepth 100000 in
set_option maxHeartbeats 2000000 in
theorem frame_J (s r : PS) (c : Int) (w : World) (HZ : ∀ w : World, Calls Try.prog 11 #[.agg s.cells, .int .u8 c] w fun e w' => e = .returned (.tuple #[.agg r.cells, .int .u8 0]) ∧ Below w.heap.size w w')
    (n1 : 0 ≤ s.nin) (n2 : s.nin ≤ 3) (hc : 48 ≤ c) (hc2 : (c == 91) = false) (hs : (s.st == 2) = false) (d : s.dis = true) (r0 : r.st = 0) (r1 : r.dis = true) (r3 : r.fin = s.fin) (r2 : r.frn = s.frn) (rP : r.paramsC = s.paramsC) (rI : r.interC = s.interC) (r7 : r.nin = s.nin) (r31 : r.np = s.np) (r32 : r.col = s.col) (r33 : r.pb = s.pb) (r34 : r.cur = s.cur) (r35 : r.inc = s.inc) (r36 : r.ovf = s.ovf)
    (HI : ∀ w : World, Calls Try.prog 14 #[.agg r.cells, .agg s.cells, .int .i64 s.nin] w fun e w' => e = .returned (.bool true) ∧ Below w.heap.size w w') :
    Calls Try.prog 4 #[.agg s.cells, .int .u8 c] w fun e w' => e = .returned (.bool true) ∧ Below w.heap.size w w' := by
  have n3 : ¬ 3 < s.nin := by omega
  go_enter Try.func4, Try.ntmps4
  go_wp2_with (first
    | ((with_reducible refine wl_load 28 isRow28 size28 rfl _ rfl _ ?hx s 28 (heap_alloc_last w _) ?_); (case hx => rfl))
    | (go_at_call 10; refine (toZZ_any s _).mono ?_; rintro e w1 ⟨rfl, hb1⟩)
    | (go_at_call 11; refine (HZ _).mono ?_; rintro e w2 ⟨rfl, hb2⟩)
    | ((with_reducible refine wl_store 29 size29 rfl _ _ rfl ?g ?hx r ?hy ?c ?W ?hW ?hw ?hc ?_); (case hx => rfl); (case hy => rfl); (case hW => rfl); (case hw => simp); (case hc => simp))
    | ((with_reducible refine wl_load 29 isRow29 size29 rfl _ rfl _ ?hx r 29 (heap_alloc_last w2 _) ?_); (case hx => rfl))
    | (go_at_call 12; refine (fromZZ_any r _).mono ?_; rintro e w3 ⟨rfl, hb3⟩; obtain ⟨hs3, hz3, hw3⟩ := pre_facts hb1 hb2 hb3; clear hb1 hb2 hb3; obtain ⟨k0, k1, k2, k3, k7, k31, k32, k33, k34, k35, k36⟩ := cells_of hs3;
        have hg0 := fun O => (Below.heap_alloc w3 O w.heap.size hz3).trans hs3)
    | ((with_reducible refine wl_store 28 size28 rfl _ _ rfl ?g2 ?hx2 r ?hy2 ?c2 ?W2 ?hW2 ?hw2 ?hc2 ?_); (case hx2 => rfl); (case hy2 => rfl); (case hW2 => rfl); (case hw2 => simp); (case hc2 => simp))
    | ((with_reducible refine wg_load25 _ rfl ?hgd _ ?hx r 28 (heap_alloc_last w3 _) ?_); (case hx => rfl); (case hgd => rfl))
    | ((with_reducible refine wg_load25 _ rfl ?hgd _ ?hx s 28 (hg0 _) ?_); (case hx => rfl); (case hgd => rfl))
    | ((with_reducible refine wl_load 28 isRow28 size28 rfl _ rfl _ ?hx r 28 (heap_alloc_last w3 _) ?_); (case hx => rfl))
    | ((with_reducible refine wl_load 28 isRow28 size28 rfl _ rfl _ ?hx s 28 (hg0 _) ?_); (case hx => rfl))
    | (go_at_call 14; refine (HI _).mono ?_; rintro e w4 ⟨rfl, hb4⟩; obtain ⟨hs4, hr4, hw4⟩ := mid_facts hs3 hw3 hb4; clear hb4 k0 k1 k2 k3 k7 k31 k32 k33 k34 k35 k36 hg0;
        obtain ⟨k0, k1, k2, k3, k7, k31, k32, k33, k34, k35, k36⟩ := cells_of hs4; obtain ⟨q0, q1, q2, q3, q7, q31, q32, q33, q34, q35, q36⟩ := cells_of hr4)
    | ((with_reducible refine wg_load24 _ rfl ?hgd _ ?hx r 28 hr4 ?_); (case hx => rfl); (case hgd => rfl))
    | ((with_reducible refine wg_load24 _ rfl ?hgd _ ?hx s 28 hs4 ?_); (case hx => rfl); (case hgd => rfl)))
  all_goals
    go_ret
    exact ⟨rfl, hw4⟩
set_option maxRecDepth 100000 in
set_option maxHeartbeats 2000000 in
theorem frame_E_false (s r : PS) (w : World) (HZ : ∀ w : World, Calls Try.prog 11 #[.agg s.cells, .int .u8 91] w fun e w' => e = .returned (.tuple #[.agg r.cells, .int .u8 0]) ∧ Below w.heap.size w w')
    (n1 : 0 ≤ s.nin) (n2 : s.nin ≤ 3) (hs : (s.st == 2) = false) (d : s.dis = false) (r0 : r.st = 3) (r1 : r.dis = false) (r3 : r.fin = s.fin) (r2 : r.frn = s.frn) (rP : r.paramsC = s.paramsC) (rI : r.interC = s.interC) (r7 : r.nin = s.nin) (r31 : r.np = 0) (r32 : r.col = 0) (r33 : r.pb = 0) (r34 : r.cur = -1) (r35 : r.inc = false) (r36 : r.ovf = false)
    (HI : ∀ w : World, Calls Try.prog 14 #[.agg r.cells, .agg s.cells, .int .i64 s.nin] w fun e w' => e = .returned (.bool true) ∧ Below w.heap.size w w') :
    Calls Try.prog 4 #[.agg s.cells, .int .u8 91] w fun e w' => e = .returned (.bool true) ∧ Below w.heap.size w w' := by
  have n3 : ¬ 3 < s.nin := by omega
  go_enter Try.func4, Try.ntmps4
  go_wp2_with (first
    | ((with_reducible refine wl_load 28 isRow28 size28 rfl _ rfl _ ?hx s 28 (heap_alloc_last w _) ?_); (case hx => rfl))
    | (go_at_call 10; refine (toZZ_any s _).mono ?_; rintro e w1 ⟨rfl, hb1⟩)
    | (go_at_call 11; refine (HZ _).mono ?_; rintro e w2 ⟨rfl, hb2⟩)
    | ((with_reducible refine wl_store 29 size29 rfl _ _ rfl ?g ?hx r ?hy ?c ?W ?hW ?hw ?hc ?_); (case hx => rfl); (case hy => rfl); (case hW => rfl); (case hw => simp); (case hc => simp))
    | ((with_reducible refine wl_load 29 isRow29 size29 rfl _ rfl _ ?hx r 29 (heap_alloc_last w2 _) ?_); (case hx => rfl))
    | (go_at_call 12; refine (fromZZ_any r _).mono ?_; rintro e w3 ⟨rfl, hb3⟩; obtain ⟨hs3, hz3, hw3⟩ := pre_facts hb1 hb2 hb3; clear hb1 hb2 hb3; obtain ⟨k0, k1, k2, k3, k7, k31, k32, k33, k34, k35, k36⟩ := cells_of hs3;
        have hg0 := fun O => (Below.heap_alloc w3 O w.heap.size hz3).trans hs3)
    | ((with_reducible refine wl_store 28 size28 rfl _ _ rfl ?g2 ?hx2 r ?hy2 ?c2 ?W2 ?hW2 ?hw2 ?hc2 ?_); (case hx2 => rfl); (case hy2 => rfl); (case hW2 => rfl); (case hw2 => simp); (case hc2 => simp))
    | ((with_reducible refine wg_load25 _ rfl ?hgd _ ?hx r 28 (heap_alloc_last w3 _) ?_); (case hx => rfl); (case hgd => rfl))
    | ((with_reducible refine wg_load25 _ rfl ?hgd _ ?hx s 28 (hg0 _) ?_); (case hx => rfl); (case hgd => rfl))
    | ((with_reducible refine wl_load 28 isRow28 size28 rfl _ rfl _ ?hx r 28 (heap_alloc_last w3 _) ?_); (case hx => rfl))
    | ((with_reducible refine wl_load 28 isRow28 size28 rfl _ rfl _ ?hx s 28 (hg0 _) ?_); (case hx => rfl))
    | (go_at_call 14; refine (HI _).mono ?_; rintro e w4 ⟨rfl, hb4⟩; obtain ⟨hs4, hr4, hw4⟩ := mid_facts hs3 hw3 hb4; clear hb4 k0 k1 k2 k3 k7 k31 k32 k33 k34 k35 k36 hg0;
        obtain ⟨k0, k1, k2, k3, k7, k31, k32, k33, k34, k35, k36⟩ := cells_of hs4; obtain ⟨q0, q1, q2, q3, q7, q31, q32, q33, q34, q35, q36⟩ := cells_of hr4)
    | ((with_reducible refine wg_load24 _ rfl ?hgd _ ?hx r 28 hr4 ?_); (case hx => rfl); (case hgd => rfl))
    | ((with_reducible refine wg_load24 _ rfl ?hgd _ ?hx s 28 hs4 ?_); (case hx => rfl); (case hgd => rfl)))
  all_goals
    go_ret
    exact ⟨rfl, hw4⟩

end Go.Proofs.Qxb6603776a
