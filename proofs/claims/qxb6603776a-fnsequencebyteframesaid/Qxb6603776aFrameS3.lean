import Derived.Test.Qxb6603776aBits
namespace Go.Proofs.Qxb6603776a
open Go.RowKit
set_option linter.unusedVariables false
set_option linter.unusedSimpArgs false
attribute [local go_sem] ten24 ten25 PS.c0 PS.c1 PS.c2 PS.c3 PS.c7 PS.c31 PS.c32 PS.c33 PS.c34 PS.c35 PS.c36
attribute [local go_sem] PS.s0 PS.s1 PS.s2 PS.s3 PS.s7 PS.s31 PS.s32 PS.s33 PS.s34 PS.s35 PS.s36

set_option maxRecDepth 100000 in
set_option maxHeartbeats 4000000 in
theorem sf_V6h (s r : PS) (c : Int) (w : World) (HZ : ∀ w : World, Calls Try.prog 16 #[.agg s.cells, .int .u8 c] w fun e w' => e = .returned (.tuple #[.agg r.cells, .int .u8 0]) ∧ Below w.heap.size w w')
    (i1 : 0 ≤ s.nin) (i2 : s.nin ≤ 3) (n1 : 0 ≤ s.np) (n2 : s.np ≤ 23) (b1 : 0 ≤ s.pb) (b2 : s.pb ≤ 255)
    (HP : ∀ w : World, Calls Try.prog 18 #[.agg r.cells, .agg s.cells, .int .i64 s.np] w fun e w' => e = .returned (.bool true) ∧ Below w.heap.size w w')
    (HI : ∀ w : World, Calls Try.prog 14 #[.agg r.cells, .agg s.cells, .int .i64 s.nin] w fun e w' => e = .returned (.bool true) ∧ Below w.heap.size w w')
    (r2 : r.frn = s.frn) (hc : c < 64) (s6 : (s.st == 6) = false) (s6' : (s.st != 6) = true) (r0 : r.st = 4) (r1 : r.dis = true) (r3 : r.fin = s.fin) (r32 : r.col = s.col) (r31 : r.np = s.np) (r7 : r.nin = s.nin) (pl : 63 < s.pb) (r33 : r.pb = (s.pb + 1) % 256) (r34 : r.cur = s.cur)  :
    Calls Try.prog 6 #[.agg s.cells, .int .u8 c] w fun e w' => e = .returned (.bool true) ∧ Below w.heap.size w w' := by
  have n3 : ¬ 3 < s.nin := by omega
  have n4 : ¬ 23 < s.np := by omega
  go_enter Try.func6, Try.ntmps6
  go_wp2_with (first
    | ((with_reducible refine wl_load 28 isRow28 size28 rfl _ rfl _ ?hx s 28 (heap_alloc_last w _) ?_); (case hx => rfl))
    | (go_at_call 10; refine (toZZ_any s _).mono ?_; rintro e w1 ⟨rfl, hb1⟩)
    | (go_at_call 16; refine (HZ _).mono ?_; rintro e w2 ⟨rfl, hb2⟩)
    | ((with_reducible refine wl_store 29 size29 rfl _ _ rfl ?_ ?hx1 r ?hy1 ?_ ?_ ?hW1 ?hw1 ?hc1 ?_); (case hx1 => rfl); (case hy1 => rfl); (case hW1 => rfl); (case hw1 => simp); (case hc1 => simp))
    | ((with_reducible refine wl_load 29 isRow29 size29 rfl _ rfl _ ?hx r 29 (heap_alloc_last w2 _) ?_); (case hx => rfl))
    | (go_at_call 12; refine (fromZZ_any r _).mono ?_; rintro e w3 ⟨rfl, hb3⟩; obtain ⟨hs3, hz3, hw3⟩ := pre_facts hb1 hb2 hb3; clear hb1 hb2 hb3; obtain ⟨k0, k1, k2, k3, k7, k31, k32, k33, k34, k35, k36⟩ := cells_of hs3;
        have hg0 := fun O => (Below.heap_alloc w3 O w.heap.size hz3).trans hs3)
    | ((with_reducible refine wl_store 28 size28 rfl _ _ rfl ?_ ?hx2 r ?hy2 ?_ ?_ ?hW2 ?hw2 ?hc2 ?_); (case hx2 => rfl); (case hy2 => rfl); (case hW2 => rfl); (case hw2 => simp); (case hc2 => simp))
    | ((with_reducible refine wl_load 28 isRow28 size28 rfl _ rfl _ ?hx r 28 (heap_alloc_last w3 _) ?_); (case hx => rfl))
    | ((with_reducible refine wl_load 28 isRow28 size28 rfl _ rfl _ ?hx s 28 (hg0 _) ?_); (case hx => rfl))
    | (go_at_call 18; refine (HP _).mono ?_; rintro e w4 ⟨rfl, hb4⟩; obtain ⟨hs4, hr4, hw4⟩ := mid_facts hs3 hw3 hb4; clear hb4 k0 k1 k2 k3 k7 k31 k32 k33 k34 k35 k36 hg0;
        obtain ⟨k0, k1, k2, k3, k7, k31, k32, k33, k34, k35, k36⟩ := cells_of hs4; obtain ⟨q0, q1, q2, q3, q7, q31, q32, q33, q34, q35, q36⟩ := cells_of hr4)
    | ((with_reducible refine wl_load 28 isRow28 size28 rfl _ rfl _ ?hx r 28 hr4 ?_); (case hx => rfl))
    | ((with_reducible refine wl_load 28 isRow28 size28 rfl _ rfl _ ?hx s 28 hs4 ?_); (case hx => rfl))
    | (go_at_call 14; refine (HI _).mono ?_; rintro e w5 ⟨rfl, hb5⟩; have hs5 := (hb5.block _ (heap_lt hs4)).trans hs4; have hr5 := (hb5.block _ (heap_lt hr4)).trans hr4; have hw5 := hw4.trans (hb5.mono (Nat.le_of_lt (heap_lt hs4))); have hz5 := heap_lt hs5; clear hb5 k0 k1 k2 k3 k7 k31 k32 k33 k34 k35 k36 q0 q1 q2 q3 q7 q31 q32 q33 q34 q35 q36;
        obtain ⟨k0, k1, k2, k3, k7, k31, k32, k33, k34, k35, k36⟩ := cells_of hs5; obtain ⟨q0, q1, q2, q3, q7, q31, q32, q33, q34, q35, q36⟩ := cells_of hr5))
  all_goals
    go_ret
    exact ⟨rfl, hw5⟩

set_option maxRecDepth 100000 in
set_option maxHeartbeats 4000000 in
theorem sf_V7al (s r : PS) (c : Int) (w : World) (HZ : ∀ w : World, Calls Try.prog 16 #[.agg s.cells, .int .u8 c] w fun e w' => e = .returned (.tuple #[.agg r.cells, .int .u8 0]) ∧ Below w.heap.size w w')
    (i1 : 0 ≤ s.nin) (i2 : s.nin ≤ 3) (n1 : 0 ≤ s.np) (n2 : s.np ≤ 23) (b1 : 0 ≤ s.pb) (b2 : s.pb ≤ 255)
    (HP : ∀ w : World, Calls Try.prog 18 #[.agg r.cells, .agg s.cells, .int .i64 s.np] w fun e w' => e = .returned (.bool true) ∧ Below w.heap.size w w')
    (HI : ∀ w : World, Calls Try.prog 14 #[.agg r.cells, .agg s.cells, .int .i64 s.nin] w fun e w' => e = .returned (.bool true) ∧ Below w.heap.size w w')
    (r2 : r.frn = s.frn) (hc : c < 64) (s6 : (s.st == 6) = false) (s6' : (s.st != 6) = true) (r0 : r.st = 4) (r1 : r.dis = s.dis) (r3 : r.fin = s.fin) (r32 : r.col = s.col) (r31 : r.np = s.np) (r7 : r.nin = s.nin) (pl : s.pb < 63) (r33 : r.pb = s.pb + 1) (x1 : s.cur < -1)  :
    Calls Try.prog 6 #[.agg s.cells, .int .u8 c] w fun e w' => e = .returned (.bool true) ∧ Below w.heap.size w w' := by
  have n3 : ¬ 3 < s.nin := by omega
  have n4 : ¬ 23 < s.np := by omega
  go_enter Try.func6, Try.ntmps6
  go_wp2_with (first
    | ((with_reducible refine wl_load 28 isRow28 size28 rfl _ rfl _ ?hx s 28 (heap_alloc_last w _) ?_); (case hx => rfl))
    | (go_at_call 10; refine (toZZ_any s _).mono ?_; rintro e w1 ⟨rfl, hb1⟩)
    | (go_at_call 16; refine (HZ _).mono ?_; rintro e w2 ⟨rfl, hb2⟩)
    | ((with_reducible refine wl_store 29 size29 rfl _ _ rfl ?_ ?hx1 r ?hy1 ?_ ?_ ?hW1 ?hw1 ?hc1 ?_); (case hx1 => rfl); (case hy1 => rfl); (case hW1 => rfl); (case hw1 => simp); (case hc1 => simp))
    | ((with_reducible refine wl_load 29 isRow29 size29 rfl _ rfl _ ?hx r 29 (heap_alloc_last w2 _) ?_); (case hx => rfl))
    | (go_at_call 12; refine (fromZZ_any r _).mono ?_; rintro e w3 ⟨rfl, hb3⟩; obtain ⟨hs3, hz3, hw3⟩ := pre_facts hb1 hb2 hb3; clear hb1 hb2 hb3; obtain ⟨k0, k1, k2, k3, k7, k31, k32, k33, k34, k35, k36⟩ := cells_of hs3;
        have hg0 := fun O => (Below.heap_alloc w3 O w.heap.size hz3).trans hs3)
    | ((with_reducible refine wl_store 28 size28 rfl _ _ rfl ?_ ?hx2 r ?hy2 ?_ ?_ ?hW2 ?hw2 ?hc2 ?_); (case hx2 => rfl); (case hy2 => rfl); (case hW2 => rfl); (case hw2 => simp); (case hc2 => simp))
    | ((with_reducible refine wl_load 28 isRow28 size28 rfl _ rfl _ ?hx r 28 (heap_alloc_last w3 _) ?_); (case hx => rfl))
    | ((with_reducible refine wl_load 28 isRow28 size28 rfl _ rfl _ ?hx s 28 (hg0 _) ?_); (case hx => rfl))
    | (go_at_call 18; refine (HP _).mono ?_; rintro e w4 ⟨rfl, hb4⟩; obtain ⟨hs4, hr4, hw4⟩ := mid_facts hs3 hw3 hb4; clear hb4 k0 k1 k2 k3 k7 k31 k32 k33 k34 k35 k36 hg0;
        obtain ⟨k0, k1, k2, k3, k7, k31, k32, k33, k34, k35, k36⟩ := cells_of hs4; obtain ⟨q0, q1, q2, q3, q7, q31, q32, q33, q34, q35, q36⟩ := cells_of hr4)
    | ((with_reducible refine wl_load 28 isRow28 size28 rfl _ rfl _ ?hx r 28 hr4 ?_); (case hx => rfl))
    | ((with_reducible refine wl_load 28 isRow28 size28 rfl _ rfl _ ?hx s 28 hs4 ?_); (case hx => rfl))
    | (go_at_call 14; refine (HI _).mono ?_; rintro e w5 ⟨rfl, hb5⟩; have hs5 := (hb5.block _ (heap_lt hs4)).trans hs4; have hr5 := (hb5.block _ (heap_lt hr4)).trans hr4; have hw5 := hw4.trans (hb5.mono (Nat.le_of_lt (heap_lt hs4))); have hz5 := heap_lt hs5; clear hb5 k0 k1 k2 k3 k7 k31 k32 k33 k34 k35 k36 q0 q1 q2 q3 q7 q31 q32 q33 q34 q35 q36;
        obtain ⟨k0, k1, k2, k3, k7, k31, k32, k33, k34, k35, k36⟩ := cells_of hs5; obtain ⟨q0, q1, q2, q3, q7, q31, q32, q33, q34, q35, q36⟩ := cells_of hr5))
  all_goals
    go_ret
    exact ⟨rfl, hw5⟩

set_option maxRecDepth 100000 in
set_option maxHeartbeats 4000000 in
theorem sf_V7bl (s r : PS) (c : Int) (w : World) (HZ : ∀ w : World, Calls Try.prog 16 #[.agg s.cells, .int .u8 c] w fun e w' => e = .returned (.tuple #[.agg r.cells, .int .u8 0]) ∧ Below w.heap.size w w')
    (i1 : 0 ≤ s.nin) (i2 : s.nin ≤ 3) (n1 : 0 ≤ s.np) (n2 : s.np ≤ 23) (b1 : 0 ≤ s.pb) (b2 : s.pb ≤ 255)
    (HP : ∀ w : World, Calls Try.prog 18 #[.agg r.cells, .agg s.cells, .int .i64 s.np] w fun e w' => e = .returned (.bool true) ∧ Below w.heap.size w w')
    (HI : ∀ w : World, Calls Try.prog 14 #[.agg r.cells, .agg s.cells, .int .i64 s.nin] w fun e w' => e = .returned (.bool true) ∧ Below w.heap.size w w')
    (r2 : r.frn = s.frn) (hc : c < 64) (s6 : (s.st == 6) = false) (s6' : (s.st != 6) = true) (r0 : r.st = 4) (r1 : r.dis = s.dis) (r3 : r.fin = s.fin) (r32 : r.col = s.col) (r31 : r.np = s.np) (r7 : r.nin = s.nin) (pl : s.pb < 63) (r33 : r.pb = s.pb + 1) (x1 : -1 ≤ s.cur) (x2 : s.cur ≤ 2147483647) (y1 : -1 ≤ r.cur) (y2 : r.cur ≤ 2147483647)  :
    Calls Try.prog 6 #[.agg s.cells, .int .u8 c] w fun e w' => e = .returned (.bool true) ∧ Below w.heap.size w w' := by
  have n3 : ¬ 3 < s.nin := by omega
  have n4 : ¬ 23 < s.np := by omega
  go_enter Try.func6, Try.ntmps6
  go_wp2_with (first
    | ((with_reducible refine wl_load 28 isRow28 size28 rfl _ rfl _ ?hx s 28 (heap_alloc_last w _) ?_); (case hx => rfl))
    | (go_at_call 10; refine (toZZ_any s _).mono ?_; rintro e w1 ⟨rfl, hb1⟩)
    | (go_at_call 16; refine (HZ _).mono ?_; rintro e w2 ⟨rfl, hb2⟩)
    | ((with_reducible refine wl_store 29 size29 rfl _ _ rfl ?_ ?hx1 r ?hy1 ?_ ?_ ?hW1 ?hw1 ?hc1 ?_); (case hx1 => rfl); (case hy1 => rfl); (case hW1 => rfl); (case hw1 => simp); (case hc1 => simp))
    | ((with_reducible refine wl_load 29 isRow29 size29 rfl _ rfl _ ?hx r 29 (heap_alloc_last w2 _) ?_); (case hx => rfl))
    | (go_at_call 12; refine (fromZZ_any r _).mono ?_; rintro e w3 ⟨rfl, hb3⟩; obtain ⟨hs3, hz3, hw3⟩ := pre_facts hb1 hb2 hb3; clear hb1 hb2 hb3; obtain ⟨k0, k1, k2, k3, k7, k31, k32, k33, k34, k35, k36⟩ := cells_of hs3;
        have hg0 := fun O => (Below.heap_alloc w3 O w.heap.size hz3).trans hs3)
    | ((with_reducible refine wl_store 28 size28 rfl _ _ rfl ?_ ?hx2 r ?hy2 ?_ ?_ ?hW2 ?hw2 ?hc2 ?_); (case hx2 => rfl); (case hy2 => rfl); (case hW2 => rfl); (case hw2 => simp); (case hc2 => simp))
    | ((with_reducible refine wl_load 28 isRow28 size28 rfl _ rfl _ ?hx r 28 (heap_alloc_last w3 _) ?_); (case hx => rfl))
    | ((with_reducible refine wl_load 28 isRow28 size28 rfl _ rfl _ ?hx s 28 (hg0 _) ?_); (case hx => rfl))
    | (go_at_call 18; refine (HP _).mono ?_; rintro e w4 ⟨rfl, hb4⟩; obtain ⟨hs4, hr4, hw4⟩ := mid_facts hs3 hw3 hb4; clear hb4 k0 k1 k2 k3 k7 k31 k32 k33 k34 k35 k36 hg0;
        obtain ⟨k0, k1, k2, k3, k7, k31, k32, k33, k34, k35, k36⟩ := cells_of hs4; obtain ⟨q0, q1, q2, q3, q7, q31, q32, q33, q34, q35, q36⟩ := cells_of hr4)
    | ((with_reducible refine wl_load 28 isRow28 size28 rfl _ rfl _ ?hx r 28 hr4 ?_); (case hx => rfl))
    | ((with_reducible refine wl_load 28 isRow28 size28 rfl _ rfl _ ?hx s 28 hs4 ?_); (case hx => rfl))
    | (go_at_call 14; refine (HI _).mono ?_; rintro e w5 ⟨rfl, hb5⟩; have hs5 := (hb5.block _ (heap_lt hs4)).trans hs4; have hr5 := (hb5.block _ (heap_lt hr4)).trans hr4; have hw5 := hw4.trans (hb5.mono (Nat.le_of_lt (heap_lt hs4))); have hz5 := heap_lt hs5; clear hb5 k0 k1 k2 k3 k7 k31 k32 k33 k34 k35 k36 q0 q1 q2 q3 q7 q31 q32 q33 q34 q35 q36;
        obtain ⟨k0, k1, k2, k3, k7, k31, k32, k33, k34, k35, k36⟩ := cells_of hs5; obtain ⟨q0, q1, q2, q3, q7, q31, q32, q33, q34, q35, q36⟩ := cells_of hr5))
  all_goals
    go_ret
    exact ⟨rfl, hw5⟩

set_option maxRecDepth 100000 in
set_option maxHeartbeats 4000000 in
theorem sf_V7cl (s r : PS) (c : Int) (w : World) (HZ : ∀ w : World, Calls Try.prog 16 #[.agg s.cells, .int .u8 c] w fun e w' => e = .returned (.tuple #[.agg r.cells, .int .u8 0]) ∧ Below w.heap.size w w')
    (i1 : 0 ≤ s.nin) (i2 : s.nin ≤ 3) (n1 : 0 ≤ s.np) (n2 : s.np ≤ 23) (b1 : 0 ≤ s.pb) (b2 : s.pb ≤ 255)
    (HP : ∀ w : World, Calls Try.prog 18 #[.agg r.cells, .agg s.cells, .int .i64 s.np] w fun e w' => e = .returned (.bool true) ∧ Below w.heap.size w w')
    (HI : ∀ w : World, Calls Try.prog 14 #[.agg r.cells, .agg s.cells, .int .i64 s.nin] w fun e w' => e = .returned (.bool true) ∧ Below w.heap.size w w')
    (r2 : r.frn = s.frn) (hc : c < 64) (s6 : (s.st == 6) = false) (s6' : (s.st != 6) = true) (r0 : r.st = 4) (r1 : r.dis = s.dis) (r3 : r.fin = s.fin) (r32 : r.col = s.col) (r31 : r.np = s.np) (r7 : r.nin = s.nin) (pl : s.pb < 63) (r33 : r.pb = s.pb + 1) (x1 : 2147483647 < s.cur)  :
    Calls Try.prog 6 #[.agg s.cells, .int .u8 c] w fun e w' => e = .returned (.bool true) ∧ Below w.heap.size w w' := by
  have n3 : ¬ 3 < s.nin := by omega
  have n4 : ¬ 23 < s.np := by omega
  go_enter Try.func6, Try.ntmps6
  go_wp2_with (first
    | ((with_reducible refine wl_load 28 isRow28 size28 rfl _ rfl _ ?hx s 28 (heap_alloc_last w _) ?_); (case hx => rfl))
    | (go_at_call 10; refine (toZZ_any s _).mono ?_; rintro e w1 ⟨rfl, hb1⟩)
    | (go_at_call 16; refine (HZ _).mono ?_; rintro e w2 ⟨rfl, hb2⟩)
    | ((with_reducible refine wl_store 29 size29 rfl _ _ rfl ?_ ?hx1 r ?hy1 ?_ ?_ ?hW1 ?hw1 ?hc1 ?_); (case hx1 => rfl); (case hy1 => rfl); (case hW1 => rfl); (case hw1 => simp); (case hc1 => simp))
    | ((with_reducible refine wl_load 29 isRow29 size29 rfl _ rfl _ ?hx r 29 (heap_alloc_last w2 _) ?_); (case hx => rfl))
    | (go_at_call 12; refine (fromZZ_any r _).mono ?_; rintro e w3 ⟨rfl, hb3⟩; obtain ⟨hs3, hz3, hw3⟩ := pre_facts hb1 hb2 hb3; clear hb1 hb2 hb3; obtain ⟨k0, k1, k2, k3, k7, k31, k32, k33, k34, k35, k36⟩ := cells_of hs3;
        have hg0 := fun O => (Below.heap_alloc w3 O w.heap.size hz3).trans hs3)
    | ((with_reducible refine wl_store 28 size28 rfl _ _ rfl ?_ ?hx2 r ?hy2 ?_ ?_ ?hW2 ?hw2 ?hc2 ?_); (case hx2 => rfl); (case hy2 => rfl); (case hW2 => rfl); (case hw2 => simp); (case hc2 => simp))
    | ((with_reducible refine wl_load 28 isRow28 size28 rfl _ rfl _ ?hx r 28 (heap_alloc_last w3 _) ?_); (case hx => rfl))
    | ((with_reducible refine wl_load 28 isRow28 size28 rfl _ rfl _ ?hx s 28 (hg0 _) ?_); (case hx => rfl))
    | (go_at_call 18; refine (HP _).mono ?_; rintro e w4 ⟨rfl, hb4⟩; obtain ⟨hs4, hr4, hw4⟩ := mid_facts hs3 hw3 hb4; clear hb4 k0 k1 k2 k3 k7 k31 k32 k33 k34 k35 k36 hg0;
        obtain ⟨k0, k1, k2, k3, k7, k31, k32, k33, k34, k35, k36⟩ := cells_of hs4; obtain ⟨q0, q1, q2, q3, q7, q31, q32, q33, q34, q35, q36⟩ := cells_of hr4)
    | ((with_reducible refine wl_load 28 isRow28 size28 rfl _ rfl _ ?hx r 28 hr4 ?_); (case hx => rfl))
    | ((with_reducible refine wl_load 28 isRow28 size28 rfl _ rfl _ ?hx s 28 hs4 ?_); (case hx => rfl))
    | (go_at_call 14; refine (HI _).mono ?_; rintro e w5 ⟨rfl, hb5⟩; have hs5 := (hb5.block _ (heap_lt hs4)).trans hs4; have hr5 := (hb5.block _ (heap_lt hr4)).trans hr4; have hw5 := hw4.trans (hb5.mono (Nat.le_of_lt (heap_lt hs4))); have hz5 := heap_lt hs5; clear hb5 k0 k1 k2 k3 k7 k31 k32 k33 k34 k35 k36 q0 q1 q2 q3 q7 q31 q32 q33 q34 q35 q36;
        obtain ⟨k0, k1, k2, k3, k7, k31, k32, k33, k34, k35, k36⟩ := cells_of hs5; obtain ⟨q0, q1, q2, q3, q7, q31, q32, q33, q34, q35, q36⟩ := cells_of hr5))
  all_goals
    go_ret
    exact ⟨rfl, hw5⟩
end Go.Proofs.Qxb6603776a
