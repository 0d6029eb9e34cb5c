import Derived.Test.Qxb6602681aMatch2
namespace Go.Proofs.Qxb6602681a
open Go.RowKit
set_option linter.unusedVariables false
set_option linter.unusedSimpArgs false

set_option maxRecDepth 100000 in
set_option maxHeartbeats 1000000 in
theorem m_E1 (typ height lo hi fp tp cTyp cHeight cEpoch : Int) (a1 a2 : Option Addr) (l1 m1 l2 m2 : Nat) (w : World) (z1 : l1 ≤ 9223372036854775807) (z2 : l2 ≤ 9223372036854775807) (h : 1048576 < l1 + l2) :
    Calls Try.prog 5 #[.int .i64 typ, .int .i64 height, .int .i64 lo, .int .i64 hi, .slice a1 l1 m1, .slice a2 l2 m2, .int .i64 fp, .int .i64 tp, .int .i64 cTyp, .int .i64 cHeight, .int .i64 cEpoch] w
      fun e w' => e = .returned (.bool true) ∧ Below w.heap.size w w' := by
  go_enter Try.func5, Try.ntmps5
  go_wp2_with (first | (go_at_call 11; refine (zz11_no _ _ _ _ _ _ _ _ _ _ _ _ _ _ _ _ h z1 z2).mono ?_; rintro e w' ⟨rfl, rfl⟩))
  go_ret
  exact ⟨rfl, Below.refl _ _⟩
set_option maxRecDepth 100000 in
set_option maxHeartbeats 1000000 in
theorem m_E2 (typ height lo hi fp tp cTyp cHeight cEpoch : Int) (a1 a2 : Option Addr) (l1 m1 l2 m2 : Nat) (w : World) (z1 : l1 ≤ 9223372036854775807) (z2 : l2 ≤ 9223372036854775807) (h : l1 + l2 ≤ 1048576) (hh : 524288 < l1 ∨ 524288 < l2) :
    Calls Try.prog 5 #[.int .i64 typ, .int .i64 height, .int .i64 lo, .int .i64 hi, .slice a1 l1 m1, .slice a2 l2 m2, .int .i64 fp, .int .i64 tp, .int .i64 cTyp, .int .i64 cHeight, .int .i64 cEpoch] w
      fun e w' => e = .returned (.bool true) ∧ Below w.heap.size w w' := by
  by_cases h1 : 524288 < l1
  · clear hh
    go_enter Try.func5, Try.ntmps5
    go_wp2_with (first | (go_at_call 11; refine (zz11_yes _ _ _ _ _ _ _ _ _ _ _ _ _ _ _ _ h).mono ?_; rintro e w' ⟨rfl, rfl⟩))
    go_ret
    exact ⟨rfl, Below.refl _ _⟩
  · have h2 : 524288 < l2 := by omega
    clear hh
    go_enter Try.func5, Try.ntmps5
    go_wp2_with (first | (go_at_call 11; refine (zz11_yes _ _ _ _ _ _ _ _ _ _ _ _ _ _ _ _ h).mono ?_; rintro e w' ⟨rfl, rfl⟩))
    go_ret
    exact ⟨rfl, Below.refl _ _⟩
set_option maxRecDepth 100000 in
set_option maxHeartbeats 1000000 in
theorem m_E3 (typ height lo hi fp tp cTyp cHeight cEpoch : Int) (x1 : Addr) (a2 : Option Addr) (l1 m1 l2 m2 : Nat) (w : World) (y1 : l1 ≤ 524288) (y2 : l2 ≤ 524288) (hh : fp < 0 ∨ (l1 : Int) ≤ fp) :
    Calls Try.prog 5 #[.int .i64 typ, .int .i64 height, .int .i64 lo, .int .i64 hi, .slice (some x1) l1 m1, .slice a2 l2 m2, .int .i64 fp, .int .i64 tp, .int .i64 cTyp, .int .i64 cHeight, .int .i64 cEpoch] w
      fun e w' => e = .returned (.bool true) ∧ Below w.heap.size w w' := by
  have ns := fun (w : World) a n c => run_neq_slice_nil_any (P := Try.prog) w 28 4 a n c 0 0 Try.underlying28
  have h : l1 + l2 ≤ 1048576 := by omega
  by_cases h1 : fp < 0
  · clear hh
    go_enter Try.func5, Try.ntmps5
    go_wp2_with (first | (go_at_call 11; refine (zz11_yes _ _ _ _ _ _ _ _ _ _ _ _ _ _ _ _ h).mono ?_; rintro e w' ⟨rfl, rfl⟩))
    go_ret
    exact ⟨rfl, Below.refl _ _⟩
  · have h2 : (l1 : Int) ≤ fp := by omega
    clear hh
    go_enter Try.func5, Try.ntmps5
    go_wp2_with (first | (go_at_call 11; refine (zz11_yes _ _ _ _ _ _ _ _ _ _ _ _ _ _ _ _ h).mono ?_; rintro e w' ⟨rfl, rfl⟩))
    go_ret
    exact ⟨rfl, Below.refl _ _⟩
set_option maxRecDepth 100000 in
set_option maxHeartbeats 1000000 in
theorem m_E4 (typ height lo hi fp tp cTyp cHeight cEpoch : Int) (a1 : Option Addr) (x2 : Addr) (l1 m1 l2 m2 : Nat) (w : World) (y1 : l1 ≤ 524288) (y2 : l2 ≤ 524288) (h0 : a1 = none ∨ (∃ x1, a1 = some x1) ∧ 0 ≤ fp ∧ fp < l1) (hh : tp < 0 ∨ (l2 : Int) ≤ tp) :
    Calls Try.prog 5 #[.int .i64 typ, .int .i64 height, .int .i64 lo, .int .i64 hi, .slice a1 l1 m1, .slice (some x2) l2 m2, .int .i64 fp, .int .i64 tp, .int .i64 cTyp, .int .i64 cHeight, .int .i64 cEpoch] w
      fun e w' => e = .returned (.bool true) ∧ Below w.heap.size w w' := by
  have ns := fun (w : World) a n c => run_neq_slice_nil_any (P := Try.prog) w 28 4 a n c 0 0 Try.underlying28
  have h : l1 + l2 ≤ 1048576 := by omega
  rcases h0 with rfl | ⟨⟨x1, rfl⟩, p1, p2⟩
  all_goals
    by_cases h1 : tp < 0
    · clear hh
      go_enter Try.func5, Try.ntmps5
      go_wp2_with (first | (go_at_call 11; refine (zz11_yes _ _ _ _ _ _ _ _ _ _ _ _ _ _ _ _ h).mono ?_; rintro e w' ⟨rfl, rfl⟩))
      go_ret
      exact ⟨rfl, Below.refl _ _⟩
    · have h2 : (l2 : Int) ≤ tp := by omega
      clear hh
      go_enter Try.func5, Try.ntmps5
      go_wp2_with (first | (go_at_call 11; refine (zz11_yes _ _ _ _ _ _ _ _ _ _ _ _ _ _ _ _ h).mono ?_; rintro e w' ⟨rfl, rfl⟩))
      go_ret
      exact ⟨rfl, Below.refl _ _⟩
end Go.Proofs.Qxb6602681a
