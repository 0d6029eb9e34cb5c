import Derived.Test.Qxb6603776aPlainS
import Derived.Test.Qxb6603776aLaws3
import Derived.RegionTactic
import Derived.Orders
namespace Go.Proofs.Qxb6603776a
open Go.RowKit
set_option linter.unusedVariables false
set_option linter.unusedSimpArgs false
set_option maxRecDepth 100000
set_option maxHeartbeats 4000000

theorem zz15_yes (a : Option Addr) (len cap : Nat) (mk f : Int) (w : World) (h : len ≤ 1048576) : Calls Try.prog 15 #[.slice a len cap, .int .u8 mk, .int .u8 f] w fun e w' => e = .returned (.bool true) ∧ w = w' := by
  go_enter Try.func15, Try.ntmps15
  go_wp2
  go_ret
  exact ⟨rfl, rfl⟩
theorem zz15_no (a : Option Addr) (len cap : Nat) (mk f : Int) (w : World) (h : 1048576 < len) (h2 : len ≤ 9223372036854775807) : Calls Try.prog 15 #[.slice a len cap, .int .u8 mk, .int .u8 f] w fun e w' => e = .returned (.bool false) ∧ w = w' := by
  go_enter Try.func15, Try.ntmps15
  go_wp2
  go_ret
  exact ⟨rfl, rfl⟩
theorem rt_long (a : Option Addr) (len cap : Nat) (mk f : Int) (w : World) (h : 1048576 < len) (h2 : len ≤ 9223372036854775807) :
    Calls Try.prog 5 #[.slice a len cap, .int .u8 mk, .int .u8 f] w fun e w' => e = .returned (.bool true) ∧ Below w.heap.size w w' := by
  go_enter Try.func5, Try.ntmps5
  go_wp2_with (first | (go_at_call 15; refine (zz15_no _ _ _ _ _ _ h h2).mono ?_; rintro e w' ⟨rfl, rfl⟩))
  go_ret
  exact ⟨rfl, Below.refl _ _⟩
theorem rt_wide (a : Option Addr) (len cap : Nat) (mk f : Int) (w : World) (h : len ≤ 1048576) (h2 : 131072 < len) :
    Calls Try.prog 5 #[.slice a len cap, .int .u8 mk, .int .u8 f] w fun e w' => e = .returned (.bool true) ∧ Below w.heap.size w w' := by
  go_enter Try.func5, Try.ntmps5
  go_wp2_with (first | (go_at_call 15; refine (zz15_yes _ _ _ _ _ _ h).mono ?_; rintro e w' ⟨rfl, rfl⟩))
  go_ret
  exact ⟨rfl, Below.refl _ _⟩
theorem rt_none (a : Option Addr) (cap : Nat) (mk f : Int) (w : World) :
    Calls Try.prog 5 #[.slice a 0 cap, .int .u8 mk, .int .u8 f] w fun e w' => e = .returned (.bool true) ∧ Below w.heap.size w w' := by
  go_enter Try.func5, Try.ntmps5
  go_wp2_with (first | (go_at_call 15; refine (zz15_yes _ _ _ _ _ _ (Nat.zero_le _)).mono ?_; rintro e w' ⟨rfl, rfl⟩))
  go_ret
  exact ⟨rfl, Below.refl _ _⟩
theorem rt_fin (a : Option Addr) (len cap : Nat) (mk f : Int) (w : World) (h : len ≤ 131072) (h0 : 0 < len) (hf : f < 64 ∨ 126 < f) :
    Calls Try.prog 5 #[.slice a len cap, .int .u8 mk, .int .u8 f] w fun e w' => e = .returned (.bool true) ∧ Below w.heap.size w w' := by
  have hb : ((len : Int) == 0) = false := by simp; omega
  rcases hf with hf | hf
  · go_enter Try.func5, Try.ntmps5
    go_wp2_with (first | (go_at_call 15; refine (zz15_yes _ _ _ _ _ _ (by omega)).mono ?_; rintro e w' ⟨rfl, rfl⟩))
    go_ret
    exact ⟨rfl, Below.refl _ _⟩
  · go_enter Try.func5, Try.ntmps5
    go_wp2_with (first | (go_at_call 15; refine (zz15_yes _ _ _ _ _ _ (by omega)).mono ?_; rintro e w' ⟨rfl, rfl⟩))
    go_ret
    exact ⟨rfl, Below.refl _ _⟩
theorem rt_mark (a : Option Addr) (len cap : Nat) (mk f : Int) (w : World) (h : len ≤ 131072) (h0 : 0 < len) (f1 : 64 ≤ f) (f2 : f ≤ 126) (m0 : ¬ mk = 0) (hm : mk < 60 ∨ 63 < mk) :
    Calls Try.prog 5 #[.slice a len cap, .int .u8 mk, .int .u8 f] w fun e w' => e = .returned (.bool true) ∧ Below w.heap.size w w' := by
  have hb : ((len : Int) == 0) = false := by simp; omega
  have hb2 : (mk != 0) = true := by simpa using m0
  rcases hm with hm | hm
  · go_enter Try.func5, Try.ntmps5
    go_wp2_with (first | (go_at_call 15; refine (zz15_yes _ _ _ _ _ _ (by omega)).mono ?_; rintro e w' ⟨rfl, rfl⟩))
    go_ret
    exact ⟨rfl, Below.refl _ _⟩
  · go_enter Try.func5, Try.ntmps5
    go_wp2_with (first | (go_at_call 15; refine (zz15_yes _ _ _ _ _ _ (by omega)).mono ?_; rintro e w' ⟨rfl, rfl⟩))
    go_ret
    exact ⟨rfl, Below.refl _ _⟩
end Go.Proofs.Qxb6603776a
