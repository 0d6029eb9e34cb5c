import Derived.Test.Qxb6603776aPlainE
import Derived.Test.Qxb6603776aLaws2
namespace Go.Proofs.Qxb6603776a
open Go.RowKit
set_option linter.unusedVariables false
set_option linter.unusedSimpArgs false
theorem zz9_yes (a : Option Addr) (l m : Nat) (f : Int) (w : World) (h : l ≤ 1048576) :
    Calls Try.prog 9 #[.slice a l m, .int .u8 f] w fun e w' => e = .returned (.bool true) ∧ w = w' := by
  go_enter Try.func9, Try.ntmps9
  go_wp2
  go_ret
  exact ⟨rfl, rfl⟩
theorem zz9_no (a : Option Addr) (l m : Nat) (f : Int) (w : World) (h : 1048576 < l) (h2 : l ≤ 9223372036854775807) :
    Calls Try.prog 9 #[.slice a l m, .int .u8 f] w fun e w' => e = .returned (.bool false) ∧ w = w' := by
  go_enter Try.func9, Try.ntmps9
  go_wp2
  go_ret
  exact ⟨rfl, rfl⟩
theorem intro_any (f : Int) (w : World) : Calls Try.prog 13 #[.int .u8 f] w fun e w' => e = .returned (.int .u8 (introOf f)) ∧ w = w' := by
  by_cases h1 : f = 91
  · subst h1
    go_enter Try.func13, Try.ntmps13
    go_wp2
    go_ret
    exact ⟨rfl, rfl⟩
  by_cases h2 : f = 80
  · subst h2
    go_enter Try.func13, Try.ntmps13
    go_wp2
    go_ret
    exact ⟨rfl, rfl⟩
  by_cases h3 : f = 93
  · subst h3
    go_enter Try.func13, Try.ntmps13
    go_wp2
    go_ret
    exact ⟨rfl, rfl⟩
  by_cases h4 : f = 88 ∨ f = 94 ∨ f = 95 ∨ f = 107
  · rcases h4 with rfl | rfl | rfl | rfl
    all_goals
      go_enter Try.func13, Try.ntmps13
      go_wp2
      go_ret
      exact ⟨rfl, rfl⟩
  · have e : introOf f = 0 := by rw [introOf, if_neg h1, if_neg h2, if_neg h3, if_neg h4]
    rw [e]
    have q1 : (f == 91) = false := by simpa using h1
    have q2 : (f == 80) = false := by simpa using h2
    have q3 : (f == 93) = false := by simpa using h3
    have q4 : (f == 88) = false := by simp; omega
    have q5 : (f == 94) = false := by simp; omega
    have q6 : (f == 95) = false := by simp; omega
    have q7 : (f == 107) = false := by simp; omega
    clear e h1 h2 h3 h4
    go_enter Try.func13, Try.ntmps13
    go_wp2
    go_ret
    exact ⟨rfl, rfl⟩
end Go.Proofs.Qxb6603776a
