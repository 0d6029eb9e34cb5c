import Derived.Test.Qxb6603776aPlainP
namespace Go.Proofs.Qxb6603776a
set_option linter.unusedVariables false
set_option linter.unusedSimpArgs false

/-- The i-th of v's m decimal digits, from the left. -/
def digOf (v m i : Nat) : Int := ((48 + v / 10 ^ (m - 1 - i) % 10 : Nat) : Int)
theorem digOf_bd (v m i : Nat) : 48 ≤ digOf v m i ∧ digOf v m i ≤ 57 := by
  have := Nat.mod_lt (v / 10 ^ (m - 1 - i)) (show 10 > 0 by omega)
  unfold digOf
  omega
theorem div_step (v a : Nat) : v / 10 ^ (a + 1) * 10 + v / 10 ^ a % 10 = v / 10 ^ a := by
  have h : v / 10 ^ (a + 1) = v / 10 ^ a / 10 := by rw [Nat.pow_succ, Nat.div_div_eq_div_mul]
  rw [h]
  omega
/-- The digits spell the number. -/
theorem numOf_digs (v m : Nat) (z : Nat → Int) (lo : Nat) (hz : ∀ i, i < m → z (lo + i) = digOf v m i) (hv : v / 10 ^ m = 0) : ∀ k, k ≤ m → numOf z lo k = ((v / 10 ^ (m - k) : Nat) : Int)
  | 0, _ => by rw [Nat.sub_zero, hv]; rfl
  | k + 1, h => by
    have ih := numOf_digs v m z lo hz hv k (by omega)
    have hs := div_step v (m - (k + 1))
    rw [show m - (k + 1) + 1 = m - k by omega] at hs
    rw [numOf, ih, hz k (by omega), digOf, show m - 1 - k = m - (k + 1) by omega]
    omega
end Go.Proofs.Qxb6603776a
