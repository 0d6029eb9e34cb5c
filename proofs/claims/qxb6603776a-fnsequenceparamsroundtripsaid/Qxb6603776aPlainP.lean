import Derived.Test.Qxb6603776aBits
namespace Go.Proofs.Qxb6603776a
set_option linter.unusedVariables false
set_option linter.unusedSimpArgs false

/-- A control sequence's parameters, none read. -/
def parStart : PS := ⟨4, false, false, 0, Vector.ofFn fun _ => 0, 0, Vector.ofFn fun _ => 0, 0, 0, 0, -1, false, false⟩
/-- What the Parser holds after the first k bytes of z. -/
def parAt (z : Nat → Int) : Nat → PS
  | 0 => parStart
  | k + 1 => (parAt z k).paramByte (z k)

theorem filed_np (s : PS) : s.filed.np = s.np + 1 := rfl
theorem filed_pb (s : PS) : s.filed.pb = s.pb := rfl
theorem filed_dis (s : PS) : s.filed.dis = s.dis := rfl
theorem endOk_np {s : PS} (h : s.endOk = true) : ¬ s.np = 23 := by intro e; simp [PS.endOk, e] at h

/-- The count of parameters stays in 0..23. -/
theorem paramByte_np (s : PS) (c : Int) (h0 : 0 ≤ s.np) (h1 : s.np ≤ 23) : 0 ≤ (s.paramByte c).np ∧ (s.paramByte c).np ≤ 23 := by
  unfold PS.paramByte
  split
  · exact ⟨h0, h1⟩
  split
  · split
    · next hk =>
      have := endOk_np hk
      have e : s.bump.np = s.np := rfl
      rw [filed_np, e]
      rw [e] at this
      omega
    · exact ⟨h0, h1⟩
  split
  · exact ⟨h0, h1⟩
  split
  · exact ⟨h0, h1⟩
  split
  · exact ⟨h0, h1⟩
  · exact ⟨h0, h1⟩
theorem paramByte_pb (s : PS) (c : Int) (h : ¬ s.pb = 63) : (s.paramByte c).pb = (s.pb + 1) % 256 := by
  unfold PS.paramByte
  rw [if_neg h]
  split
  · split <;> rfl
  split
  · rfl
  split
  · rfl
  split <;> rfl
/-- The ignored mark is never lifted. -/
theorem paramByte_dis (s : PS) (c : Int) (h : s.dis = true) : (s.paramByte c).dis = true := by
  unfold PS.paramByte
  split
  · rfl
  split
  · split
    · exact h
    · rfl
  split
  · exact h
  split
  · exact h
  split <;> exact h
theorem parAt_np (z : Nat → Int) : ∀ k, 0 ≤ (parAt z k).np ∧ (parAt z k).np ≤ 23
  | 0 => ⟨by show (0 : Int) ≤ 0; omega, by show (0 : Int) ≤ 23; omega⟩
  | k + 1 => paramByte_np _ _ (parAt_np z k).1 (parAt_np z k).2
theorem parAt_pb (z : Nat → Int) : ∀ k : Nat, k ≤ 63 → (parAt z k).pb = k
  | 0, _ => rfl
  | k + 1, h => by
    have ih := parAt_pb z k (by omega)
    rw [parAt, paramByte_pb _ _ (by rw [ih]; omega), ih]
    omega
theorem parAt_dis_mono (z : Nat → Int) (k : Nat) (h : (parAt z k).dis = true) : ∀ m, k ≤ m → (parAt z m).dis = true := by
  intro m hm
  induction m with
  | zero => obtain rfl : k = 0 := by omega
            exact h
  | succ m ih =>
    by_cases e : k = m + 1
    · rw [← e]; exact h
    · exact paramByte_dis _ _ (ih (by omega))
/-- Past 63 bytes. -/
theorem parAt_long (z : Nat → Int) : ∀ k : Nat, 63 < k → (parAt z k).pb = 63 ∧ (parAt z k).dis = true
  | 0, h => by omega
  | k + 1, h => by
    by_cases e : k = 63
    · subst e
      have h63 : (parAt z 63).pb = 63 := parAt_pb z 63 (by omega)
      rw [parAt]
      generalize parAt z 63 = s at h63
      rw [PS.paramByte, if_pos h63]
      exact ⟨h63, rfl⟩
    · obtain ⟨h1, h2⟩ := parAt_long z k (by omega)
      rw [parAt, PS.paramByte, if_pos h1]
      exact ⟨h1, rfl⟩
theorem parAt_pb_bd (z : Nat → Int) (k : Nat) : 0 ≤ (parAt z k).pb ∧ (parAt z k).pb ≤ 63 := by
  by_cases h : k ≤ 63
  · rw [parAt_pb z k h]; omega
  · rw [(parAt_long z k (by omega)).1]; omega

/-! ### One parameter, with no ';' -/
/-- The number under way, the ':' mark and the overflow mark, k bytes behind lo. -/
def pst (z : Nat → Int) (lo : Nat) : Nat → Int × Bool × Bool
  | 0 => (-1, false, false)
  | k + 1 =>
    if z (lo + k) = 58 then ((pst z lo k).1, true, (pst z lo k).2.2)
    else if (pst z lo k).2.1 then pst z lo k
    else if 2147483647 < nextCur (pst z lo k).1 (z (lo + k)) then (2147483647, (pst z lo k).2.1, true) else (nextCur (pst z lo k).1 (z (lo + k)), (pst z lo k).2.1, (pst z lo k).2.2)

/-- The Parser k bytes behind lo, where at lo it held no number. -/
theorem parAt_piece (z : Nat → Int) (lo : Nat) (s : PS) (h0 : parAt z lo = { s with pb := (lo : Int), cur := -1, inc := false, ovf := false }) :
    ∀ k : Nat, lo + k ≤ 63 → (∀ i, lo ≤ i → i < lo + k → ¬ z i = 59) → parAt z (lo + k) = { s with pb := ((lo + k : Nat) : Int), cur := (pst z lo k).1, inc := (pst z lo k).2.1, ovf := (pst z lo k).2.2 }
  | 0, _, _ => by rw [Nat.add_zero, h0]; rfl
  | k + 1, h, hn => by
    have ih := parAt_piece z lo s h0 k (by omega) (fun i a b => hn i a (by omega))
    have hk := hn (lo + k) (by omega) (by omega)
    show (parAt z (lo + k)).paramByte (z (lo + k)) = _
    rw [ih, PS.paramByte, if_neg (by show ¬ ((lo + k : Nat) : Int) = 63; omega), if_neg hk]
    have hp : (((lo + k : Nat) : Int) + 1) % 256 = ((lo + (k + 1) : Nat) : Int) := by omega
    simp only [PS.bump, hp]
    rw [pst]
    by_cases h58 : z (lo + k) = 58
    · rw [if_pos h58, if_pos h58]
    · rw [if_neg h58, if_neg h58]
      by_cases hi : (pst z lo k).2.1 = true
      · rw [if_pos hi, if_pos hi]
      · rw [if_neg hi, if_neg hi]
        by_cases hb : 2147483647 < nextCur (pst z lo k).1 (z (lo + k))
        · rw [if_pos hb, if_pos hb]
        · rw [if_neg hb, if_neg hb]

/-- The number that the digits from lo on spell. -/
def numOf (z : Nat → Int) (lo : Nat) : Nat → Int
  | 0 => 0
  | k + 1 => numOf z lo k * 10 + (z (lo + k) - 48)
theorem numOf_nonneg (z : Nat → Int) (lo : Nat) : ∀ k, (∀ i, lo ≤ i → i < lo + k → 48 ≤ z i ∧ z i ≤ 57) → 0 ≤ numOf z lo k
  | 0, _ => Int.le_refl _
  | k + 1, h => by
    have ih := numOf_nonneg z lo k (fun i a b => h i a (by omega))
    have := h (lo + k) (by omega) (by omega)
    rw [numOf]
    omega
theorem pst_digits (z : Nat → Int) (lo : Nat) : ∀ k, (∀ i, lo ≤ i → i < lo + k → 48 ≤ z i ∧ z i ≤ 57) →
    pst z lo k = (if k = 0 then -1 else if numOf z lo k ≤ 2147483647 then numOf z lo k else 2147483647, false, decide (2147483647 < numOf z lo k))
  | 0, _ => rfl
  | k + 1, h => by
    have hd := h (lo + k) (by omega) (by omega)
    have ih := pst_digits z lo k (fun i a b => h i a (by omega))
    have hn := numOf_nonneg z lo k (fun i a b => h i a (by omega))
    rw [pst, if_neg (by omega), ih, if_neg (by simp), if_neg (Nat.succ_ne_zero k), numOf]
    by_cases hk : k = 0
    · subst hk
      simp only [if_true]
      rw [nextCur_neg (by decide) hd.1 hd.2, if_neg (by omega), numOf]
      have e1 : (0 : Int) * 10 + (z (lo + 0) - 48) ≤ 2147483647 := by omega
      have e2 : ¬ (2147483647 : Int) < 0 * 10 + (z (lo + 0) - 48) := by omega
      rw [if_pos e1]
      have e3 : decide ((2147483647 : Int) < 0 * 10 + (z (lo + 0) - 48)) = false := by simpa using e2
      rw [e3]
      simp
    · simp only [if_neg hk]
      by_cases hm : numOf z lo k ≤ 2147483647
      · rw [if_pos hm, nextCur_in hn hm hd.1 hd.2]
        have hf : decide (2147483647 < numOf z lo k) = false := by simp; omega
        by_cases hb : 2147483647 < numOf z lo k * 10 + (z (lo + k) - 48)
        · rw [if_pos hb, if_neg (by omega)]
          simp [hb]
        · rw [if_neg hb, if_pos (by omega), hf]
          simp
          omega
      · rw [if_neg hm, nextCur_in (by decide) (by decide) hd.1 hd.2, if_pos (by omega)]
        have hb : 2147483647 < numOf z lo k * 10 + (z (lo + k) - 48) := by omega
        rw [if_neg (by omega)]
        simp [hb]
/-- Behind a ':' nothing but the mark turns. -/
theorem pst_colon (z : Nat → Int) (lo e : Nat) (he : z (lo + e) = 58) : ∀ k, e < k → pst z lo k = ((pst z lo e).1, true, (pst z lo e).2.2)
  | 0, h => by omega
  | k + 1, h => by
    by_cases hk : k = e
    · subst hk; rw [pst, if_pos he]
    · have ih := pst_colon z lo e he k (by omega)
      rw [pst, ih]
      split
      · rfl
      · rfl

/-! ### What pieceValue reckons -/
theorem numOf_zero (z : Nat → Int) (lo : Nat) : ∀ k, (∀ i, lo ≤ i → i < lo + k → z i = 48) → numOf z lo k = 0
  | 0, _ => rfl
  | k + 1, h => by
    rw [numOf, numOf_zero z lo k (fun i a b => h i a (by omega)), h (lo + k) (by omega) (by omega)]
    decide
theorem numOf_lt (z : Nat → Int) (lo j : Nat) (h0 : numOf z lo j = 0) : ∀ m, (∀ i, lo ≤ i → i < lo + (j + m) → 48 ≤ z i ∧ z i ≤ 57) → numOf z lo (j + m) < 10 ^ m
  | 0, _ => by rw [Nat.add_zero, h0]; decide
  | m + 1, h => by
    have ih := numOf_lt z lo j h0 m (fun i a b => h i a (by omega))
    have hd := h (lo + (j + m)) (by omega) (by omega)
    show numOf z lo (j + m) * 10 + (z (lo + (j + m)) - 48) < 10 ^ (m + 1)
    rw [Int.pow_succ]
    omega
theorem numOf_ge (z : Nat → Int) (lo j : Nat) (hj : 49 ≤ z (lo + j)) : ∀ m, (∀ i, lo ≤ i → i < lo + (j + 1 + m) → 48 ≤ z i ∧ z i ≤ 57) → 10 ^ m ≤ numOf z lo (j + 1 + m)
  | 0, h => by
    have hn := numOf_nonneg z lo j (fun i a b => h i a (by omega))
    show 1 ≤ numOf z lo j * 10 + (z (lo + j) - 48)
    omega
  | m + 1, h => by
    have ih := numOf_ge z lo j hj m (fun i a b => h i a (by omega))
    have hd := h (lo + (j + 1 + m)) (by omega) (by omega)
    show 10 ^ (m + 1) ≤ numOf z lo (j + 1 + m) * 10 + (z (lo + (j + 1 + m)) - 48)
    rw [Int.pow_succ]
    omega
theorem pow10_cast (m : Nat) : (10 : Int) ^ m = ((10 ^ m : Nat) : Int) := by
  induction m with
  | zero => rfl
  | succ m ih => rw [Int.pow_succ, ih, Nat.pow_succ, Int.natCast_mul]; rfl
theorem pow10_le {m : Nat} (h : m ≤ 10) : (10 : Int) ^ m ≤ 10000000000 := by
  have h' : (10 : Nat) ^ m ≤ 10 ^ 10 := Nat.pow_le_pow_right (by decide) h
  rw [pow10_cast]
  omega
theorem pow10_ge {m : Nat} (h : 10 ≤ m) : (10000000000 : Int) ≤ 10 ^ m := by
  have h' : (10 : Nat) ^ 10 ≤ 10 ^ m := Nat.pow_le_pow_right (by decide) h
  rw [pow10_cast]
  omega
/-- The number before the first ':', as the Parser holds it. -/
def valOf (z : Nat → Int) (lo k : Nat) : Int := if k = 0 then -1 else if numOf z lo k ≤ 2147483647 then numOf z lo k else 2147483647
theorem pst_end (z : Nat → Int) (lo e hi : Nat) (h1 : lo ≤ e) (h2 : e < hi) (hd : ∀ i, lo ≤ i → i < e → 48 ≤ z i ∧ z i ≤ 57) (he : z e = 58) :
    pst z lo (hi - lo) = (valOf z lo (e - lo), true, decide (2147483647 < numOf z lo (e - lo))) := by
  have e1 : lo + (e - lo) = e := by omega
  rw [pst_colon z lo (e - lo) (by rw [e1]; exact he) (hi - lo) (by omega), pst_digits z lo (e - lo) (fun i a b => hd i a (by omega))]
  rfl
theorem pst_whole (z : Nat → Int) (lo hi : Nat) (h1 : lo ≤ hi) (hd : ∀ i, lo ≤ i → i < hi → 48 ≤ z i ∧ z i ≤ 57) :
    pst z lo (hi - lo) = (valOf z lo (hi - lo), false, decide (2147483647 < numOf z lo (hi - lo))) := by
  rw [pst_digits z lo (hi - lo) (fun i a b => hd i a (by omega))]
  rfl
end Go.Proofs.Qxb6603776a
