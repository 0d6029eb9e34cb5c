import Derived.Test.Qxb6603776aW3
namespace Go.Proofs.Qxb6603776a
set_option linter.unusedVariables false
set_option linter.unusedSimpArgs false

/-- The zero Parser. -/
def PS.zero : PS := ⟨0, false, false, 0, Vector.ofFn fun _ => 0, 0, Vector.ofFn fun _ => 0, 0, 0, 0, 0, false, false⟩
/-- Right after ESC. -/
def escStart : PS := { PS.zero with st := 1 }
/-- The first m (at most three) of the bytes. -/
def interOf (z : Nat → Int) (m : Nat) : Vector Int 3 := Vector.ofFn fun i => if i.val < m then z i.val else 0
/-- What the Parser holds after k intermediate bytes. -/
def escAt (z : Nat → Int) (k : Nat) : PS :=
  if k = 0 then escStart else { PS.zero with st := 2, inter := interOf z (min k 3), nin := ((min k 3 : Nat) : Int), dis := decide (3 < k) }

theorem interOf_succ (z : Nat → Int) (m : Nat) (h : m < 3) : (interOf z m).setIfInBounds m (z m) = interOf z (m + 1) := by
  apply Vector.ext
  intro i hi
  rw [Vector.getElem_setIfInBounds]
  simp only [interOf, Vector.getElem_ofFn]
  by_cases e : m = i
  · subst e; simp
  · rw [if_neg e]
    by_cases l : i < m
    · rw [if_pos l, if_pos (by omega)]
    · rw [if_neg l, if_neg (by omega)]
theorem interOf_zero (z : Nat → Int) : interOf z 0 = Vector.ofFn fun _ => 0 := by
  apply Vector.ext
  intro i hi
  simp [interOf]
theorem escAt_nin (z : Nat → Int) (k : Nat) : (escAt z k).nin = ((min k 3 : Nat) : Int) := by
  unfold escAt
  split
  · next h => subst h; rfl
  · rfl
theorem escAt_step (z : Nat → Int) (k : Nat) (h : z k < 48) : (escAt z k).escByte (z k) = escAt z (k + 1) := by
  rw [PS.escByte, if_pos h, PS.collect, escAt_nin]
  by_cases h3 : k < 3
  · rw [if_neg (by omega)]
    have e1 : min k 3 = k := by omega
    have e2 : min (k + 1) 3 = k + 1 := by omega
    rw [e1]
    have hi : (escAt z k).inter = interOf z k := by
      unfold escAt
      split
      · next h => subst h; exact (interOf_zero z).symm
      · simp [e1]
    rw [hi, Int.toNat_natCast, interOf_succ z k h3]
    have hd : decide (3 < k + 1) = false := by simp; omega
    unfold escAt
    rw [if_neg (Nat.succ_ne_zero k)]
    simp only [e2, hd]
    split
    · next h0 => subst h0; rfl
    · have hd' : decide (3 < k) = false := by simp; omega
      simp [hd', PS.zero]
  · rw [if_pos (by omega)]
    have e1 : min k 3 = 3 := by omega
    have e2 : min (k + 1) 3 = 3 := by omega
    have hd : decide (3 < k + 1) = true := by simp; omega
    unfold escAt
    rw [if_neg (by omega), if_neg (Nat.succ_ne_zero k)]
    simp [e1, e2, hd, PS.zero]
theorem escAt_kind (z : Nat → Int) (k : Nat) (h : z k < 48) : (escAt z k).escKind (z k) = 0 := by rw [PS.escKind, if_pos (Or.inl h)]

/-- Which sequence or string ESC f begins. -/
def introOf (f : Int) : Int := if f = 91 then 3 else if f = 80 then 7 else if f = 93 then 12 else if f = 88 ∨ f = 94 ∨ f = 95 ∨ f = 107 then 13 else 0
end Go.Proofs.Qxb6603776a
