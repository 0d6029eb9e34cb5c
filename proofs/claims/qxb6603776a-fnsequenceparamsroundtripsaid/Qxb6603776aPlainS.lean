import Derived.Test.Qxb6603776aDec
namespace Go.Proofs.Qxb6603776a
open Go.RowKit
set_option linter.unusedVariables false
set_option linter.unusedSimpArgs false

/-- The first m parameters of z, nothing behind. -/
def parOf (z : Nat → Int) (m : Nat) : Vector Int 23 := Vector.ofFn fun i => if i.val < m then z i.val else 0
theorem parOf_set (z : Nat → Int) (m : Nat) (h : m < 23) : (parOf z m).setIfInBounds m (z m) = parOf z (m + 1) := by
  apply Vector.ext
  intro i hi
  rw [Vector.getElem_setIfInBounds hi]
  by_cases e : m = i
  · subst e; simp [parOf]
  · rw [if_neg e]
    simp only [parOf, Vector.getElem_ofFn]
    by_cases h2 : i < m
    · rw [if_pos h2, if_pos (by omega)]
    · rw [if_neg h2, if_neg (by omega)]
/-- A Parser in the parameters: np of them filed, n bytes read, the number 'cur' under way. -/
def rtp (st : Int) (I : Vector Int 3) (N : Int) (z : Nat → Int) (np n : Nat) (cur : Int) : PS := ⟨st, false, false, 0, I, N, parOf z np, np, 0, n, cur, false, false⟩
/-- What the Parser is: as the law wants it, or beyond the bounds. -/
def RT (I : Vector Int 3) (N : Int) (z : Nat → Int) (L np n : Nat) (cur : Int) (p : PS) : Prop :=
  ((∃ st, p = rtp st I N z np n cur ∧ n ≤ 63 ∧ np ≤ 23) ∨ (p.dis = true ∧ p.fin = 0 ∧ 0 ≤ p.pb ∧ p.pb ≤ 63 ∧ 0 ≤ p.np ∧ p.np ≤ 23 ∧ p.nin = N ∧ (63 < n ∨ 23 < L))) ∧ (p.st = 3 ∨ p.st = 4)
theorem RT.bd {I : Vector Int 3} {N : Int} {z : Nat → Int} {L np n : Nat} {cur : Int} {p : PS} (h : RT I N z L np n cur p) : 0 ≤ p.pb ∧ p.pb ≤ 63 ∧ 0 ≤ p.np ∧ p.np ≤ 23 ∧ p.nin = N := by
  rcases h with ⟨⟨st, rfl, h1, h2⟩ | ⟨_, _, h1, h2, h3, h4, h5, _⟩, _⟩
  · exact ⟨by simp only [rtp]; omega, by simp only [rtp]; omega, by simp only [rtp]; omega, by simp only [rtp]; omega, rfl⟩
  · exact ⟨h1, h2, h3, h4, h5⟩
theorem seqKind_low (p : PS) (c : Int) (h : c < 64) : p.seqKind c = 0 := by rw [PS.seqKind, if_pos (Or.inl h)]
theorem paramByte_st (s : PS) (c : Int) : (s.paramByte c).st = s.st := by
  unfold PS.paramByte
  (repeat' split) <;> rfl
theorem paramByte_fin (s : PS) (c : Int) : (s.paramByte c).fin = s.fin := by
  unfold PS.paramByte
  (repeat' split) <;> rfl
theorem paramByte_nin (s : PS) (c : Int) : (s.paramByte c).nin = s.nin := by
  unfold PS.paramByte
  (repeat' split) <;> rfl
theorem paramByte_pb63 (s : PS) (c : Int) (h0 : 0 ≤ s.pb) (h1 : s.pb ≤ 63) : 0 ≤ (s.paramByte c).pb ∧ (s.paramByte c).pb ≤ 63 := by
  by_cases h : s.pb = 63
  · rw [PS.paramByte, if_pos h]; exact ⟨h0, h1⟩
  · rw [paramByte_pb _ _ h]; omega
theorem seqByte_par {p : PS} {c : Int} (h : p.st = 3 ∨ p.st = 4) (c1 : 48 ≤ c) (c2 : c ≤ 59) : p.seqByte c = (p.at 4).paramByte c := by
  rw [PS.seqByte, if_neg (by omega), if_neg (by omega), if_neg (by omega), if_neg (by omega)]
/-- Beyond the bounds it stays. -/
theorem RT.dead {I : Vector Int 3} {N : Int} {z : Nat → Int} {L n : Nat} {p : PS} {c : Int} (c1 : 48 ≤ c) (c2 : c ≤ 59)
    (hs : p.st = 3 ∨ p.st = 4) (hd : p.dis = true ∨ p.pb = 63) (hf : p.fin = 0) (b0 : 0 ≤ p.pb) (b1 : p.pb ≤ 63) (n0 : 0 ≤ p.np) (n1 : p.np ≤ 23) (hN : p.nin = N) (hb : 63 < n ∨ 23 < L) (np' : Nat) (cur' : Int) :
    RT I N z L np' n cur' (p.seqByte c) := by
  rw [seqByte_par hs c1 c2]
  have h1 := paramByte_pb63 (p.at 4) c b0 b1
  have h2 := paramByte_np (p.at 4) c n0 n1
  refine ⟨.inr ⟨?_, (paramByte_fin _ _).trans hf, h1.1, h1.2, h2.1, h2.2, (paramByte_nin _ _).trans hN, hb⟩, .inr (paramByte_st _ _)⟩
  rcases hd with hd | hd
  · exact paramByte_dis _ _ hd
  · rw [PS.paramByte, if_pos (show (p.at 4).pb = 63 from hd)]
/-- A ';'. -/
theorem RT.semi {I : Vector Int 3} {N : Int} {z : Nat → Int} {L np n : Nat} {p : PS} (h : RT I N z L np n (z np) p) (hL : np + 1 < L) (hz0 : -1 ≤ z np) (hz1 : z np ≤ 2147483647) :
    RT I N z L (np + 1) (n + 1) (-1) (p.seqByte 59) := by
  rcases h with ⟨⟨st, rfl, h1, h2⟩ | ⟨hd, hf, b0, b1, n0, n1, hN, hb⟩, hs⟩
  case inr => exact RT.dead (by decide) (by decide) hs (.inl hd) hf b0 b1 n0 n1 hN (by omega) _ _
  by_cases h63 : n = 63
  · exact RT.dead (by decide) (by decide) hs (.inr (by simp only [rtp]; omega)) rfl (by simp only [rtp]; omega) (by simp only [rtp]; omega) (by simp only [rtp]; omega) (by simp only [rtp]; omega) rfl (by omega) _ _
  · rw [seqByte_par hs (by decide) (by decide), PS.paramByte, if_neg (by simp only [rtp, PS.at]; omega), if_pos rfl]
    have hp : ((n : Int) + 1) % 256 = ((n + 1 : Nat) : Int) := by omega
    by_cases h23 : np = 23
    · subst h23
      rw [if_neg (by simp [rtp, PS.at, PS.bump, PS.endOk])]
      refine ⟨.inr ⟨rfl, rfl, ?_, ?_, ?_, ?_, rfl, by omega⟩, .inr rfl⟩
      all_goals simp only [rtp, PS.at, PS.bump]; omega
    · rw [if_pos (by simp [rtp, PS.at, PS.bump, PS.endOk]; omega)]
      refine ⟨.inl ⟨4, ?_, by omega, by omega⟩, .inr rfl⟩
      have hw : wrap32 (z np) = z np := by go_arith
      simp only [rtp, PS.at, PS.bump, PS.filed, hp, hw, Int.toNat_natCast, parOf_set z np (by omega)]
      simp
/-- A digit. -/
theorem RT.digit {I : Vector Int 3} {N : Int} {z : Nat → Int} {L np n : Nat} {cur c nx : Int} {p : PS} (h : RT I N z L np n cur p) (c1 : 48 ≤ c) (c2 : c ≤ 57)
    (hn : nextCur cur c = nx) (hx : nx ≤ 2147483647) : RT I N z L np (n + 1) nx (p.seqByte c) := by
  rcases h with ⟨⟨st, rfl, h1, h2⟩ | ⟨hd, hf, b0, b1, n0, n1, hN, hb⟩, hs⟩
  case inr => exact RT.dead c1 (by omega) hs (.inl hd) hf b0 b1 n0 n1 hN (by omega) _ _
  by_cases h63 : n = 63
  · exact RT.dead c1 (by omega) hs (.inr (by simp only [rtp]; omega)) rfl (by simp only [rtp]; omega) (by simp only [rtp]; omega) (by simp only [rtp]; omega) (by simp only [rtp]; omega) rfl (by omega) _ _
  · rw [seqByte_par hs c1 (by omega), PS.paramByte, if_neg (by simp only [rtp, PS.at]; omega), if_neg (by omega), if_neg (by omega)]
    have hp : ((n : Int) + 1) % 256 = ((n + 1 : Nat) : Int) := by omega
    rw [if_neg (by simp [rtp, PS.at]), if_neg (by simp only [rtp, PS.at, hn]; omega)]
    refine ⟨.inl ⟨4, ?_, by omega, by omega⟩, .inr rfl⟩
    simp only [rtp, PS.at, PS.bump, hp, hn]
/-- The final byte, within the bounds. -/
theorem RT.last_ok {I : Vector Int 3} {N : Int} {z : Nat → Int} {np n : Nat} {f : Int} {p : PS} (h : RT I N z (np + 1) np n (z np) p) (f1 : 64 ≤ f) (hL : np + 1 ≤ 23) (hn : n ≤ 63) (hz0 : -1 ≤ z np) (hz1 : z np ≤ 2147483647) :
    p.seqKind f = 4 ∧ p.seqByte f = ⟨0, false, false, f, I, N, parOf z (np + 1), ((np + 1 : Nat) : Int), 0, n, -1, false, false⟩ := by
  rcases h with ⟨⟨st, rfl, h1, h2⟩ | ⟨hd, hf, b0, b1, n0, n1, hN, hb⟩, hs⟩
  case inr => omega
  have hr : (rtp st I N z np n (z np)).refuses = false := by
    have hs' : st = 3 ∨ st = 4 := hs
    have h3 : ¬ (np : Int) = 23 := by omega
    rcases hs' with rfl | rfl <;> simp [rtp, PS.refuses, PS.endOk, h3]
  refine ⟨by rw [PS.seqKind, if_neg (by rw [hr]; simp; omega)], ?_⟩
  rw [PS.seqByte, if_pos f1, hr, if_neg (by simp)]
  have hw : wrap32 (z np) = z np := by go_arith
  simp only [rtp, PS.at, PS.filed, hw, Int.toNat_natCast, parOf_set z np (by omega)]
  simp
/-- The final byte, beyond the bounds. -/
theorem RT.last_no {I : Vector Int 3} {N : Int} {z : Nat → Int} {np n : Nat} {f : Int} {p : PS} (h : RT I N z (np + 1) np n (z np) p) (f1 : 64 ≤ f) (hb : 23 < np + 1 ∨ 63 < n) :
    p.seqKind f = 0 ∧ (p.seqByte f).st = 0 ∧ (p.seqByte f).fin = 0 := by
  have hr : p.refuses = true ∧ p.fin = 0 := by
    rcases h with ⟨⟨st, rfl, h1, h2⟩ | ⟨hd, hf, b0, b1, n0, n1, hN, hb⟩, hs⟩
    · have h3 : (np : Int) = 23 := by omega
      exact ⟨by simp [rtp, PS.refuses, PS.endOk, h3], rfl⟩
    · exact ⟨by simp [PS.refuses, hd], hf⟩
  refine ⟨by rw [PS.seqKind, if_pos (Or.inr hr.1)], ?_⟩
  rw [PS.seqByte, if_pos f1, if_pos hr.1]
  exact ⟨rfl, hr.2⟩
end Go.Proofs.Qxb6603776a
