import Derived.Test.Qxb6603776aPlainP
import Derived.Test.Qxb6603776aLaws3
namespace Go.Proofs.Qxb6603776a
open Go.RowKit
set_option linter.unusedVariables false
set_option linter.unusedSimpArgs false

/-- The bytes of a string, as the walk reads them. -/
def zOf (s : ByteArray) (i : Nat) : Int := if h : i < s.size then (s[i].toNat : Int) else 0
theorem zOf_at (s : ByteArray) (i : Nat) (h : i < s.size) : zOf s i = (s[i].toNat : Int) := by rw [zOf, dif_pos h]

set_option maxRecDepth 100000 in
set_option maxHeartbeats 2000000 in
theorem pv_any (s : ByteArray) (lo hi : Nat) (w : World) (h1 : lo ≤ hi) (h2 : hi ≤ s.size) (hs : s.size ≤ 63) (hz : Hid (∀ i, lo ≤ i → i < hi → 48 ≤ zOf s i ∧ zOf s i ≤ 58)) :
    Calls Try.prog 21 #[.string s, .int .i64 lo, .int .i64 hi] w fun e w' => e = .returned (.tuple #[.int .i64 (pst (zOf s) lo (hi - lo)).1, .bool (pst (zOf s) lo (hi - lo)).2.1, .bool (pst (zOf s) lo (hi - lo)).2.2]) ∧ w = w' := by
  obtain ⟨P, hP⟩ : ∃ P, P = pst (zOf s) lo (hi - lo) := ⟨_, rfl⟩
  rw [← hP]
  have HP : Hid (P = pst (zOf s) lo (hi - lo)) := hP
  clear hP
  go_enter Try.func21, Try.ntmps21
  go_wp2
  go_loop [9, 10, 11] (fun en col i => ∃ k : Nat, lo ≤ k ∧ k ≤ hi ∧ i = .int .i64 k ∧ en = .int .i64 hi ∧ col = .bool false ∧ Hid (∀ i, lo ≤ i → i < k → 48 ≤ zOf s i ∧ zOf s i ≤ 57)) (fun _ _ i => hi - (intOf i).toNat)
  case atStart => exact ⟨lo, Nat.le_refl _, h1, rfl, rfl, rfl, fun i a b => by omega⟩
  case round =>
    obtain ⟨k, hk1, hk2, rfl, rfl, rfl, HD⟩ := hrel
    by_cases hlt : k < hi
    · have hks : k < s.size := by omega
      by_cases h58 : (s[k].toNat : Int) = 58
      · have q58 : ((s[k].toNat : Int) == 58) = true := by simpa using h58
        have HQ : Hid (P = (valOf (zOf s) lo (k - lo), true, decide (2147483647 < numOf (zOf s) lo (k - lo)))) := by
          show _ = _
          rw [HP.out]
          exact pst_end (zOf s) lo k hi hk1 hlt HD.out (by rw [zOf_at s k hks]; exact h58)
        clear h58
        by_cases hel : k = lo
        · have qe : ((k : Int) == (lo : Int)) = true := by simp; omega
          have HEL : Hid (k = lo) := hel
          clear hel
          go_wp2
          go_ret3
          exact ⟨by rw [HQ.out]; simp [valOf, HEL.out, numOf], rfl⟩
        · have qe : ((k : Int) == (lo : Int)) = false := by simp; omega
          go_wp2
          go_loop [12] (fun j => ∃ m : Nat, lo ≤ m ∧ m ≤ k ∧ j = .int .i64 m ∧ Hid (∀ i, lo ≤ i → i < m → zOf s i = 48)) (fun j => k - (intOf j).toNat)
          case atStart => exact ⟨lo, Nat.le_refl _, by omega, rfl, fun i a b => by omega⟩
          case round =>
            obtain ⟨m, hm1, hm2, rfl, HZ⟩ := hrel
            have n0 : Hid (numOf (zOf s) lo (m - lo) = 0) := numOf_zero (zOf s) lo (m - lo) (fun i a b => HZ.out i a (by omega))
            by_cases hmE : m < k
            · have hms : m < s.size := by omega
              have hdm := HD.out m hm1 (by omega)
              by_cases h48 : (s[m].toNat : Int) = 48
              · have q48 : ((s[m].toNat : Int) == 48) = true := by simpa using h48
                have HN : Hid (zOf s m = 48) := by show _ = _; rw [zOf_at s m hms]; exact h48
                clear h48 hdm
                go_wp2
                go_round
                case rel => exact ⟨m + 1, by omega, by omega, by go_num, fun i a b => by
                  by_cases e : i = m
                  · subst e; exact HN.out
                  · exact HZ.out i a (by omega)⟩
                case measure => simp [intOf]; omega
              · have q48 : ((s[m].toNat : Int) == 48) = false := by simpa using h48
                have HN : Hid (49 ≤ zOf s m) := by show _ ≤ _; rw [zOf_at s m hms] at hdm ⊢; omega
                clear h48 hdm
                by_cases h10 : 10 < k - m
                · have hbig : 2147483647 < numOf (zOf s) lo (k - lo) := by
                    have g := numOf_ge (zOf s) lo (m - lo) (by rw [show lo + (m - lo) = m by omega]; exact HN.out) (k - m - 1) (fun i a b => HD.out i a (by omega))
                    rw [show m - lo + 1 + (k - m - 1) = k - lo by omega] at g
                    have p := pow10_ge (show 10 ≤ k - m - 1 by omega)
                    omega
                  have HB : Hid (2147483647 < numOf (zOf s) lo (k - lo)) := hbig
                  clear hbig
                  go_wp2
                  go_ret3
                  exact ⟨by rw [HQ.out, valOf, if_neg (by omega), if_neg (by have := HB.out; omega)]; simp [HB.out], rfl⟩
                · go_wp2
                  go_loop [13, 14] (fun v i => ∃ q : Nat, m ≤ q ∧ q ≤ k ∧ i = .int .i64 q ∧ v = .int .i64 (numOf (zOf s) lo (q - lo))) (fun _ i => k - (intOf i).toNat)
                  case atStart => exact ⟨m, Nat.le_refl _, hm2, rfl, by rw [n0.out]⟩
                  case round =>
                    obtain ⟨q, hq1, hq2, rfl, rfl⟩ := hrel
                    have v0 := numOf_nonneg (zOf s) lo (q - lo) (fun i a b => HD.out i a (by omega))
                    have v1 : numOf (zOf s) lo (q - lo) ≤ 10000000000 := by
                      have g := numOf_lt (zOf s) lo (m - lo) n0.out (q - m) (fun i a b => HD.out i a (by omega))
                      rw [show m - lo + (q - m) = q - lo by omega] at g
                      have p := pow10_le (show q - m ≤ 10 by omega)
                      omega
                    by_cases hqE : q < k
                    · have hqs : q < s.size := by omega
                      have hd := HD.out q (by omega) (by omega)
                      rw [zOf_at s q hqs] at hd
                      obtain ⟨d1, d2⟩ := hd
                      have HS : Hid (numOf (zOf s) lo (q + 1 - lo) = numOf (zOf s) lo (q - lo) * 10 + ((s[q].toNat : Int) - 48)) := by
                        show _ = _
                        rw [show q + 1 - lo = (q - lo) + 1 by omega, numOf, show lo + (q - lo) = q by omega, zOf_at s q hqs]
                      go_wp2
                      go_round
                      case rel => exact ⟨q + 1, by omega, by omega, by go_num, by rw [HS.out]⟩
                      case measure => simp [intOf]; omega
                    · obtain rfl : q = k := by omega
                      by_cases hM : 2147483647 < numOf (zOf s) lo (q - lo)
                      · go_wp2
                        go_ret3
                        exact ⟨by rw [HQ.out, valOf, if_neg (by omega), if_neg (by omega)]; simp [hM], rfl⟩
                      · go_wp2
                        go_ret3
                        exact ⟨by rw [HQ.out, valOf, if_neg (by omega), if_pos (by omega)]; simp [hM], rfl⟩
            · go_wp2
              go_loop [13, 14] (fun v i => ∃ q : Nat, m ≤ q ∧ q ≤ k ∧ i = .int .i64 q ∧ v = .int .i64 (numOf (zOf s) lo (q - lo))) (fun _ i => k - (intOf i).toNat)
              case atStart => exact ⟨m, Nat.le_refl _, hm2, rfl, by rw [n0.out]⟩
              case round =>
                obtain ⟨q, hq1, hq2, rfl, rfl⟩ := hrel
                have v0 := numOf_nonneg (zOf s) lo (q - lo) (fun i a b => HD.out i a (by omega))
                have v1 : numOf (zOf s) lo (q - lo) ≤ 10000000000 := by
                  have g := numOf_lt (zOf s) lo (m - lo) n0.out (q - m) (fun i a b => HD.out i a (by omega))
                  rw [show m - lo + (q - m) = q - lo by omega] at g
                  have p := pow10_le (show q - m ≤ 10 by omega)
                  omega
                by_cases hqE : q < k
                · have hqs : q < s.size := by omega
                  have hd := HD.out q (by omega) (by omega)
                  rw [zOf_at s q hqs] at hd
                  obtain ⟨d1, d2⟩ := hd
                  have HS : Hid (numOf (zOf s) lo (q + 1 - lo) = numOf (zOf s) lo (q - lo) * 10 + ((s[q].toNat : Int) - 48)) := by
                    show _ = _
                    rw [show q + 1 - lo = (q - lo) + 1 by omega, numOf, show lo + (q - lo) = q by omega, zOf_at s q hqs]
                  go_wp2
                  go_round
                  case rel => exact ⟨q + 1, by omega, by omega, by go_num, by rw [HS.out]⟩
                  case measure => simp [intOf]; omega
                · obtain rfl : q = k := by omega
                  by_cases hM : 2147483647 < numOf (zOf s) lo (q - lo)
                  · go_wp2
                    go_ret3
                    exact ⟨by rw [HQ.out, valOf, if_neg (by omega), if_neg (by omega)]; simp [hM], rfl⟩
                  · go_wp2
                    go_ret3
                    exact ⟨by rw [HQ.out, valOf, if_neg (by omega), if_pos (by omega)]; simp [hM], rfl⟩
      · have q58 : ((s[k].toNat : Int) == 58) = false := by simpa using h58
        have HN : Hid (48 ≤ zOf s k ∧ zOf s k ≤ 57) := by
          show _ ∧ _
          have := hz.out k hk1 hlt
          rw [zOf_at s k hks] at this ⊢
          omega
        clear h58
        go_wp2
        go_round
        case rel => exact ⟨k + 1, by omega, by omega, by go_num, rfl, rfl, fun i a b => by
          by_cases e : i = k
          · subst e; exact HN.out
          · exact HD.out i a (by omega)⟩
        case measure => simp [intOf]; omega
    · have HQ : Hid (P = (valOf (zOf s) lo (hi - lo), false, decide (2147483647 < numOf (zOf s) lo (hi - lo)))) := by
        show _ = _
        rw [HP.out]
        exact pst_whole (zOf s) lo hi h1 (fun i a b => HD.out i a (by omega))
      have HD : Hid (∀ i, lo ≤ i → i < hi → 48 ≤ zOf s i ∧ zOf s i ≤ 57) := fun i a b => HD.out i a (by omega)
      by_cases hel : hi = lo
      · have qe : ((hi : Int) == (lo : Int)) = true := by simp; omega
        have HEL : Hid (hi = lo) := hel
        clear hel
        go_wp2
        go_ret3
        exact ⟨by rw [HQ.out]; simp [valOf, HEL.out, numOf], rfl⟩
      · have qe : ((hi : Int) == (lo : Int)) = false := by simp; omega
        go_wp2
        go_loop [12] (fun j => ∃ m : Nat, lo ≤ m ∧ m ≤ hi ∧ j = .int .i64 m ∧ Hid (∀ i, lo ≤ i → i < m → zOf s i = 48)) (fun j => hi - (intOf j).toNat)
        case atStart => exact ⟨lo, Nat.le_refl _, by omega, rfl, fun i a b => by omega⟩
        case round =>
          obtain ⟨m, hm1, hm2, rfl, HZ⟩ := hrel
          have n0 : Hid (numOf (zOf s) lo (m - lo) = 0) := numOf_zero (zOf s) lo (m - lo) (fun i a b => HZ.out i a (by omega))
          by_cases hmE : m < hi
          · have hms : m < s.size := by omega
            have hdm := HD.out m hm1 (by omega)
            by_cases h48 : (s[m].toNat : Int) = 48
            · have q48 : ((s[m].toNat : Int) == 48) = true := by simpa using h48
              have HN : Hid (zOf s m = 48) := by show _ = _; rw [zOf_at s m hms]; exact h48
              clear h48 hdm
              go_wp2
              go_round
              case rel => exact ⟨m + 1, by omega, by omega, by go_num, fun i a b => by
                by_cases e : i = m
                · subst e; exact HN.out
                · exact HZ.out i a (by omega)⟩
              case measure => simp [intOf]; omega
            · have q48 : ((s[m].toNat : Int) == 48) = false := by simpa using h48
              have HN : Hid (49 ≤ zOf s m) := by show _ ≤ _; rw [zOf_at s m hms] at hdm ⊢; omega
              clear h48 hdm
              by_cases h10 : 10 < hi - m
              · have hbig : 2147483647 < numOf (zOf s) lo (hi - lo) := by
                  have g := numOf_ge (zOf s) lo (m - lo) (by rw [show lo + (m - lo) = m by omega]; exact HN.out) (hi - m - 1) (fun i a b => HD.out i a (by omega))
                  rw [show m - lo + 1 + (hi - m - 1) = hi - lo by omega] at g
                  have p := pow10_ge (show 10 ≤ hi - m - 1 by omega)
                  omega
                have HB : Hid (2147483647 < numOf (zOf s) lo (hi - lo)) := hbig
                clear hbig
                go_wp2
                go_ret3
                exact ⟨by rw [HQ.out, valOf, if_neg (by omega), if_neg (by have := HB.out; omega)]; simp [HB.out], rfl⟩
              · go_wp2
                go_loop [13, 14] (fun v i => ∃ q : Nat, m ≤ q ∧ q ≤ hi ∧ i = .int .i64 q ∧ v = .int .i64 (numOf (zOf s) lo (q - lo))) (fun _ i => hi - (intOf i).toNat)
                case atStart => exact ⟨m, Nat.le_refl _, hm2, rfl, by rw [n0.out]⟩
                case round =>
                  obtain ⟨q, hq1, hq2, rfl, rfl⟩ := hrel
                  have v0 := numOf_nonneg (zOf s) lo (q - lo) (fun i a b => HD.out i a (by omega))
                  have v1 : numOf (zOf s) lo (q - lo) ≤ 10000000000 := by
                    have g := numOf_lt (zOf s) lo (m - lo) n0.out (q - m) (fun i a b => HD.out i a (by omega))
                    rw [show m - lo + (q - m) = q - lo by omega] at g
                    have p := pow10_le (show q - m ≤ 10 by omega)
                    omega
                  by_cases hqE : q < hi
                  · have hqs : q < s.size := by omega
                    have hd := HD.out q (by omega) (by omega)
                    rw [zOf_at s q hqs] at hd
                    obtain ⟨d1, d2⟩ := hd
                    have HS : Hid (numOf (zOf s) lo (q + 1 - lo) = numOf (zOf s) lo (q - lo) * 10 + ((s[q].toNat : Int) - 48)) := by
                      show _ = _
                      rw [show q + 1 - lo = (q - lo) + 1 by omega, numOf, show lo + (q - lo) = q by omega, zOf_at s q hqs]
                    go_wp2
                    go_round
                    case rel => exact ⟨q + 1, by omega, by omega, by go_num, by rw [HS.out]⟩
                    case measure => simp [intOf]; omega
                  · obtain rfl : q = hi := by omega
                    by_cases hM : 2147483647 < numOf (zOf s) lo (q - lo)
                    · go_wp2
                      go_ret3
                      exact ⟨by rw [HQ.out, valOf, if_neg (by omega), if_neg (by omega)]; simp [hM], rfl⟩
                    · go_wp2
                      go_ret3
                      exact ⟨by rw [HQ.out, valOf, if_neg (by omega), if_pos (by omega)]; simp [hM], rfl⟩
          · go_wp2
            go_loop [13, 14] (fun v i => ∃ q : Nat, m ≤ q ∧ q ≤ hi ∧ i = .int .i64 q ∧ v = .int .i64 (numOf (zOf s) lo (q - lo))) (fun _ i => hi - (intOf i).toNat)
            case atStart => exact ⟨m, Nat.le_refl _, hm2, rfl, by rw [n0.out]⟩
            case round =>
              obtain ⟨q, hq1, hq2, rfl, rfl⟩ := hrel
              have v0 := numOf_nonneg (zOf s) lo (q - lo) (fun i a b => HD.out i a (by omega))
              have v1 : numOf (zOf s) lo (q - lo) ≤ 10000000000 := by
                have g := numOf_lt (zOf s) lo (m - lo) n0.out (q - m) (fun i a b => HD.out i a (by omega))
                rw [show m - lo + (q - m) = q - lo by omega] at g
                have p := pow10_le (show q - m ≤ 10 by omega)
                omega
              by_cases hqE : q < hi
              · have hqs : q < s.size := by omega
                have hd := HD.out q (by omega) (by omega)
                rw [zOf_at s q hqs] at hd
                obtain ⟨d1, d2⟩ := hd
                have HS : Hid (numOf (zOf s) lo (q + 1 - lo) = numOf (zOf s) lo (q - lo) * 10 + ((s[q].toNat : Int) - 48)) := by
                  show _ = _
                  rw [show q + 1 - lo = (q - lo) + 1 by omega, numOf, show lo + (q - lo) = q by omega, zOf_at s q hqs]
                go_wp2
                go_round
                case rel => exact ⟨q + 1, by omega, by omega, by go_num, by rw [HS.out]⟩
                case measure => simp [intOf]; omega
              · obtain rfl : q = hi := by omega
                by_cases hM : 2147483647 < numOf (zOf s) lo (q - lo)
                · go_wp2
                  go_ret3
                  exact ⟨by rw [HQ.out, valOf, if_neg (by omega), if_neg (by omega)]; simp [hM], rfl⟩
                · go_wp2
                  go_ret3
                  exact ⟨by rw [HQ.out, valOf, if_neg (by omega), if_pos (by omega)]; simp [hM], rfl⟩
end Go.Proofs.Qxb6603776a
