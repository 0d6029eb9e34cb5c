import Derived.Test.Qxb6602681aAt4
namespace Go.Proofs.Qxb6602681a
open Go.RowKit
set_option linter.unusedVariables false
set_option linter.unusedSimpArgs false
set_option maxRecDepth 100000
set_option maxHeartbeats 40000000


/-- As many starts as lists, one at the least. -/
theorem atl_full (x : Addr) (a2 : Option Addr) (l2 m1 m2 : Nat) (F : Nat → Int) (A : Nat → Option Addr) (L C : Nat → Nat) (Z : Nat → Nat → Int) (h : Int) (w : World) (z0 : 0 < l2) (z2 : l2 ≤ 16384) (hr : Rows2 w a2 l2 A L C) (hi : Ints1 w (some x) l2 F) (hZ : ∀ r, r < l2 → Ints1 w (A r) (L r) (Z r)) :
    Calls Try.prog 3 #[.slice (some x) l2 m1, .slice a2 l2 m2, .int .i64 h] w fun e w' => e = .returned (.bool true) ∧ Below w.heap.size w w' := by
  have ns := fun (w : World) a n c => run_neq_slice_nil_any (P := Try.prog) w 22 3 a n c 0 0 Try.underlying22
  have wB : Below w.heap.size w w := Below.refl _ _
  have wZ : w.heap.size ≤ w.heap.size := Nat.le_refl _
  have HR : Hid (Rows2 w a2 l2 A L C) := hr
  have H1 : Hid (Ints1 w (some x) l2 F) := hi
  clear hr hi
  have HZ : Hid (∀ r, r < l2 → Ints1 w (A r) (L r) (Z r)) := hZ
  clear hZ
  have hmk := fun w => run_make_row' (P := Try.prog) 22 3 (.int .i64 0) 8 Try.underlying22 info3' rfl .i64 .i64 l2 (by omega) (by omega) w
  go_enter Try.func3, Try.ntmps3
  go_wp2_with (first
    | (go_at_call 7; refine (zz7_any _ _ _ _ _ _ _ _ _ _ _ (by omega) (by omega) HR.out).mono ?_; rintro e w' ⟨⟨B, rfl⟩, rfl⟩)
    | ((with_reducible refine wpList_copy_splice rfl _ _ 22 22 rfl 3 Try.underlying22 size3 (some ⟨w.heap.size, 0, none⟩) (some x) l2 l2 l2 m1 ?hd1 ?hs1 w.heap.size 0 (madeCells #[.int .i64 0] l2).toList 3 ?hg1 (intsOf F l2) ?hn1 ?hpos1 ?hfit1 (one_ints F l2) w.heap.size w ?hb1 ?hBg1 ?_);
        (case hd1 => rfl); (case hs1 => rfl); (case hg1 => exact made_heap3 _ _); (case hn1 => simp [intsOf_length]); (case hpos1 => exact fun _ => ⟨rfl, _, rfl, ints_src (H1.out.later (wB.alloc wZ _))⟩); (case hfit1 => simp [size_madeCells, intsOf_length]); (case hb1 => exact wB.alloc wZ _); (case hBg1 => exact wZ);
        intro w2 HG hB; have HO : Hid (Own w2 w.heap.size l2 F) := copy_own HG; have HR2 : Hid (Rows2 w2 a2 l2 A L C) := HR.out.later hB; clear HG))
  · go_ret
    exact ⟨rfl, Below.refl _ _⟩
  · go_loop [8, 9] (fun n i => ∃ (s : Int) (k : Nat), k ≤ l2 ∧ n = .int .i64 s ∧ i = .int .i64 k) (fun _ i => l2 - (intOf i).toNat)
    case atStart => exact ⟨_, 0, Nat.zero_le _, rfl, rfl⟩
    case round =>
      obtain ⟨s, k, hk, rfl, rfl⟩ := hrel
      by_cases hlt : k < l2
      · obtain ⟨b, o, rfl, hb, hc, hL⟩ := HR2.out k hlt
        go_wp2
        · go_ret
          exact ⟨rfl, hB⟩
        · go_ret
          exact ⟨rfl, hB⟩
        · go_round
          case rel => exact ⟨_, k + 1, by omega, rfl, by go_num⟩
          case measure => simp [intOf]; omega
      · have hb0 : ((l2 : Int) == 0) = false := by simp; omega
        go_wp2
        go_loopw [10] (fun i wr => ∃ k : Nat, 2 ≤ k ∧ k ≤ l2 + 2 ∧ i = .int .i64 k ∧ Below w2.heap.size w2 wr ∧ Hid (∀ j, 2 ≤ j → j < k → j < l2 → F (j - 1) ≤ F j)) (fun i _ => l2 + 2 - (intOf i).toNat)
        case atStart => exact ⟨2, Nat.le_refl _, by omega, rfl, Below.refl _ _, fun j h1 h2 h3 => by omega⟩
        case round =>
          obtain ⟨t, ht, ht2, rfl, hB2, HS⟩ := hrel
          by_cases hlt2 : t < l2
          · have hO := HO.out.later hB2
            have hc1 := hO.2 (t - 1) (by omega)
            have hc2 := hO.2 t hlt2
            clear hO
            by_cases hgt : F t < F (t - 1)
            · go_wp2
              go_quiet (fail)
              go_wp2
              go_ret
              exact ⟨rfl, hB.trans ((below_drewN hB2 _).mono hB.size)⟩
            · go_wp2
              go_quiet (fail)
              go_wp2
              go_roundw
              case rel => exact ⟨t + 1, by omega, by omega, by go_num, below_drewN hB2 _, fun j h1 h2 h3 => by
                by_cases e : j = t
                · subst e; omega
                · exact HS.out j h1 (by omega) h3⟩
              case measure => simp [intOf]; omega
          · have HSRT : Hid (∀ j, 2 ≤ j → j < l2 → F (j - 1) ≤ F j) := fun j h1 h2 => HS.out j h1 (by omega) h2
            clear HS
            have hOwn := HO.out.later hB2
            have hRw := HR2.out.later hB2
            have HOR : Hid (Own wr w.heap.size l2 F ∧ Rows2 wr a2 l2 A L C) := ⟨hOwn, hRw⟩
            clear hOwn hRw
            go_wp2_with (first | (go_at_call 8; refine (zzAt_any _ _ _ _ _ F A L C h _ z0 z2 HOR.out.1.ints HOR.out.2).mono ?_; rintro e w4 ⟨⟨kk, hkk, rfl, hF1, hF2⟩, hb4⟩; have HF1 : Hid (∀ j, 1 ≤ j → j ≤ kk → F j ≤ h) := hF1; have HF2 : Hid (kk + 1 < l2 → h < F (kk + 1)) := hF2; clear hF1 hF2))
            have hbel : Below w.heap.size w w4 := hB.trans ((hB2.trans (hb4.mono hB2.size)).mono hB.size)
            have HO4 : Hid (Own w4 w.heap.size l2 F) := HOR.out.1.later hb4
            have HR4 : Hid (Rows2 w4 a2 l2 A L C) := HOR.out.2.later hb4
            have HZ4 : Hid (∀ r, r < l2 → Ints1 w4 (A r) (L r) (Z r)) := fun r hr => (HZ.out r hr).later hbel
            clear HOR HO HR2 hb4 hB2 hB HR H1 wB
            go_loop [12, 13] (fun kv i => kv = .int .i64 0 ∧ ∃ q : Nat, q < l2 ∧ i = .int .i64 q ∧ Hid (∀ j, q < j → j < l2 → h < F j)) (fun _ i => (intOf i).toNat)
            case atStart => exact ⟨rfl, l2 - 1, by omega, by go_num, fun j h1 h2 => by omega⟩
            case round =>
              obtain ⟨rfl, q, hq, rfl, HQ'⟩ := hrel
              by_cases hq1 : 1 ≤ q
              · have hcq := HO4.out.2 q hq
                by_cases hqh : F q ≤ h
                · have ekk : q = kk := at_index HSRT.out hkk HF1.out HF2.out (by omega) (fun _ => hqh) HQ'.out
                  subst ekk
                  obtain ⟨b, o, rfl, hb, hc, hzL⟩ := HR4.out q hkk
                  have hmx : L q ≤ 9223372036854775807 := by unfold maxLen at hzL; omega
                  go_wp2_with (first | (go_at_call 9; refine (same_any (A q) (L q) (C q) (Z q) _ (HZ4.out q hkk) hmx).mono ?_; rintro e w5 ⟨rfl, hb5⟩))
                  go_ret
                  exact ⟨rfl, hbel.trans (hb5.mono hbel.size)⟩
                · go_wp2
                  go_round
                  case rel => exact ⟨rfl, q - 1, by omega, by go_num, fun j h1 h2 => by
                    by_cases e : j = q
                    · subst e; omega
                    · exact HQ'.out j (by omega) h2⟩
                  case measure => simp [intOf]; omega
              · obtain rfl : q = 0 := by omega
                have ekk : 0 = kk := at_index HSRT.out hkk HF1.out HF2.out (by omega) (fun h => by omega) HQ'.out
                subst ekk
                obtain ⟨b, o, rfl, hb, hc, hzL⟩ := HR4.out 0 hkk
                rw [Nat.add_zero] at hc
                have hmx : L 0 ≤ 9223372036854775807 := by unfold maxLen at hzL; omega
                go_wp2_with (first | (go_at_call 9; refine (same_any (A 0) (L 0) (C 0) (Z 0) _ (HZ4.out 0 hkk) hmx).mono ?_; rintro e w5 ⟨rfl, hb5⟩))
                go_ret
                exact ⟨rfl, hbel.trans (hb5.mono hbel.size)⟩
end Go.Proofs.Qxb6602681a
