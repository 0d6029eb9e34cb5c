import Derived.Test.Qxb6603776aRt2
namespace Go.Proofs.Qxb6603776a
open Go.RowKit
set_option linter.unusedVariables false
set_option linter.unusedSimpArgs false
set_option maxRecDepth 100000
set_option maxHeartbeats 40000000
attribute [local go_sem] zero_cells PS.c0 PS.c1 PS.c3 PS.c7 PS.c31 PS.c33 PS.c34 PS.s0 PS.s1 PS.s3 PS.s7 PS.s31 PS.s33 PS.s34

theorem rt_walk0 (b o len cap : Nat) (z : Nat → Int) (f : Int) (w : World) (h0 : 0 < len) (h17 : len ≤ 131072) (hz : b < w.heap.size) (hc : ∀ i, i < len → w.cell? ⟨b, o + i, none⟩ = some (.int .i32 (z i)))
    (hzb : ∀ i, i < len → z i ≤ 2147483647) (f1 : 64 ≤ f) (f2 : f ≤ 126) :
    Calls Try.prog 5 #[.slice (some ⟨b, o, none⟩) len cap, .int .u8 0, .int .u8 f] w fun e w' => e = .returned (.bool true) ∧ Below w.heap.size w w' := by
  have hb0 : ((len : Int) == 0) = false := by simp; omega
  have hmk := fun w => run_make_row' (P := Try.prog) 38 21 (.int .i32 0) 4 Try.underlying38 info21' rfl .i64 .i64 len (by omega) (by omega) w
  have HC : Hid (∀ i, i < len → w.cell? ⟨b, o + i, none⟩ = some (.int .i32 (z i))) := hc
  have HB : Hid (∀ i, i < len → z i ≤ 2147483647) := hzb
  clear hc hzb
  go_enter Try.func5, Try.ntmps5
  go_wp2_with (first | (go_at_call 15; refine (zz15_yes _ _ _ _ _ _ (by omega)).mono ?_; rintro e w' ⟨rfl, rfl⟩))
  go_loop [7] (fun i => ∃ k : Nat, k ≤ len ∧ i = .int .i64 k ∧ Hid (∀ j, j < k → -1 ≤ z j)) (fun i => len - (intOf i).toNat)
  case atStart => exact ⟨0, Nat.zero_le _, rfl, fun j hj => absurd hj (Nat.not_lt_zero _)⟩
  case round =>
    obtain ⟨k, hk, rfl, HA⟩ := hrel
    by_cases hlt : k < len
    · have hck := HC.out k hlt
      have hbk := HB.out k hlt
      by_cases hk1 : z k < -1
      · go_wp2
        go_ret
        exact ⟨rfl, Below.refl _ _⟩
      · go_wp2
        go_round
        case rel => exact ⟨k + 1, by omega, by go_num, fun j hj => by
          by_cases e : j = k
          · subst e; omega
          · exact HA.out j (by omega)⟩
        case measure => simp [intOf]; omega
    · have HA' : Hid (∀ j, j < len → -1 ≤ z j ∧ z j ≤ 2147483647) := fun j hj => ⟨HA.out j (by omega), HB.out j hj⟩
      clear HA HB
      go_wp2
      go_loopw [9] (fun i wr => ∃ (k : Nat) (C : Array Value), k ≤ len ∧ i = .int .i64 k ∧ wr = w.alloc (.cells C 21) ∧ C.size = len ∧ Hid (∀ j, j < k → C[j]? = some (.int .i32 (z j)))) (fun i _ => len - (intOf i).toNat)
      case atStart => exact ⟨0, _, Nat.zero_le _, rfl, rfl, size_madeCells _ _, fun j hj => absurd hj (Nat.not_lt_zero _)⟩
      case round =>
        obtain ⟨m, C, hm, rfl, rfl, hC, HM⟩ := hrel
        by_cases hlt2 : m < len
        · have hck := HC.out m hlt2
          obtain ⟨v, hv⟩ : ∃ v, C[m]? = some v := ⟨_, Array.getElem?_eq_getElem (by omega)⟩
          go_wp2
          go_roundw
          case rel => exact ⟨m + 1, _, by omega, by go_num, rfl, by simp [hC], fun j hj => by
            by_cases e : j = m
            · subst e; rw [Array.getElem?_setIfInBounds_self_of_lt (by omega)]
            · rw [Array.getElem?_setIfInBounds_ne (by omega)]; exact HM.out j (by omega)⟩
          case measure => simp [intOf]; omega
        · have HM' : Hid (∀ j, j < len → C[j]? = some (.int .i32 (z j))) := fun j hj => HM.out j (by omega)
          clear HM HC
          go_wp2_with (first
            | ((with_reducible refine wl_load 28 isRow28 size28 rfl _ rfl _ ?hx { PS.zero with st := 1 } 28 (heap_alloc2_new w _ _) ?_); (case hx => rfl))
            | (go_at_call 10; refine (toZZ_any { PS.zero with st := 1 } _).mono ?_; rintro e w1 ⟨rfl, hb1⟩; have hE0 := RtAt.start (p := { PS.zero with st := 1 }) hb1; clear hb1)
            | ((with_reducible refine wl_store 29 size29 rfl _ _ rfl ?_ ?hx1 { PS.zero with st := 1 } ?hy1 ?_ ?_ ?hW1 ?hw1 ?hc1 ?_); (case hx1 => rfl); (case hy1 => rfl); (case hW1 => rfl); (case hw1 => simp); (case hc1 => simp [PS.cells_size]))
            | ((with_reducible refine wl_load 29 isRow29 size29 rfl _ rfl _ ?hx { PS.zero with st := 1 } 29 hE0.p ?_); (case hx => rfl))
            | (go_at_call 11; refine (rt_first _).mono ?_; rintro e w2 ⟨rfl, hb2⟩; have hE1 := hE0.drop hb2; clear hb2 hE0)
            | ((with_reducible refine wl_store_at 29 size29 rfl _ _ rfl _ ?hx5 { PS.zero with st := 3, cur := -1 } ?hy5 _ 29 hE1.p (PS.cells_size _) ?_); (case hx5 => rfl); (case hy5 => rfl); have hE2 := hE1.put { PS.zero with st := 3, cur := -1 }; have hcell := hE2.three; clear hE1)
            )
          have hE := hE2
          clear hE2 hcell
          obtain ⟨gp, hgp⟩ : ∃ gp, gp = w1.heap.size := ⟨_, rfl⟩
          rw [← hgp] at hE ⊢
          have HG : Hid (gp = w1.heap.size) := hgp
          clear hgp
          go_loopw [12, 13, 14] (fun _ n i wr => ∃ (q n' : Nat) (p : PS), q ≤ len ∧ n' ≤ 11 * q ∧ n = .int .i64 n' ∧ i = .int .i64 q ∧ RtAt w C gp p wr ∧ Hid (RtHead PS.zero.inter 0 z len q n' p)) (fun _ _ i _ => len - (intOf i).toNat)
          case atStart => exact ⟨0, 0, _, Nat.zero_le _, Nat.le_refl _, rfl, rfl, hE, .inl ⟨rfl, rfl, rt_start0 z len⟩⟩
          case round =>
            clear hE
            obtain ⟨q, n, p, hq, hn, rfl, rfl, hE, HH⟩ := hrel
            by_cases hlt3 : q < len
            · have hzq := HA'.out q hlt3
              by_cases hq0 : q = 0
              · subst hq0
                obtain ⟨rfl, hR⟩ : n = 0 ∧ RT PS.zero.inter 0 z len 0 0 (-1) p := by
                  rcases HH.out with ⟨_, h1, h2⟩ | ⟨r, h1, _⟩
                  · exact ⟨h1, h2⟩
                  · omega
                have HR : Hid (RT PS.zero.inter 0 z len 0 0 (-1) p) := hR
                clear hR HH
                have hrow := hE.cell (HM'.out 0 hlt3)
                by_cases hneg : z 0 < 0
                · have hm1 : z 0 = -1 := by omega
                  have HM1 : Hid (z 0 = -1) := hm1
                  clear hm1
                  go_wp2
                  go_roundw
                  case rel => exact ⟨0 + 1, 0, _, by omega, by omega, by go_num, by go_num, hE, .inr ⟨0, rfl, by rw [HM1.out]; exact HR.out⟩⟩
                  case measure => simp [intOf]; omega
                · obtain ⟨v, hv⟩ : ∃ v : Nat, z 0 = (v : Int) := ⟨(z 0).toNat, by omega⟩
                  have hvb : v ≤ 2147483647 := by omega
                  have HV : Hid (z 0 = (v : Int)) := hv
                  rw [hv] at hrow
                  clear hv hneg hzq
                  go_wp2_with (first
                    | (go_at_call 17; refine (decimal_any v _ hvb).mono ?_; rintro e w3 ⟨m, hm1, hm10, hvm, ⟨d, hd, rfl⟩, hb3⟩; have hD0 := RtDig.start hE hb3 d; clear hb3)
                    | ((with_reducible refine wl_put10 rfl _ _ rfl ?_ ?hx7 d ?hy7 ?_ ?_ ?hW7 ?hw7 ?hc7 ?_); (case hx7 => rfl); (case hy7 => rfl); (case hW7 => rfl); (case hw7 => simp); (case hc7 => rfl)))
                  have HVM : Hid (v < 10 ^ m) := hvm
                  have HD : Hid (∀ i, i < m → d i = digOf v m i) := hd
                  clear hvm hd
                  clear hrow hE
                  obtain ⟨gd, hgd⟩ : ∃ gd, gd = w3.heap.size := ⟨_, rfl⟩
                  rw [← hgd] at hD0 ⊢
                  have HGD : Hid (gd = w3.heap.size) := hgd
                  clear hgd
                  go_loopw [12, 13, 17] (fun _ n2 j wr => ∃ (t n' : Nat) (p : PS), t ≤ m ∧ n' = 0 + t ∧ n2 = .int .i64 n' ∧ j = .int .i64 t ∧ RtDig w C gp p gd d wr ∧ Hid (RT PS.zero.inter 0 z len 0 n' (curOf d t) p)) (fun _ _ j _ => m - (intOf j).toNat)
                  case atStart => exact ⟨0, 0, _, Nat.zero_le _, rfl, by go_num, rfl, hD0, HR.out⟩
                  case round =>
                    clear hD0 HR
                    obtain ⟨t, n', p', ht, hn', rfl, rfl, hD, HR⟩ := hrel
                    by_cases hlt4 : t < m
                    · obtain ⟨p2, hR2, HF2⟩ := rt_digit HR.out (by omega) (by omega) HD.out HVM.out hvb hlt4
                      have HR2 : Hid (RT PS.zero.inter 0 z len 0 (n' + 1) (curOf d (t + 1)) p2) := hR2
                      clear hR2 HR
                      have hdc := hD.cell (t := t) (by omega)
                      have hdc' : wr.drew.cell? ⟨gd, t, none⟩ = some (.int .u8 (d t)) := hdc
                      go_wp2
                      refine wp_region_any mixed ?_
                      show wpAny Try.prog .any _ _ 10 (Array.replicate 10 false) _ wr.drew
                      refine take_at (i := 1) (some 140) (.int .i64 t) rfl rfl (by kernel_rfl) (by kernel_rfl) (by kernel_rfl) (fun _ _ _ h => h) rfl (fun _ => rfl) ?_
                      refine take_at (i := 2) (some 141) (.pointer (some ⟨gd, t, none⟩)) rfl rfl (by kernel_rfl) (by kernel_rfl) (by kernel_rfl) (fun _ _ _ h => h) rfl (fun w => ?_) ?_
                      · go_simp
                        intro h
                        exact absurd h (by omega)
                      go_simp
                      refine step_two (i := 0) (j := 3) rfl rfl rfl rfl (by kernel_rfl) (fun K hK => ?_) (fun K hK => ?_)
                      · refine wp_load_at 29 isRow29 size29 _ rfl (some 139) rfl gp rfl p' 29 hD.fst.p (hK _ _ ?_)
                        clear hK K
                        refine step_at (i := 3) rfl rfl (by kernel_rfl) (fun K hK => ?_)
                        go_simp
                        refine hK _ _ ?_
                        clear hK K
                        refine step_at (i := 4) rfl rfl (by kernel_rfl) (fun K hK => ?_)
                        go_simp
                        go_wp2_with (first | (go_at_call 16; refine (HF2 _).mono ?_; rintro e w4 ⟨rfl, hb4⟩; have hD2 := hD.drop hb4; clear hb4))
                        refine take_at (i := 5) (some 138) (.tuple #[.agg p2.cells, .int .u8 0]) rfl rfl (by kernel_rfl) (by kernel_rfl) (by kernel_rfl) (fun _ _ _ h => h) rfl (fun _ => rfl) ?_
                        refine take_at (i := 6) (some 144) (.agg p2.cells) rfl rfl (by kernel_rfl) (by kernel_rfl) (by kernel_rfl) (fun _ _ _ h => h) rfl (fun _ => rfl) ?_
                        refine take_at (i := 7) (some 145) (.int .u8 0) rfl rfl (by kernel_rfl) (by kernel_rfl) (by kernel_rfl) (fun _ _ _ h => h) rfl (fun _ => rfl) ?_
                        go_simp
                        refine step_at (i := 8) rfl rfl (by kernel_rfl) (fun K hK => ?_)
                        refine wp_store_at 29 size29 _ _ rfl none rfl gp rfl p2 rfl _ 29 hD2.fst.p (PS.cells_size _) (hK _ _ ?_)
                        clear hK K
                        refine take_at (i := 9) (some 12) (.int .u8 0) rfl rfl (by kernel_rfl) (by kernel_rfl) (by kernel_rfl) (fun _ _ _ h => h) rfl (fun _ => rfl) ?_
                        refine wpAny_done (by kernel_rfl) ?_ _
                        have hD3 := hD2.put p2
                        clear hD2
                        go_wp2
                        go_roundw
                        case rel => exact ⟨t + 1, n' + 1, p2, by omega, by omega, by go_num, by go_num, hD3, HR2.out⟩
                        case measure => simp [intOf]; omega
                      · go_simp
                        refine hK _ _ ?_
                        clear hK K
                        refine step_at (i := 0) rfl rfl (by kernel_rfl) (fun K hK => ?_)
                        refine wp_load_at 29 isRow29 size29 _ rfl (some 139) rfl gp rfl p' 29 hD.fst.p (hK _ _ ?_)
                        clear hK K
                        refine step_at (i := 4) rfl rfl (by kernel_rfl) (fun K hK => ?_)
                        go_simp
                        go_wp2_with (first | (go_at_call 16; refine (HF2 _).mono ?_; rintro e w4 ⟨rfl, hb4⟩; have hD2 := hD.drop hb4; clear hb4))
                        refine take_at (i := 5) (some 138) (.tuple #[.agg p2.cells, .int .u8 0]) rfl rfl (by kernel_rfl) (by kernel_rfl) (by kernel_rfl) (fun _ _ _ h => h) rfl (fun _ => rfl) ?_
                        refine take_at (i := 6) (some 144) (.agg p2.cells) rfl rfl (by kernel_rfl) (by kernel_rfl) (by kernel_rfl) (fun _ _ _ h => h) rfl (fun _ => rfl) ?_
                        refine take_at (i := 7) (some 145) (.int .u8 0) rfl rfl (by kernel_rfl) (by kernel_rfl) (by kernel_rfl) (fun _ _ _ h => h) rfl (fun _ => rfl) ?_
                        go_simp
                        refine step_at (i := 8) rfl rfl (by kernel_rfl) (fun K hK => ?_)
                        refine wp_store_at 29 size29 _ _ rfl none rfl gp rfl p2 rfl _ 29 hD2.fst.p (PS.cells_size _) (hK _ _ ?_)
                        clear hK K
                        refine take_at (i := 9) (some 12) (.int .u8 0) rfl rfl (by kernel_rfl) (by kernel_rfl) (by kernel_rfl) (fun _ _ _ h => h) rfl (fun _ => rfl) ?_
                        refine wpAny_done (by kernel_rfl) ?_ _
                        have hD3 := hD2.put p2
                        clear hD2
                        go_wp2
                        go_roundw
                        case rel => exact ⟨t + 1, n' + 1, p2, by omega, by omega, by go_num, by go_num, hD3, HR2.out⟩
                        case measure => simp [intOf]; omega
                    · have ht2 : t = m := by omega
                      have HR3 : Hid (RT PS.zero.inter 0 z len 0 n' (z 0) p') := by
                        have h := HR.out
                        rw [ht2, curOf_all d v m HD.out HVM.out hm1, ← HV.out] at h
                        exact h
                      clear HR
                      go_wp2
                      go_roundw
                      case rel => exact ⟨0 + 1, n', p', by omega, by omega, rfl, by go_num, hD.fst, .inr ⟨0, rfl, HR3.out⟩⟩
                      case measure => simp [intOf]; omega
              · obtain ⟨r, hr, hR0⟩ : ∃ r, q = r + 1 ∧ RT PS.zero.inter 0 z len r n (z r) p := by
                  rcases HH.out with ⟨h1, _⟩ | h1
                  · omega
                  · exact h1
                obtain ⟨p1, hR, HF⟩ := rt_semi hR0 (by omega) (by omega) (by omega) (HA'.out r (by omega))
                have HR : Hid (RT PS.zero.inter 0 z len q (n + 1) (-1) p1) := by rw [hr]; exact hR
                clear hR hR0 HH hr
                have hqp : 0 < q := by omega
                clear hq0
                have hrowf := fun (wr : World) (p : PS) (h : RtAt w C gp p wr) => h.cell (HM'.out q hlt3)
                by_cases hneg : z q < 0
                · have hm1 : z q = -1 := by omega
                  have HM1 : Hid (z q = -1) := hm1
                  clear hm1
                  go_wp2_with (first
                    | ((with_reducible refine wl_load 29 isRow29 size29 rfl _ rfl _ ?hx p 29 hE.p ?_); (case hx => rfl))
                    | (go_at_call 16; refine (HF _).mono ?_; rintro e w2 ⟨rfl, hb2⟩; have hE1 := hE.drop hb2; clear hb2)
                    | ((with_reducible refine wl_store_at 29 size29 rfl _ _ rfl _ ?hx5 p1 ?hy5 _ 29 hE1.p (PS.cells_size _) ?_); (case hx5 => rfl); (case hy5 => rfl); have hE2 := hE1.put p1; have hrow := hrowf _ _ hE2; clear hE1))
                  go_roundw
                  case rel => exact ⟨q + 1, (n + 1), _, by omega, by omega, by go_num, by go_num, hE2, .inr ⟨q, rfl, by rw [HM1.out]; exact HR.out⟩⟩
                  case measure => simp [intOf]; omega
                · obtain ⟨v, hv⟩ : ∃ v : Nat, z q = (v : Int) := ⟨(z q).toNat, by omega⟩
                  have hvb : v ≤ 2147483647 := by omega
                  have HV : Hid (z q = (v : Int)) := hv
                  rw [hv] at hrowf
                  clear hv hneg hzq
                  go_wp2_with (first
                    | ((with_reducible refine wl_load 29 isRow29 size29 rfl _ rfl _ ?hx p 29 hE.p ?_); (case hx => rfl))
                    | (go_at_call 16; refine (HF _).mono ?_; rintro e w2 ⟨rfl, hb2⟩; have hE1 := hE.drop hb2; clear hb2)
                    | ((with_reducible refine wl_store_at 29 size29 rfl _ _ rfl _ ?hx5 p1 ?hy5 _ 29 hE1.p (PS.cells_size _) ?_); (case hx5 => rfl); (case hy5 => rfl); have hE2 := hE1.put p1; have hrow := hrowf _ _ hE2; clear hE1)
                    | (go_at_call 17; refine (decimal_any v _ hvb).mono ?_; rintro e w3 ⟨m, hm1, hm10, hvm, ⟨d, hd, rfl⟩, hb3⟩; have hD0 := RtDig.start hE2 hb3 d; clear hb3)
                    | ((with_reducible refine wl_put10 rfl _ _ rfl ?_ ?hx7 d ?hy7 ?_ ?_ ?hW7 ?hw7 ?hc7 ?_); (case hx7 => rfl); (case hy7 => rfl); (case hW7 => rfl); (case hw7 => simp); (case hc7 => rfl)))
                  have HVM : Hid (v < 10 ^ m) := hvm
                  have HD : Hid (∀ i, i < m → d i = digOf v m i) := hd
                  clear hvm hd
                  clear hrow hE2 HF hrowf
                  obtain ⟨gd, hgd⟩ : ∃ gd, gd = w3.heap.size := ⟨_, rfl⟩
                  rw [← hgd] at hD0 ⊢
                  have HGD : Hid (gd = w3.heap.size) := hgd
                  clear hgd
                  go_loopw [12, 13, 17] (fun _ n2 j wr => ∃ (t n' : Nat) (p : PS), t ≤ m ∧ n' = (n + 1) + t ∧ n2 = .int .i64 n' ∧ j = .int .i64 t ∧ RtDig w C gp p gd d wr ∧ Hid (RT PS.zero.inter 0 z len q n' (curOf d t) p)) (fun _ _ j _ => m - (intOf j).toNat)
                  case atStart => exact ⟨0, (n + 1), _, Nat.zero_le _, rfl, by go_num, rfl, hD0, HR.out⟩
                  case round =>
                    clear hD0 HR
                    obtain ⟨t, n', p', ht, hn', rfl, rfl, hD, HR⟩ := hrel
                    by_cases hlt4 : t < m
                    · obtain ⟨p2, hR2, HF2⟩ := rt_digit HR.out (by omega) (by omega) HD.out HVM.out hvb hlt4
                      have HR2 : Hid (RT PS.zero.inter 0 z len q (n' + 1) (curOf d (t + 1)) p2) := hR2
                      clear hR2 HR
                      have hdc := hD.cell (t := t) (by omega)
                      have hdc' : wr.drew.cell? ⟨gd, t, none⟩ = some (.int .u8 (d t)) := hdc
                      go_wp2
                      refine wp_region_any mixed ?_
                      show wpAny Try.prog .any _ _ 10 (Array.replicate 10 false) _ wr.drew
                      refine take_at (i := 1) (some 140) (.int .i64 t) rfl rfl (by kernel_rfl) (by kernel_rfl) (by kernel_rfl) (fun _ _ _ h => h) rfl (fun _ => rfl) ?_
                      refine take_at (i := 2) (some 141) (.pointer (some ⟨gd, t, none⟩)) rfl rfl (by kernel_rfl) (by kernel_rfl) (by kernel_rfl) (fun _ _ _ h => h) rfl (fun w => ?_) ?_
                      · go_simp
                        intro h
                        exact absurd h (by omega)
                      go_simp
                      refine step_two (i := 0) (j := 3) rfl rfl rfl rfl (by kernel_rfl) (fun K hK => ?_) (fun K hK => ?_)
                      · refine wp_load_at 29 isRow29 size29 _ rfl (some 139) rfl gp rfl p' 29 hD.fst.p (hK _ _ ?_)
                        clear hK K
                        refine step_at (i := 3) rfl rfl (by kernel_rfl) (fun K hK => ?_)
                        go_simp
                        refine hK _ _ ?_
                        clear hK K
                        refine step_at (i := 4) rfl rfl (by kernel_rfl) (fun K hK => ?_)
                        go_simp
                        go_wp2_with (first | (go_at_call 16; refine (HF2 _).mono ?_; rintro e w4 ⟨rfl, hb4⟩; have hD2 := hD.drop hb4; clear hb4))
                        refine take_at (i := 5) (some 138) (.tuple #[.agg p2.cells, .int .u8 0]) rfl rfl (by kernel_rfl) (by kernel_rfl) (by kernel_rfl) (fun _ _ _ h => h) rfl (fun _ => rfl) ?_
                        refine take_at (i := 6) (some 144) (.agg p2.cells) rfl rfl (by kernel_rfl) (by kernel_rfl) (by kernel_rfl) (fun _ _ _ h => h) rfl (fun _ => rfl) ?_
                        refine take_at (i := 7) (some 145) (.int .u8 0) rfl rfl (by kernel_rfl) (by kernel_rfl) (by kernel_rfl) (fun _ _ _ h => h) rfl (fun _ => rfl) ?_
                        go_simp
                        refine step_at (i := 8) rfl rfl (by kernel_rfl) (fun K hK => ?_)
                        refine wp_store_at 29 size29 _ _ rfl none rfl gp rfl p2 rfl _ 29 hD2.fst.p (PS.cells_size _) (hK _ _ ?_)
                        clear hK K
                        refine take_at (i := 9) (some 12) (.int .u8 0) rfl rfl (by kernel_rfl) (by kernel_rfl) (by kernel_rfl) (fun _ _ _ h => h) rfl (fun _ => rfl) ?_
                        refine wpAny_done (by kernel_rfl) ?_ _
                        have hD3 := hD2.put p2
                        clear hD2
                        go_wp2
                        go_roundw
                        case rel => exact ⟨t + 1, n' + 1, p2, by omega, by omega, by go_num, by go_num, hD3, HR2.out⟩
                        case measure => simp [intOf]; omega
                      · go_simp
                        refine hK _ _ ?_
                        clear hK K
                        refine step_at (i := 0) rfl rfl (by kernel_rfl) (fun K hK => ?_)
                        refine wp_load_at 29 isRow29 size29 _ rfl (some 139) rfl gp rfl p' 29 hD.fst.p (hK _ _ ?_)
                        clear hK K
                        refine step_at (i := 4) rfl rfl (by kernel_rfl) (fun K hK => ?_)
                        go_simp
                        go_wp2_with (first | (go_at_call 16; refine (HF2 _).mono ?_; rintro e w4 ⟨rfl, hb4⟩; have hD2 := hD.drop hb4; clear hb4))
                        refine take_at (i := 5) (some 138) (.tuple #[.agg p2.cells, .int .u8 0]) rfl rfl (by kernel_rfl) (by kernel_rfl) (by kernel_rfl) (fun _ _ _ h => h) rfl (fun _ => rfl) ?_
                        refine take_at (i := 6) (some 144) (.agg p2.cells) rfl rfl (by kernel_rfl) (by kernel_rfl) (by kernel_rfl) (fun _ _ _ h => h) rfl (fun _ => rfl) ?_
                        refine take_at (i := 7) (some 145) (.int .u8 0) rfl rfl (by kernel_rfl) (by kernel_rfl) (by kernel_rfl) (fun _ _ _ h => h) rfl (fun _ => rfl) ?_
                        go_simp
                        refine step_at (i := 8) rfl rfl (by kernel_rfl) (fun K hK => ?_)
                        refine wp_store_at 29 size29 _ _ rfl none rfl gp rfl p2 rfl _ 29 hD2.fst.p (PS.cells_size _) (hK _ _ ?_)
                        clear hK K
                        refine take_at (i := 9) (some 12) (.int .u8 0) rfl rfl (by kernel_rfl) (by kernel_rfl) (by kernel_rfl) (fun _ _ _ h => h) rfl (fun _ => rfl) ?_
                        refine wpAny_done (by kernel_rfl) ?_ _
                        have hD3 := hD2.put p2
                        clear hD2
                        go_wp2
                        go_roundw
                        case rel => exact ⟨t + 1, n' + 1, p2, by omega, by omega, by go_num, by go_num, hD3, HR2.out⟩
                        case measure => simp [intOf]; omega
                    · have ht2 : t = m := by omega
                      have HR3 : Hid (RT PS.zero.inter 0 z len q n' (z q) p') := by
                        have h := HR.out
                        rw [ht2, curOf_all d v m HD.out HVM.out hm1, ← HV.out] at h
                        exact h
                      clear HR
                      go_wp2
                      go_roundw
                      case rel => exact ⟨q + 1, n', p', by omega, by omega, rfl, by go_num, hD.fst, .inr ⟨q, rfl, HR3.out⟩⟩
                      case measure => simp [intOf]; omega
            · obtain ⟨np, hnp, hR⟩ : ∃ np, len = np + 1 ∧ RT PS.zero.inter 0 z len np n (z np) p := by
                rcases HH.out with ⟨h1, _⟩ | ⟨r, h1, h2⟩
                · omega
                · exact ⟨r, by omega, h2⟩
              obtain ⟨r, kk, HF, hno, hok⟩ := rt_final (f := f) (by rw [hnp] at hR; exact hR) (by omega) (by omega) f1 (HA'.out np (by omega))
              rw [← hnp] at hno hok
              clear hnp hR HH
              by_cases hbig : 23 < len
              · obtain ⟨hkk, hst, hfin⟩ := hno (by omega)
                subst hkk
                clear hno hok
                go_wp2_with (first
                    | ((with_reducible refine wl_load 29 isRow29 size29 rfl _ rfl _ ?hx p 29 hE.p ?_); (case hx => rfl))
                    | (go_at_call 16; refine (HF _).mono ?_; rintro e w2 ⟨rfl, hb2⟩; have hE2 := hE.drop hb2; clear hb2)
                    | ((with_reducible refine wl_store_at 29 size29 rfl _ _ rfl _ ?hx5 r ?hy5 _ 29 hE2.p (PS.cells_size _) ?_); (case hx5 => rfl); (case hy5 => rfl); have hE3 := hE2.put r; clear hE2)
                    | ((with_reducible refine wl_load 29 isRow29 size29 rfl _ rfl _ ?hx r 29 hE3.p ?_); (case hx => rfl))
                    | (go_at_call 12; refine (fromZZ_any r _).mono ?_; rintro e w4 ⟨rfl, hb4⟩; have hE4 := hE3.drop hb4; clear hE3 hb4)
                    | ((with_reducible refine wl_put 28 size28 rfl _ _ rfl ?_ ?hx2 ?_ ?hy2 ?_ ?_ ?hW2 ?hw2 ?hc2 ?hC2 ?h12 ?_); (case hx2 => rfl); (case hy2 => rfl); (case hW2 => rfl); (case hw2 => simp); (case hc2 => simp [PS.cells_size]); (case hC2 => exact PS.cells_size _); (case h12 => exact one_cells _)))
                go_ret
                exact ⟨rfl, (hE4.new _).bel⟩
              by_cases hlong : 63 < n
              · obtain ⟨hkk, hst, hfin⟩ := hno (by omega)
                subst hkk
                clear hno hok
                go_wp2_with (first
                    | ((with_reducible refine wl_load 29 isRow29 size29 rfl _ rfl _ ?hx p 29 hE.p ?_); (case hx => rfl))
                    | (go_at_call 16; refine (HF _).mono ?_; rintro e w2 ⟨rfl, hb2⟩; have hE2 := hE.drop hb2; clear hb2)
                    | ((with_reducible refine wl_store_at 29 size29 rfl _ _ rfl _ ?hx5 r ?hy5 _ 29 hE2.p (PS.cells_size _) ?_); (case hx5 => rfl); (case hy5 => rfl); have hE3 := hE2.put r; clear hE2)
                    | ((with_reducible refine wl_load 29 isRow29 size29 rfl _ rfl _ ?hx r 29 hE3.p ?_); (case hx => rfl))
                    | (go_at_call 12; refine (fromZZ_any r _).mono ?_; rintro e w4 ⟨rfl, hb4⟩; have hE4 := hE3.drop hb4; clear hE3 hb4)
                    | ((with_reducible refine wl_put 28 size28 rfl _ _ rfl ?_ ?hx2 ?_ ?hy2 ?_ ?_ ?hW2 ?hw2 ?hc2 ?hC2 ?h12 ?_); (case hx2 => rfl); (case hy2 => rfl); (case hW2 => rfl); (case hw2 => simp); (case hc2 => simp [PS.cells_size]); (case hC2 => exact PS.cells_size _); (case h12 => exact one_cells _)))
                go_ret
                exact ⟨rfl, (hE4.new _).bel⟩
              obtain ⟨hkk, hr⟩ := hok (by omega)
              subst hkk
              have HE : ∀ w : World, (Op.equalIn 10000 28 (.agg r.cells) (.agg ({ PS.zero with st := 0, fin := f, np := (len : Int), params := parOf z len, pb := (n : Int), cur := -1 } : PS).cells)).run Try.prog w = .ok true w := fun w => by rw [hr]; exact ten28 _ w
              clear hno hok hr
              go_wp2_with (first
                  | ((with_reducible refine wl_load 29 isRow29 size29 rfl _ rfl _ ?hx p 29 hE.p ?_); (case hx => rfl))
                  | (go_at_call 16; refine (HF _).mono ?_; rintro e w2 ⟨rfl, hb2⟩; have hE2 := hE.drop hb2; clear hb2)
                  | ((with_reducible refine wl_store_at 29 size29 rfl _ _ rfl _ ?hx5 r ?hy5 _ 29 hE2.p (PS.cells_size _) ?_); (case hx5 => rfl); (case hy5 => rfl); have hE3 := hE2.put r; clear hE2)
                  | ((with_reducible refine wl_load 29 isRow29 size29 rfl _ rfl _ ?hx r 29 hE3.p ?_); (case hx => rfl))
                  | (go_at_call 12; refine (fromZZ_any r _).mono ?_; rintro e w4 ⟨rfl, hb4⟩; have hE4 := hE3.drop hb4; clear hE3 hb4)
                  | ((with_reducible refine wl_put 28 size28 rfl _ _ rfl ?_ ?hx2 ?_ ?hy2 ?_ ?_ ?hW2 ?hw2 ?hc2 ?hC2 ?h12 ?_); (case hx2 => rfl); (case hy2 => rfl); (case hW2 => rfl); (case hw2 => simp); (case hc2 => simp [PS.cells_size]); (case hC2 => exact PS.cells_size _); (case h12 => exact one_cells _)))
              have hlt4 := heap_lt hE4.row
              have hbel := hE4.bel
              have HROW : Hid (∀ j, j < len → w4.cell? ⟨w.heap.size, j, none⟩ = some (.int .i32 (z j))) := fun j hj => hE4.cell (HM'.out j hj)
              clear hE4 hE HM'
              go_loopw [20] (fun i wr => ∃ j : Nat, j ≤ len ∧ i = .int .i64 j ∧ wr = (w4.alloc (.cells r.cells 28)).alloc (.cells ({ PS.zero with st := 0, fin := f, np := (len : Int), params := parOf z j } : PS).cells 28)) (fun i _ => len - (intOf i).toNat)
              case atStart => exact ⟨0, Nat.zero_le _, rfl, by rw [parOf_none]⟩
              case round =>
                obtain ⟨j, hj, rfl, rfl⟩ := hrel
                by_cases hlt5 : j < len
                · have hrow := HROW.out j (by omega)
                  have hI := PS.sP ({ PS.zero with st := 0, fin := f, np := (len : Int), params := parOf z j } : PS) j (by omega) (z j)
                  simp only at hI
                  rw [parOf_set z j (by omega)] at hI
                  obtain ⟨v, hv⟩ : ∃ v, ({ PS.zero with st := 0, fin := f, np := (len : Int), params := parOf z j } : PS).cells[8 + j]? = some v := ⟨_, PS.cP _ j (by omega)⟩
                  go_wp2
                  go_roundw
                  case rel => exact ⟨j + 1, by omega, by go_num, rfl⟩
                  case measure => simp [intOf]; omega
                · have ej : j = len := by omega
                  rw [ej]
                  clear ej
                  go_wp2_with (first
                    | ((with_reducible refine wg_load 28 isRow28 size28 _ rfl ?hgd _ ?hx r 28 (heap_alloc2_old w4 _ _) ?_); (case hx => rfl); (case hgd => rfl))
                    | ((with_reducible refine wg_load 28 isRow28 size28 _ rfl ?hgd ?_ ?hx4 ({ PS.zero with st := 0, fin := f, np := (len : Int), params := parOf z len, pb := (n : Int), cur := -1 } : PS) 28 ?hg4 ?_); (case hx4 => rfl); (case hgd => rfl); (case hg4 => with_reducible exact heap_alloc2_new w4 _ _)))
                  go_ret
                  exact ⟨rfl, (hbel.alloc (Nat.le_of_lt hlt4) _).alloc (by simp; omega) _⟩
end Go.Proofs.Qxb6603776a
