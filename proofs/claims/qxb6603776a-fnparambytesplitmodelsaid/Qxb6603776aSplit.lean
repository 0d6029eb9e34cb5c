import Derived.Test.Qxb6603776aW8
namespace Go.Proofs.Qxb6603776a
open Go.RowKit
set_option linter.unusedVariables false
set_option linter.unusedSimpArgs false
attribute [local go_sem] zero_cells PS.c0 PS.c1 PS.c7 PS.c31 PS.c32 PS.c33 PS.c34 PS.c35 PS.c36 PS.s0 PS.s1 PS.s7 PS.s31 PS.s32 PS.s33 PS.s34 PS.s35 PS.s36

theorem zz19_yes (s : ByteArray) (w : World) (h : s.size ≤ 1048576) : Calls Try.prog 19 #[.string s] w fun e w' => e = .returned (.bool true) ∧ w = w' := by
  go_enter Try.func19, Try.ntmps19
  go_wp2
  go_ret
  exact ⟨rfl, rfl⟩
theorem zz19_no (s : ByteArray) (w : World) (h : 1048576 < s.size) (h2 : s.size ≤ 9223372036854775807) : Calls Try.prog 19 #[.string s] w fun e w' => e = .returned (.bool false) ∧ w = w' := by
  go_enter Try.func19, Try.ntmps19
  go_wp2
  go_ret
  exact ⟨rfl, rfl⟩

/-- What stands at the head of the second loop's rounds. -/
structure SpAt (w : World) (gp : Nat) (r : PS) (wr : World) : Prop where
  bel : Below w.heap.size w wr
  st : wr.heap[w.heap.size]? = some (.cells ({ PS.zero with st := 4, cur := -1 } : PS).cells 28)
  p : wr.heap[gp]? = some (.cells r.cells 29)
  lo : w.heap.size + 1 ≤ gp
theorem SpAt.drop {w wr w2 : World} {gp : Nat} {r : PS} (h : SpAt w gp r wr) (hb : Below wr.heap.size wr w2) : SpAt w gp r w2 :=
  ⟨h.bel.trans (hb.mono h.bel.size), (hb.block _ (heap_lt h.st)).trans h.st, (hb.block _ (heap_lt h.p)).trans h.p, h.lo⟩
theorem SpAt.drew {w wr : World} {gp : Nat} {r : PS} (h : SpAt w gp r wr) : SpAt w gp r wr.drew := ⟨h.bel.drew, h.st, h.p, h.lo⟩
theorem SpAt.put {w wr : World} {gp : Nat} {r : PS} (h : SpAt w gp r wr) (r' : PS) : SpAt w gp r' (wr.setRow gp r'.cells) := by
  have h4 := h.lo
  exact ⟨below_setRow h.bel (by omega), (setRow_other wr gp _ _ (by omega)).trans h.st, setRow_heap wr gp _ _ 29 _ h.p, h.lo⟩
theorem SpAt.start {w w1 : World} (hb1 : Below (w.alloc (.cells ({ PS.zero with st := 4, cur := -1 } : PS).cells 28)).heap.size (w.alloc (.cells ({ PS.zero with st := 4, cur := -1 } : PS).cells 28)) w1) :
    SpAt w w1.heap.size { PS.zero with st := 4, cur := -1 } (w1.alloc (.cells ({ PS.zero with st := 4, cur := -1 } : PS).cells 29)) := by
  have hz := hb1.size
  simp at hz
  refine ⟨(((Below.refl _ _).alloc (Nat.le_refl _) _).trans (hb1.mono (by simp))).alloc (by omega) _, ?_, heap_alloc_last w1 _, by omega⟩
  rw [Below.heap_alloc _ _ _ (by omega), hb1.block _ (by simp)]
  exact heap_alloc_last w _


/-- Where the piece before the ';' at k cannot be filed, the sequence is ignored for good. -/
theorem dis_after (z : Nat → Int) (k L : Nat) (h : k < L) (hk : (parAt z k).pb ≠ 63) (hz : z k = 59) (he : (parAt z k).bump.endOk = false) : (parAt z L).dis = true := by
  refine parAt_dis_mono z (k + 1) ?_ L (by omega)
  rw [parAt, PS.paramByte, if_neg hk, if_pos hz, if_neg (by simp [he])]
theorem file_after (z : Nat → Int) (k : Nat) (hk : (parAt z k).pb ≠ 63) (hz : z k = 59) (he : (parAt z k).bump.endOk = true) : parAt z (k + 1) = (parAt z k).bump.filed := by
  rw [parAt, PS.paramByte, if_neg hk, if_pos hz, if_pos he]
/-- What the third loop's head holds of the wanted state. -/
structure SpWant (z : Nat → Int) (L lo k : Nat) (wt : PS) : Prop where
  at_ : parAt z lo = { wt with pb := (lo : Int), cur := -1, inc := false, ovf := false }
  pb : wt.pb = L
  cur : wt.cur = -1
  inc : wt.inc = false
  ovf : wt.ovf = false
  np0 : 0 ≤ wt.np
  np1 : wt.np ≤ 23
  no : ∀ i, lo ≤ i → i < k → ¬ z i = 59

theorem sp_next {z : Nat → Int} {L lo k : Nat} {wt : PS} {v : Int} {col ov : Bool} (hS : SpWant z L lo k wt) (hlk : lo ≤ k) (hk : k < L) (hL : L ≤ 63) (hz : z k = 59)
    (hPk : parAt z k = { wt with pb := (k : Int), cur := v, inc := col, ovf := ov }) (hnp : ¬ wt.np = 23) (hok : Hid (({ wt with pb := (k : Int), cur := v, inc := col, ovf := ov } : PS).bump.endOk = true)) :
    SpWant z L (k + 1) (k + 1) { wt with params := wt.params.setIfInBounds wt.np.toNat (wrap32 v), col := if col then bits .or .u32 wt.col (2 ^ wt.np.toNat % 4294967296) else wt.col, np := wt.np + 1 } := by
  have n0 := hS.np0
  have n1 := hS.np1
  refine ⟨?_, hS.pb, hS.cur, hS.inc, hS.ovf, by show 0 ≤ wt.np + 1; omega, by show wt.np + 1 ≤ 23; omega, fun i a b => by omega⟩
  rw [file_after z k (by rw [hPk]; show ¬ (k : Int) = 63; omega) hz (by rw [hPk]; exact hok.out), hPk]
  have e : ((k : Int) + 1) % 256 = ((k + 1 : Nat) : Int) := by omega
  simp only [PS.filed, PS.bump, e]

set_option maxRecDepth 100000 in
set_option maxHeartbeats 4000000 in
theorem sp_walk (s : ByteArray) (w : World) (h20 : s.size ≤ 1048576) :
    Calls Try.prog 7 #[.string s] w fun e w' => e = .returned (.bool true) ∧ Below w.heap.size w w' := by
  go_enter Try.func7, Try.ntmps7
  go_wp2_with (first | (go_at_call 19; refine (zz19_yes _ _ h20).mono ?_; rintro e w' ⟨rfl, rfl⟩))
  go_loop [3] (fun i => ∃ k : Nat, k ≤ s.size ∧ i = .int .i64 k ∧ Hid (∀ j, j < k → 48 ≤ zOf s j ∧ zOf s j ≤ 59)) (fun i => s.size - (intOf i).toNat)
  case atStart => exact ⟨0, Nat.zero_le _, rfl, fun j hj => absurd hj (Nat.not_lt_zero _)⟩
  case round =>
    obtain ⟨k, hk, rfl, HA⟩ := hrel
    by_cases hlt : k < s.size
    · go_wp2
      · go_ret
        exact ⟨rfl, Below.refl _ _⟩
      · go_round
        case rel => exact ⟨k + 1, by omega, by go_num, fun j hj => by
          by_cases e : j = k
          · subst e; rw [zOf_at s j hlt]; omega
          · exact HA.out j (by omega)⟩
        case measure => simp [intOf]; omega
      · go_ret
        exact ⟨rfl, Below.refl _ _⟩
    · have HA' : Hid (∀ j, j < s.size → 48 ≤ zOf s j ∧ zOf s j ≤ 59) := fun j hj => HA.out j (by omega)
      clear HA
      go_wp2_with (first
        | ((with_reducible refine wl_load 28 isRow28 size28 rfl _ rfl _ ?hx { PS.zero with st := 4, cur := -1 } 28 (heap_alloc_last w _) ?_); (case hx => rfl))
        | (go_at_call 10; refine (toZZ_any { PS.zero with st := 4, cur := -1 } _).mono ?_; rintro e w1 ⟨rfl, hb1⟩)
        | ((with_reducible refine wl_put 29 size29 rfl _ _ rfl ?_ ?hx2 ?_ ?hy2 ?_ ?_ ?hW2 ?hw2 ?hc2 ?hC2 ?h12 ?_); (case hx2 => rfl); (case hy2 => rfl); (case hW2 => rfl); (case hw2 => simp); (case hc2 => simp [PS.cells_size]); (case hC2 => exact PS.cells_size _); (case h12 => exact one_cells _)))
      have hE0 := SpAt.start hb1
      obtain ⟨gp, hgp⟩ : ∃ gp, gp = w1.heap.size := ⟨_, rfl⟩
      rw [← hgp] at hE0 ⊢
      have HG : Hid (gp = w1.heap.size) := hgp
      clear hgp hb1
      go_loopw [6] (fun i wr => ∃ k : Nat, k ≤ s.size ∧ i = .int .i64 k ∧ SpAt w gp (parAt (zOf s) k) wr) (fun i _ => s.size - (intOf i).toNat)
      case atStart => exact ⟨0, Nat.zero_le _, rfl, hE0⟩
      case round =>
        clear hE0
        obtain ⟨q, hq, rfl, hE⟩ := hrel
        by_cases hlt3 : q < s.size
        · have hzq := HA'.out q hlt3
          have hb := parAt_pb_bd (zOf s) q
          have hn := parAt_np (zOf s) q
          have hHZ := fun w => ZZParamByte_any (parAt (zOf s) q) (zOf s q) w hzq.1 hzq.2 hb.1 (by omega) hn.1 hn.2
          rw [zOf_at s q hlt3] at hHZ
          have est : (parAt (zOf s) q).paramByte (s[q].toNat : Int) = parAt (zOf s) (q + 1) := by rw [← zOf_at s q hlt3]; rfl
          rw [est] at hHZ
          clear est hb hn hzq
          go_wp2
          refine region_still_tail 4 mixed (by kernel_rfl) ?_
          simp only [List.take_succ_cons, List.take_zero, List.drop_succ_cons, List.drop_zero]
          refine ws_load 29 isRow29 size29 rfl _ rfl gp rfl (parAt (zOf s) q) 29 hE.p ?_
          iterate 3 still_step
          refine wpStill_nil ?_
          go_wp2_with (first
            | (go_at_call 20; refine (hHZ _).mono ?_; rintro e w2 ⟨rfl, hb2⟩; have hE2 := hE.drew.drop hb2; clear hb2)
            | ((with_reducible refine wl_store_at 29 size29 rfl _ _ rfl _ ?hx5 (parAt (zOf s) (q + 1)) ?hy5 (parAt (zOf s) q).cells 29 hE2.p (PS.cells_size _) ?_); (case hx5 => rfl); (case hy5 => rfl); have hE3 := hE2.put (parAt (zOf s) (q + 1)); clear hE2))
          go_roundw
          case rel => exact ⟨q + 1, by omega, by go_num, hE3⟩
          case measure => simp [intOf]; omega
        · have hE : SpAt w gp (parAt (zOf s) s.size) wr := by
            have e : q = s.size := by omega
            rw [e] at hE
            exact hE
          obtain ⟨r, hr⟩ : ∃ r, r = parAt (zOf s) s.size := ⟨_, rfl⟩
          rw [← hr] at hE
          have HR : Hid (r = parAt (zOf s) s.size) := hr
          clear hr
          by_cases h63 : 63 < s.size
          · have hd : r.dis = true := by rw [HR.out]; exact (parAt_long (zOf s) s.size h63).2
            have hp : r.pb = 63 := by rw [HR.out]; exact (parAt_long (zOf s) s.size h63).1
            go_wp2_with (first
              | ((with_reducible refine wl_load 29 isRow29 size29 rfl _ rfl _ ?hx r 29 hE.p ?_); (case hx => rfl))
              | (go_at_call 12; refine (fromZZ_any r _).mono ?_; rintro e w4 ⟨rfl, hb4⟩; have hE4 := hE.drop hb4; clear hb4)
              | ((with_reducible refine wl_put 28 size28 rfl _ _ rfl ?_ ?hx2 ?_ ?hy2 ?_ ?_ ?hW2 ?hw2 ?hc2 ?hC2 ?h12 ?_); (case hx2 => rfl); (case hy2 => rfl); (case hW2 => rfl); (case hw2 => simp); (case hc2 => simp [PS.cells_size]); (case hC2 => exact PS.cells_size _); (case h12 => exact one_cells _)))
            go_ret
            exact ⟨rfl, hE4.bel.alloc hE4.bel.size _⟩
          · go_wp2_with (first
              | ((with_reducible refine wl_load 29 isRow29 size29 rfl _ rfl _ ?hx r 29 hE.p ?_); (case hx => rfl))
              | (go_at_call 12; refine (fromZZ_any r _).mono ?_; rintro e w4 ⟨rfl, hb4⟩; have hE4 := hE.drop hb4; clear hb4; have hs4 := fun O => (Below.heap_alloc w4 O _ (heap_lt hE4.st)).trans hE4.st; have hbel := hE4.bel; have hlt4 := hE4.bel.size)
              | ((with_reducible refine wl_put 28 size28 rfl _ _ rfl ?_ ?hx2 ?_ ?hy2 ?_ ?_ ?hW2 ?hw2 ?hc2 ?hC2 ?h12 ?_); (case hx2 => rfl); (case hy2 => rfl); (case hW2 => rfl); (case hw2 => simp); (case hc2 => simp [PS.cells_size]); (case hC2 => exact PS.cells_size _); (case h12 => exact one_cells _))
              | ((with_reducible refine wl_load 28 isRow28 size28 rfl _ rfl _ ?hx { PS.zero with st := 4, cur := -1 } 28 (hs4 _) ?_); (case hx => rfl)))
            clear hs4 hE4 hE
            go_loopw [9, 10] (fun l i wr => ∃ (k lo : Nat) (wt : PS), lo ≤ k ∧ k ≤ s.size ∧ l = .int .i64 lo ∧ i = .int .i64 k ∧ wr = (w4.alloc (.cells r.cells 28)).alloc (.cells wt.cells 28) ∧ SpWant (zOf s) s.size lo k wt) (fun _ i _ => s.size - (intOf i).toNat)
            case atStart => exact ⟨0, 0, { PS.zero with st := 4, cur := -1, pb := (s.size : Int) }, Nat.le_refl _, Nat.zero_le _, rfl, rfl, rfl, ⟨rfl, rfl, rfl, rfl, rfl, by show (0 : Int) ≤ 0; omega, by show (0 : Int) ≤ 23; omega, fun i a b => absurd b (Nat.not_lt_zero _)⟩⟩
            case round =>
              obtain ⟨k, lo, wt, hlk, hk, rfl, rfl, rfl, hS⟩ := hrel
              have h63' : s.size ≤ 63 := by omega
              by_cases hlt5 : k < s.size
              · by_cases h59 : (s[k].toNat : Int) = 59
                · have q59 : ((s[k].toNat : Int) != 59) = false := by simpa using h59
                  have hzk' : zOf s k = 59 := by rw [zOf_at s k hlt5]; exact h59
                  have hpv := fun w => pv_any s lo k w hlk (by omega) (by omega) (fun i a b => by have h := HA'.out i (by omega); have := hS.no i a b; omega)
                  have hPk := parAt_piece (zOf s) lo wt hS.at_ (k - lo) (by omega) (fun i a b => hS.no i a (by omega))
                  rw [show lo + (k - lo) = k by omega] at hPk
                  generalize pst (zOf s) lo (k - lo) = P at hpv hPk
                  obtain ⟨v, col, ov⟩ := P
                  simp only at hpv hPk
                  have n0 := hS.np0
                  have n1 := hS.np1
                  by_cases hnp : wt.np = 23
                  · have rd : r.dis = true := by
                      rw [HR.out]
                      exact dis_after (zOf s) k s.size hlt5 (by rw [hPk]; show ¬ (k : Int) = 63; omega) hzk' (by rw [hPk]; simp [PS.bump, PS.endOk, hnp])
                    have m1 : 23 ≤ wt.np := by omega
                    clear hnp hPk hzk' h59
                    go_wp2_with (first | (go_at_call 21; refine (hpv _).mono ?_; rintro e w6 ⟨rfl, hw6⟩; subst hw6))
                    go_ret
                    exact ⟨rfl, (hbel.alloc hlt4 _).alloc (by simp; omega) _⟩
                  · have m1 : wt.np < 23 := by omega
                    clear h59
                    cases col
                    · cases ov
                      · have HOK : Hid ((({ wt with pb := (k : Int), cur := v, inc := false, ovf := false } : PS)).bump.endOk = true) := by show _ = _; simp [PS.bump, PS.endOk, hnp]
                        have hP3 := fun x => PS.sP wt wt.np.toNat (by omega) x
                        obtain ⟨u, hC⟩ : ∃ u, wt.cells[8 + wt.np.toNat]? = some u := ⟨_, PS.cP wt wt.np.toNat (by omega)⟩
                        have hnx := sp_next hS hlk hlt5 h63' hzk' hPk hnp HOK
                        clear hPk
                        go_wp2_with (first | (go_at_call 21; refine (hpv _).mono ?_; rintro e w6 ⟨rfl, hw6⟩; subst hw6))
                        go_roundw
                        case rel => exact ⟨k + 1, k + 1, _, Nat.le_refl _, by omega, by go_num, by go_num, rfl, hnx⟩
                        case measure => simp [intOf]; omega
                      · have rd : r.dis = true := by
                          rw [HR.out]
                          exact dis_after (zOf s) k s.size hlt5 (by rw [hPk]; show ¬ (k : Int) = 63; omega) hzk' (by rw [hPk]; simp [PS.bump, PS.endOk])
                        clear hnp hPk hzk'
                        go_wp2_with (first | (go_at_call 21; refine (hpv _).mono ?_; rintro e w6 ⟨rfl, hw6⟩; subst hw6))
                        go_ret
                        exact ⟨rfl, (hbel.alloc hlt4 _).alloc (by simp; omega) _⟩
                    · cases ov
                      · have HOK : Hid ((({ wt with pb := (k : Int), cur := v, inc := true, ovf := false } : PS)).bump.endOk = true) := by show _ = _; simp [PS.bump, PS.endOk, hnp]
                        have hP3 := fun x => PS.sP wt wt.np.toNat (by omega) x
                        obtain ⟨u, hC⟩ : ∃ u, wt.cells[8 + wt.np.toNat]? = some u := ⟨_, PS.cP wt wt.np.toNat (by omega)⟩
                        have hnx := sp_next hS hlk hlt5 h63' hzk' hPk hnp HOK
                        clear hPk
                        go_wp2_with (first | (go_at_call 21; refine (hpv _).mono ?_; rintro e w6 ⟨rfl, hw6⟩; subst hw6))
                        go_roundw
                        case rel => exact ⟨k + 1, k + 1, _, Nat.le_refl _, by omega, by go_num, by go_num, rfl, hnx⟩
                        case measure => simp [intOf]; omega
                      · have HOK : Hid ((({ wt with pb := (k : Int), cur := v, inc := true, ovf := true } : PS)).bump.endOk = true) := by show _ = _; simp [PS.bump, PS.endOk, hnp]
                        have hP3 := fun x => PS.sP wt wt.np.toNat (by omega) x
                        obtain ⟨u, hC⟩ : ∃ u, wt.cells[8 + wt.np.toNat]? = some u := ⟨_, PS.cP wt wt.np.toNat (by omega)⟩
                        have hnx := sp_next hS hlk hlt5 h63' hzk' hPk hnp HOK
                        clear hPk
                        go_wp2_with (first | (go_at_call 21; refine (hpv _).mono ?_; rintro e w6 ⟨rfl, hw6⟩; subst hw6))
                        go_roundw
                        case rel => exact ⟨k + 1, k + 1, _, Nat.le_refl _, by omega, by go_num, by go_num, rfl, hnx⟩
                        case measure => simp [intOf]; omega
                · have q59 : ((s[k].toNat : Int) != 59) = true := by simpa using h59
                  have hno : Hid (¬ zOf s k = 59) := by show ¬ _; rw [zOf_at s k hlt5]; exact h59
                  clear h59
                  go_wp2
                  go_roundw
                  case rel => exact ⟨k + 1, lo, wt, by omega, by omega, rfl, by go_num, rfl, ⟨hS.at_, hS.pb, hS.cur, hS.inc, hS.ovf, hS.np0, hS.np1, fun i a b => by
                    by_cases e : i = k
                    · subst e; exact hno.out
                    · exact hS.no i a (by omega)⟩⟩
                  case measure => simp [intOf]; omega
              · have hpv := fun w => pv_any s lo s.size w (by omega) (Nat.le_refl _) h63' (fun i a b => by have h := HA'.out i b; have := hS.no i a (by omega); omega)
                have hPk := parAt_piece (zOf s) lo wt hS.at_ (s.size - lo) (by omega) (fun i a b => hS.no i a (by omega))
                rw [show lo + (s.size - lo) = s.size by omega] at hPk
                generalize pst (zOf s) lo (s.size - lo) = P at hpv hPk
                obtain ⟨v, col, ov⟩ := P
                simp only at hpv hPk
                have HE : ∀ w : World, (Op.equalIn 10000 28 (.agg r.cells) (.agg ({ wt with cur := v, inc := col, ovf := ov } : PS).cells)).run Try.prog w = .ok true w := fun w => by
                  rw [HR.out, hPk, ← hS.pb]
                  exact ten28 _ w
                clear hPk HR hS
                go_wp2_with (first
                  | (go_at_call 21; refine (hpv _).mono ?_; rintro e w6 ⟨rfl, hw6⟩; subst hw6)
                  | ((with_reducible refine wl_load 28 isRow28 size28 rfl _ rfl _ ?hx r 28 (heap_alloc2_old w4 _ _) ?_); (case hx => rfl))
                  | ((with_reducible refine wl_load 28 isRow28 size28 rfl _ rfl ?_ ?hx4 { wt with cur := v, inc := col, ovf := ov } 28 ?hg4 ?_); (case hx4 => rfl); (case hg4 => with_reducible exact heap_alloc2_new w4 _ _)))
                go_ret
                exact ⟨rfl, (hbel.alloc hlt4 _).alloc (by simp; omega) _⟩
end Go.Proofs.Qxb6603776a
