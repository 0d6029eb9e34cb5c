import Derived.Test.Qxb6603776aLaws3
import Derived.RegionTactic
import Derived.Orders
namespace Go.Proofs.Qxb6603776a
open Go.RowKit
set_option linter.unusedVariables false
set_option linter.unusedSimpArgs false
attribute [local go_sem] zero_cells PS.c0 PS.c1 PS.c3 PS.c7 PS.s0 PS.s1 PS.s3 PS.s7

/-- What stands at the head of the third loop's rounds. -/
structure EsAt (w : World) (C : Array Value) (z : Nat → Int) (gp k : Nat) (wr : World) : Prop where
  bel : Below w.heap.size w wr
  row : wr.heap[w.heap.size]? = some (.cells C 5)
  st : wr.heap[w.heap.size + 1]? = some (.cells ({ PS.zero with st := 1 } : PS).cells 28)
  p : wr.heap[gp]? = some (.cells (escAt z k).cells 29)
  lo : w.heap.size + 2 ≤ gp

theorem es_start {w w1 : World} {C : Array Value} {z : Nat → Int} {O : Obj} (hO : O = .cells ({ PS.zero with st := 1 } : PS).cells 28) (hb1 : Below ((w.alloc (.cells C 5)).alloc O).heap.size ((w.alloc (.cells C 5)).alloc O) w1) :
    EsAt w C z w1.heap.size 0 (w1.alloc (.cells ({ PS.zero with st := 1 } : PS).cells 29)) := by
  have hz := hb1.size
  simp at hz
  refine ⟨?_, ?_, ?_, ?_, by omega⟩
  · exact ((((Below.refl _ _).alloc (Nat.le_refl _) _).alloc (by simp) _).trans (hb1.mono (by simp; omega))).alloc (by omega) _
  · rw [Below.heap_alloc _ _ _ (by omega), hb1.block _ (by simp; omega)]
    exact heap_alloc2_old w _ _
  · rw [Below.heap_alloc _ _ _ (by omega), hb1.block _ (by simp), heap_alloc2_new w _ _, hO]
  · exact heap_alloc_last w1 _
theorem es_cell {w wr : World} {C : Array Value} {z : Nat → Int} {gp k q : Nat} (h : EsAt w C z gp k wr) (hc : C[q]? = some (.int .u8 (z q))) : wr.cell? ⟨w.heap.size, q, none⟩ = some (.int .u8 (z q)) := by
  rw [cell_of_row _ _ _ _ _ _ h.row]; exact hc

theorem escAt_st (z : Nat → Int) (k : Nat) : (escAt z (k + 1)).st = 2 := by unfold escAt; rw [if_neg (Nat.succ_ne_zero k)]
theorem es_drop {w wr w2 : World} {C : Array Value} {z : Nat → Int} {gp k : Nat} (h : EsAt w C z gp k wr) (hb : Below wr.drew.heap.size wr.drew w2) : EsAt w C z gp k w2 := by
  have h1 := heap_lt h.row
  have h2 := heap_lt h.st
  have h3 := heap_lt h.p
  exact ⟨(h.bel.drew).trans (hb.mono h.bel.size), (hb.block _ h1).trans h.row, (hb.block _ h2).trans h.st, (hb.block _ h3).trans h.p, h.lo⟩
theorem es_put {w wr : World} {C : Array Value} {z : Nat → Int} {gp k k' : Nat} (h : EsAt w C z gp k wr) : EsAt w C z gp k' (wr.setRow gp (escAt z k').cells) := by
  have h4 := h.lo
  exact ⟨below_setRow h.bel (by omega), (setRow_other wr gp _ _ (by omega)).trans h.row, (setRow_other wr gp _ _ (by omega)).trans h.st, setRow_heap wr gp _ _ 29 _ h.p, h.lo⟩

/-- .. and behind the final byte. -/
structure EsEnd (w : World) (C : Array Value) (r : PS) (gp : Nat) (wr : World) : Prop where
  bel : Below w.heap.size w wr
  row : wr.heap[w.heap.size]? = some (.cells C 5)
  st : wr.heap[w.heap.size + 1]? = some (.cells ({ PS.zero with st := 1 } : PS).cells 28)
  p : wr.heap[gp]? = some (.cells r.cells 29)
theorem es_drop2 {w wr w2 : World} {C : Array Value} {z : Nat → Int} {gp k : Nat} (h : EsAt w C z gp k wr) (hb : Below wr.heap.size wr w2) : EsAt w C z gp k w2 := by
  have h1 := heap_lt h.row
  have h2 := heap_lt h.st
  have h3 := heap_lt h.p
  exact ⟨h.bel.trans (hb.mono h.bel.size), (hb.block _ h1).trans h.row, (hb.block _ h2).trans h.st, (hb.block _ h3).trans h.p, h.lo⟩
theorem es_last {w wr : World} {C : Array Value} {z : Nat → Int} {gp k : Nat} (h : EsAt w C z gp k wr) (r : PS) : EsEnd w C r gp (wr.setRow gp r.cells) := by
  have h4 := h.lo
  exact ⟨below_setRow h.bel (by omega), (setRow_other wr gp _ _ (by omega)).trans h.row, (setRow_other wr gp _ _ (by omega)).trans h.st, setRow_heap wr gp _ _ 29 _ h.p⟩
theorem es_last2 {w wr w2 : World} {C : Array Value} {r : PS} {gp : Nat} (h : EsEnd w C r gp wr) (hb : Below wr.heap.size wr w2) : EsEnd w C r gp w2 :=
  ⟨h.bel.trans (hb.mono h.bel.size), (hb.block _ (heap_lt h.row)).trans h.row, (hb.block _ (heap_lt h.st)).trans h.st, (hb.block _ (heap_lt h.p)).trans h.p⟩
theorem es_final (z : Nat → Int) (len : Nat) (f : Int) (h0 : 0 < len) (f1 : 48 ≤ f) : ∃ r kk, (∀ w : World, Calls Try.prog 11 #[.agg (escAt z len).cells, .int .u8 f] w fun e w' => e = .returned (.tuple #[.agg r.cells, .int .u8 kk]) ∧ Below w.heap.size w w') ∧
    ((3 < len ∧ kk = 0 ∧ r = { PS.zero with inter := interOf z 3, nin := 3, dis := true }) ∨ (len ≤ 3 ∧ kk = 3 ∧ r = { PS.zero with inter := interOf z len, nin := (len : Int), fin := f })) := by
  refine ⟨_, _, fun w => ZZEscapeByte_any (escAt z len) f w (by rw [escAt_nin]; omega) (by rw [escAt_nin]; omega), ?_⟩
  have est : (escAt z len).st = 2 := by unfold escAt; rw [if_neg (by omega)]
  have edis : (escAt z len).dis = decide (3 < len) := by unfold escAt; rw [if_neg (by omega)]
  have hq : (escAt z len).isIntro f = false := by simp [PS.isIntro, est]
  rw [PS.escByte, if_neg (by omega), if_pos est, PS.escEnd, PS.escKind, edis, hq]
  by_cases h : 3 < len
  · refine .inl ⟨h, by simp [h], ?_⟩
    rw [if_pos (by simpa using h)]
    have e3 : min len 3 = 3 := by omega
    unfold escAt
    rw [if_neg (by omega)]
    simp [e3, h, PS.zero]
  · refine .inr ⟨by omega, ?_, ?_⟩
    · rw [if_neg (by simp; omega)]
    · rw [if_neg (by simpa using h)]
      have e3 : min len 3 = len := by omega
      unfold escAt
      rw [if_neg (by omega)]
      have hd : decide (3 < len) = false := by simpa using h
      simp [e3, hd, PS.zero]

set_option maxRecDepth 100000 in
set_option maxHeartbeats 4000000 in
theorem es_walk (b o len cap : Nat) (z : Nat → Int) (f : Int) (w : World) (h0 : 0 < len) (h20 : len ≤ 1048576) (hz : b < w.heap.size) (hc : ∀ i, i < len → w.cell? ⟨b, o + i, none⟩ = some (.int .u8 (z i)))
    (f1 : 48 ≤ f) (f2 : f ≤ 126) :
    Calls Try.prog 3 #[.slice (some ⟨b, o, none⟩) len cap, .int .u8 f] w fun e w' => e = .returned (.bool true) ∧ Below w.heap.size w w' := by
  have ns := fun (w : World) a n c => run_neq_slice_nil_any (P := Try.prog) w 22 5 a n c 0 0 Try.underlying22
  have hmk := fun w => run_make_row' (P := Try.prog) 22 5 (.int .u8 0) 1 Try.underlying22 info5' rfl .i64 .i64 len (by omega) (by omega) w
  have HC : Hid (∀ i, i < len → w.cell? ⟨b, o + i, none⟩ = some (.int .u8 (z i))) := hc
  clear hc
  go_enter Try.func3, Try.ntmps3
  go_wp2_with (first | (go_at_call 9; refine (zz9_yes _ _ _ _ _ h20).mono ?_; rintro e w' ⟨rfl, rfl⟩))
  go_loop [5] (fun i => ∃ k : Nat, k ≤ len ∧ i = .int .i64 k ∧ Hid (∀ j, j < k → 32 ≤ z j ∧ z j ≤ 47)) (fun i => len - (intOf i).toNat)
  case atStart => exact ⟨0, Nat.zero_le _, rfl, fun j hj => absurd hj (Nat.not_lt_zero _)⟩
  case round =>
    obtain ⟨k, hk, rfl, HA⟩ := hrel
    by_cases hlt : k < len
    · have hck := HC.out k hlt
      go_wp2
      · go_ret
        exact ⟨rfl, Below.refl _ _⟩
      · go_round
        case rel => exact ⟨k + 1, by omega, by go_num, fun j hj => by
          by_cases e : j = k
          · subst e; omega
          · exact HA.out j (by omega)⟩
        case measure => simp [intOf]; omega
      · go_ret
        exact ⟨rfl, Below.refl _ _⟩
    · have HA' : Hid (∀ j, j < len → 32 ≤ z j ∧ z j ≤ 47) := fun j hj => HA.out j (by omega)
      clear HA
      go_wp2
      go_loopw [7] (fun i wr => ∃ (k : Nat) (C : Array Value), k ≤ len ∧ i = .int .i64 k ∧ wr = w.alloc (.cells C 5) ∧ C.size = len ∧ Hid (∀ j, j < k → C[j]? = some (.int .u8 (z j)))) (fun i _ => len - (intOf i).toNat)
      case atStart => exact ⟨0, _, Nat.zero_le _, rfl, rfl, size_madeCells _ _, fun j hj => absurd hj (Nat.not_lt_zero _)⟩
      case round =>
        obtain ⟨m, C, hm, rfl, rfl, hC, HM⟩ := hrel
        by_cases hlt2 : m < len
        · have hck := HC.out m hlt2
          obtain ⟨v, hv⟩ : ∃ v, C[m]? = some v := ⟨_, Array.getElem?_eq_getElem (by omega)⟩
          go_wp2
          go_roundw
          case rel => exact ⟨m + 1, _, by omega, by go_num, rfl, by simp [hC], fun j hj => by
            by_cases e : j = m
            · subst e; rw [Array.getElem?_setIfInBounds_self_of_lt (by omega)]
            · rw [Array.getElem?_setIfInBounds_ne (by omega)]; exact HM.out j (by omega)⟩
          case measure => simp [intOf]; omega
        · have HM' : Hid (∀ j, j < len → C[j]? = some (.int .u8 (z j))) := fun j hj => HM.out j (by omega)
          clear HM HC
          go_wp2_with (first
            | ((with_reducible refine wl_load 28 isRow28 size28 rfl _ rfl _ ?hx { PS.zero with st := 1 } 28 (heap_alloc2_new w _ _) ?_); (case hx => rfl))
            | (go_at_call 10; refine (toZZ_any { PS.zero with st := 1 } _).mono ?_; rintro e w1 ⟨rfl, hb1⟩)
            | ((with_reducible refine wl_store 29 size29 rfl _ _ rfl ?_ ?hx1 { PS.zero with st := 1 } ?hy1 ?_ ?_ ?hW1 ?hw1 ?hc1 ?_); (case hx1 => rfl); (case hy1 => rfl); (case hW1 => rfl); (case hw1 => simp); (case hc1 => simp [PS.cells_size])))
          have hE0 : EsAt w C z w1.heap.size 0 (w1.alloc (.cells ({ PS.zero with st := 1 } : PS).cells 29)) := es_start rfl hb1
          obtain ⟨gp, hgp⟩ : ∃ gp, gp = w1.heap.size := ⟨_, rfl⟩
          rw [← hgp] at hE0 ⊢
          have HG : Hid (gp = w1.heap.size) := hgp
          clear hgp hb1
          go_loopw [10, 11] (fun _ i wr => ∃ k : Nat, k ≤ len ∧ i = .int .i64 k ∧ EsAt w C z gp k wr) (fun _ i _ => len - (intOf i).toNat)
          case atStart => exact ⟨0, Nat.zero_le _, rfl, hE0⟩
          case round =>
            clear hE0
            obtain ⟨q, hq, rfl, hE⟩ := hrel
            by_cases hlt3 : q < len
            · have hrow := es_cell hE (HM'.out q hlt3)
              have hzq := HA'.out q hlt3
              have hHZ := fun w => ZZEscapeByte_any (escAt z q) (z q) w (by rw [escAt_nin]; omega) (by rw [escAt_nin]; omega)
              rw [escAt_step z q (by omega), escAt_kind z q (by omega)] at hHZ
              go_wp2
              refine wp_region_any mixed ?_
              show wpAny Try.prog .any _ _ 11 (Array.replicate 11 false) _ wr.drew
              refine take_at (i := 1) (some 78) (.slice (some ⟨w.heap.size, 0, none⟩) len len) rfl rfl (by kernel_rfl) (by kernel_rfl) (by kernel_rfl) (fun _ _ _ h => h) rfl (fun _ => rfl) ?_
              refine take_at (i := 2) (some 79) (.int .i64 q) rfl rfl (by kernel_rfl) (by kernel_rfl) (by kernel_rfl) (fun _ _ _ h => h) rfl (fun _ => rfl) ?_
              refine take_at (i := 3) (some 80) (.pointer (some ⟨w.heap.size, q, none⟩)) rfl rfl (by kernel_rfl) (by kernel_rfl) (by kernel_rfl) (fun _ _ _ h => h) rfl (fun w => ?_) ?_
              · go_simp
              go_simp
              refine step_two (i := 0) (j := 4) rfl rfl rfl rfl (by kernel_rfl) (fun K hK => ?_) (fun K hK => ?_)
              · refine wp_load_at 29 isRow29 size29 _ rfl (some 77) rfl gp rfl (escAt z q) 29 hE.p (hK _ _ ?_)
                clear hK K
                refine step_at (i := 4) rfl rfl (by kernel_rfl) (fun K hK => ?_)
                go_simp
                refine hK _ _ ?_
                clear hK K
                refine step_at (i := 5) rfl rfl (by kernel_rfl) (fun K hK => ?_)
                go_simp
                go_wp2_with (first | (go_at_call 11; refine (hHZ _).mono ?_; rintro e w2 ⟨rfl, hb2⟩; have hE2 := es_drop hE hb2))
                refine take_at (i := 6) (some 76) (.tuple #[.agg (escAt z (q + 1)).cells, .int .u8 0]) rfl rfl (by kernel_rfl) (by kernel_rfl) (by kernel_rfl) (fun _ _ _ h => h) rfl (fun _ => rfl) ?_
                refine take_at (i := 7) (some 83) (.agg (escAt z (q + 1)).cells) rfl rfl (by kernel_rfl) (by kernel_rfl) (by kernel_rfl) (fun _ _ _ h => h) rfl (fun _ => rfl) ?_
                refine take_at (i := 8) (some 84) (.int .u8 0) rfl rfl (by kernel_rfl) (by kernel_rfl) (by kernel_rfl) (fun _ _ _ h => h) rfl (fun _ => rfl) ?_
                go_simp
                refine step_at (i := 9) rfl rfl (by kernel_rfl) (fun K hK => ?_)
                refine wp_store_at 29 size29 _ _ rfl none rfl gp rfl (escAt z (q + 1)) rfl _ 29 hE2.p (PS.cells_size _) (hK _ _ ?_)
                clear hK K
                refine take_at (i := 10) (some 10) (.int .u8 0) rfl rfl (by kernel_rfl) (by kernel_rfl) (by kernel_rfl) (fun _ _ _ h => h) rfl (fun _ => rfl) ?_
                refine wpAny_done (by kernel_rfl) ?_ _
                have hE3 := es_put hE2 (k' := q + 1)
                have hcell : (w2.setRow gp (escAt z (q + 1)).cells).cell? ⟨gp, 0, none⟩ = some (.int .u8 2) := by rw [(cells_of hE3.p).1, escAt_st]
                clear hE2 hb2
                go_wp2
                go_roundw
                case rel => exact ⟨q + 1, by omega, by go_num, hE3⟩
                case measure => simp [intOf]; omega
              · go_simp
                refine hK _ _ ?_
                clear hK K
                refine step_at (i := 0) rfl rfl (by kernel_rfl) (fun K hK => ?_)
                refine wp_load_at 29 isRow29 size29 _ rfl (some 77) rfl gp rfl (escAt z q) 29 hE.p (hK _ _ ?_)
                clear hK K
                refine step_at (i := 5) rfl rfl (by kernel_rfl) (fun K hK => ?_)
                go_simp
                go_wp2_with (first | (go_at_call 11; refine (hHZ _).mono ?_; rintro e w2 ⟨rfl, hb2⟩; have hE2 := es_drop hE hb2))
                refine take_at (i := 6) (some 76) (.tuple #[.agg (escAt z (q + 1)).cells, .int .u8 0]) rfl rfl (by kernel_rfl) (by kernel_rfl) (by kernel_rfl) (fun _ _ _ h => h) rfl (fun _ => rfl) ?_
                refine take_at (i := 7) (some 83) (.agg (escAt z (q + 1)).cells) rfl rfl (by kernel_rfl) (by kernel_rfl) (by kernel_rfl) (fun _ _ _ h => h) rfl (fun _ => rfl) ?_
                refine take_at (i := 8) (some 84) (.int .u8 0) rfl rfl (by kernel_rfl) (by kernel_rfl) (by kernel_rfl) (fun _ _ _ h => h) rfl (fun _ => rfl) ?_
                go_simp
                refine step_at (i := 9) rfl rfl (by kernel_rfl) (fun K hK => ?_)
                refine wp_store_at 29 size29 _ _ rfl none rfl gp rfl (escAt z (q + 1)) rfl _ 29 hE2.p (PS.cells_size _) (hK _ _ ?_)
                clear hK K
                refine take_at (i := 10) (some 10) (.int .u8 0) rfl rfl (by kernel_rfl) (by kernel_rfl) (by kernel_rfl) (fun _ _ _ h => h) rfl (fun _ => rfl) ?_
                refine wpAny_done (by kernel_rfl) ?_ _
                have hE3 := es_put hE2 (k' := q + 1)
                have hcell : (w2.setRow gp (escAt z (q + 1)).cells).cell? ⟨gp, 0, none⟩ = some (.int .u8 2) := by rw [(cells_of hE3.p).1, escAt_st]
                clear hE2 hb2
                go_wp2
                go_roundw
                case rel => exact ⟨q + 1, by omega, by go_num, hE3⟩
                case measure => simp [intOf]; omega
            · have hE : EsAt w C z gp len wr := by
                have e : q = len := by omega
                rw [e] at hE
                exact hE
              have hkinds : ∃ r kk, (∀ w : World, Calls Try.prog 11 #[.agg (escAt z len).cells, .int .u8 f] w fun e w' => e = .returned (.tuple #[.agg r.cells, .int .u8 kk]) ∧ Below w.heap.size w w') ∧
                  ((3 < len ∧ kk = 0 ∧ r = { PS.zero with inter := interOf z 3, nin := 3, dis := true }) ∨ (len ≤ 3 ∧ kk = 3 ∧ r = { PS.zero with inter := interOf z len, nin := (len : Int), fin := f })) := es_final z len f h0 f1
              obtain ⟨r, kk, HZf, hrk⟩ := hkinds
              have HR : Hid ((3 < len ∧ kk = 0 ∧ r = { PS.zero with inter := interOf z 3, nin := 3, dis := true }) ∨ (len ≤ 3 ∧ kk = 3 ∧ r = { PS.zero with inter := interOf z len, nin := (len : Int), fin := f })) := hrk
              clear hrk
              have hl0 : ((len : Int) == 0) = false := by simp; omega
              go_wp2_with (first
                | ((with_reducible refine wl_load 29 isRow29 size29 rfl _ rfl _ ?hx (escAt z len) 29 hE.p ?_); (case hx => rfl))
                | (go_at_call 11; refine (HZf _).mono ?_; rintro e w2 ⟨rfl, hb2⟩; have hE2 := es_drop2 hE hb2; clear hb2)
                | ((with_reducible refine wl_store_at 29 size29 rfl _ _ rfl _ ?hx5 r ?hy5 (escAt z len).cells 29 hE2.p (PS.cells_size _) ?_); (case hx5 => rfl); (case hy5 => rfl); have hE3 := es_last hE2 r; clear hE2)
                | ((with_reducible refine wl_load 29 isRow29 size29 rfl _ rfl _ ?hx r 29 hE3.p ?_); (case hx => rfl))
                | (go_at_call 12; refine (fromZZ_any r _).mono ?_; rintro e w4 ⟨rfl, hb4⟩; have hE4 := es_last2 hE3 hb4; clear hE3 hb4; have hs4 := fun O => (Below.heap_alloc w4 O _ (heap_lt hE4.st)).trans hE4.st)
                | ((with_reducible refine wl_put 28 size28 rfl _ _ rfl ?_ ?hx2 ?_ ?hy2 ?_ ?_ ?hW2 ?hw2 ?hc2 ?hC2 ?h12 ?_); (case hx2 => rfl); (case hy2 => rfl); (case hW2 => rfl); (case hw2 => simp); (case hc2 => simp [PS.cells_size]); (case hC2 => exact PS.cells_size _); (case h12 => exact one_cells _))
                | ((with_reducible refine wl_load 28 isRow28 size28 rfl _ rfl _ ?hx { PS.zero with st := 1 } 28 (hs4 _) ?_); (case hx => rfl))
                | (go_at_call 13; refine (intro_any f _).mono ?_; rintro e w6 ⟨rfl, rfl⟩))
              · obtain ⟨rfl, hr⟩ : kk = 0 ∧ r = { PS.zero with inter := interOf z 3, nin := 3, dis := true } := by
                  rcases HR.out with ⟨h1, h2, h3⟩ | ⟨h1, h2, h3⟩
                  · first | exact ⟨h2, h3⟩ | omega
                  · first | exact ⟨h2, h3⟩ | omega
                have HE : ∀ w : World, (Op.equalIn 10000 28 (.agg r.cells) (.agg ({ PS.zero with st := 0, inter := interOf z 3, nin := 3, dis := true } : PS).cells)).run Try.prog w = .ok true w := fun w => by rw [hr]; exact ten28 _ w
                clear hr HR HA' HZf hs4
                have hlt4 := heap_lt hE4.row
                have hbel := hE4.bel
                have HROW : Hid (∀ j, j < len → w4.cell? ⟨w.heap.size, j, none⟩ = some (.int .u8 (z j))) := fun j hj => (cell_of_row _ _ _ _ _ _ hE4.row).trans (HM'.out j hj)
                clear hE4 hE HM'
                go_loopw [16] (fun i wr => ∃ j : Nat, j ≤ 3 ∧ i = .int .i64 j ∧ wr = (w4.alloc (.cells r.cells 28)).alloc (.cells ({ PS.zero with st := 0, inter := interOf z j } : PS).cells 28)) (fun i _ => 3 - (intOf i).toNat)
                case atStart => exact ⟨0, Nat.zero_le _, rfl, by rw [interOf_zero]; rfl⟩
                case round =>
                  obtain ⟨j, hj, rfl, rfl⟩ := hrel
                  by_cases hlt5 : j < 3
                  · have hrow := HROW.out j (by omega)
                    have hI := PS.sI { PS.zero with st := 0, inter := interOf z j } j (by omega) (z j)
                    simp only at hI
                    rw [interOf_succ z j (by omega)] at hI
                    obtain ⟨v, hv⟩ : ∃ v, ({ PS.zero with st := 0, inter := interOf z j } : PS).cells[4 + j]? = some v := ⟨_, PS.cI _ j (by omega)⟩
                    go_wp2
                    go_roundw
                    case rel => exact ⟨j + 1, by omega, by go_num, rfl⟩
                    case measure => simp [intOf]; omega
                  · obtain rfl : j = 3 := by omega
                    go_wp2_with (first
                      | ((with_reducible refine wg_load 28 isRow28 size28 _ rfl ?hgd _ ?hx r 28 (heap_alloc2_old w4 _ _) ?_); (case hx => rfl); (case hgd => rfl))
                      | ((with_reducible refine wg_load 28 isRow28 size28 _ rfl ?hgd ?_ ?hx4 { PS.zero with st := 0, inter := interOf z 3, nin := 3, dis := true } 28 ?hg4 ?_); (case hx4 => rfl); (case hgd => rfl); (case hg4 => with_reducible exact heap_alloc2_new w4 _ _)))
                    go_ret
                    exact ⟨rfl, (hbel.alloc (Nat.le_of_lt hlt4) _).alloc (by simp; omega) _⟩
              · obtain ⟨rfl, hr⟩ : kk = 3 ∧ r = { PS.zero with inter := interOf z len, nin := (len : Int), fin := f } := by
                  rcases HR.out with ⟨h1, h2, h3⟩ | ⟨h1, h2, h3⟩
                  · first | exact ⟨h2, h3⟩ | omega
                  · first | exact ⟨h2, h3⟩ | omega
                have HE : ∀ w : World, (Op.equalIn 10000 28 (.agg r.cells) (.agg ({ PS.zero with st := 0, inter := interOf z len, nin := (len : Int), fin := f } : PS).cells)).run Try.prog w = .ok true w := fun w => by rw [hr]; exact ten28 _ w
                clear hr HR HA' HZf hs4
                have hlt4 := heap_lt hE4.row
                have hbel := hE4.bel
                have HROW : Hid (∀ j, j < len → w4.cell? ⟨w.heap.size, j, none⟩ = some (.int .u8 (z j))) := fun j hj => (cell_of_row _ _ _ _ _ _ hE4.row).trans (HM'.out j hj)
                clear hE4 hE HM'
                go_loopw [16] (fun i wr => ∃ j : Nat, j ≤ len ∧ i = .int .i64 j ∧ wr = (w4.alloc (.cells r.cells 28)).alloc (.cells ({ PS.zero with st := 0, inter := interOf z j } : PS).cells 28)) (fun i _ => len - (intOf i).toNat)
                case atStart => exact ⟨0, Nat.zero_le _, rfl, by rw [interOf_zero]; rfl⟩
                case round =>
                  obtain ⟨j, hj, rfl, rfl⟩ := hrel
                  by_cases hlt5 : j < len
                  · have hrow := HROW.out j (by omega)
                    have hI := PS.sI { PS.zero with st := 0, inter := interOf z j } j (by omega) (z j)
                    simp only at hI
                    rw [interOf_succ z j (by omega)] at hI
                    obtain ⟨v, hv⟩ : ∃ v, ({ PS.zero with st := 0, inter := interOf z j } : PS).cells[4 + j]? = some v := ⟨_, PS.cI _ j (by omega)⟩
                    go_wp2
                    go_roundw
                    case rel => exact ⟨j + 1, by omega, by go_num, rfl⟩
                    case measure => simp [intOf]; omega
                  · have ej : j = len := by omega
                    rw [ej]
                    clear ej
                    go_wp2_with (first
                      | ((with_reducible refine wg_load 28 isRow28 size28 _ rfl ?hgd _ ?hx r 28 (heap_alloc2_old w4 _ _) ?_); (case hx => rfl); (case hgd => rfl))
                      | ((with_reducible refine wg_load 28 isRow28 size28 _ rfl ?hgd ?_ ?hx4 { PS.zero with st := 0, inter := interOf z len, nin := (len : Int), fin := f } 28 ?hg4 ?_); (case hx4 => rfl); (case hgd => rfl); (case hg4 => with_reducible exact heap_alloc2_new w4 _ _)))
                    go_ret
                    exact ⟨rfl, (hbel.alloc (Nat.le_of_lt hlt4) _).alloc (by simp; omega) _⟩
end Go.Proofs.Qxb6603776a
