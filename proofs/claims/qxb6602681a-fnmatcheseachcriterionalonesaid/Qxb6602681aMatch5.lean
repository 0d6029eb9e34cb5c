import Derived.Test.Qxb6602681aMatch4
namespace Go.Proofs.Qxb6602681a
open Go.RowKit
set_option linter.unusedVariables false
set_option linter.unusedSimpArgs false

/-- A slice of bools that came in, not nil: its elements. -/
def BRow (w : World) (b o l : Nat) (bs : List Bool) : Prop := bs.length = l ∧ b < w.heap.size ∧ ∀ i, i < l → w.cell? ⟨b, o + i, none⟩ = some (.bool (bs.getD i false))
theorem BRow.later {w w' : World} {b o l : Nat} {bs : List Bool} (h : BRow w b o l bs) (hb : Below w.heap.size w w') : BRow w' b o l bs :=
  ⟨h.1, Nat.lt_of_lt_of_le h.2.1 hb.size, fun i hi => (hb.cell (p := ⟨b, o + i, none⟩) h.2.1).trans (h.2.2 i hi)⟩
theorem BRow.src {w : World} {b o l : Nat} {bs : List Bool} (h : BRow w b o l bs) : ∀ (j : Nat) (v : Value), (bs.map Value.bool)[j]? = some v → w.cell? ((⟨b, o, none⟩ : Addr).add j) = some v := by
  intro j v hv
  have hj : j < l := by
    have := (List.getElem?_eq_some_iff.1 hv).1
    simpa [h.1] using this
  have hadd : (⟨b, o, none⟩ : Addr).add j = ⟨b, o + j, none⟩ := by unfold Addr.add; split <;> simp_all
  rw [hadd, h.2.2 j hj]
  have hjb : j < bs.length := by rw [h.1]; exact hj
  simp [hjb] at hv
  simp [hjb, ← hv]
theorem one_bools (bs : List Bool) : ∀ v ∈ bs.map Value.bool, v.oneCell' = true := by
  intro v hv
  obtain ⟨b, _, rfl⟩ := List.mem_map.1 hv
  rfl
theorem made_heap (w : World) (n : Nat) : (w.alloc (.cells (madeCells #[.bool false] n) 4)).heap[w.heap.size]? = some (.cells (madeCells #[.bool false] n).toList.toArray 4 (0, 0)) := by
  rw [Array.toArray_toList]; exact heap_alloc_new w _
theorem copy_named {w2 : World} {g l : Nat} {bs : List Bool} {p : Int} (h : Hid (w2.heap[g]? = some (.cells (splice (madeCells #[.bool false] l).toList 0 (bs.map Value.bool)).toArray 4 (0, 0)))) (hl : bs.length = l) (p0 : 0 ≤ p) (p1 : p < l) :
    Named w2 (.slice (some ⟨g, 0, none⟩) l l) p (bs.getD p.toNat false) := by
  have h' := h.out
  have es : splice (madeCells #[.bool false] l).toList 0 (bs.map Value.bool) = bs.map Value.bool := by
    simp [splice, List.drop_eq_nil_of_le, size_madeCells, hl]
  rw [es] at h'
  have hlt : g < w2.heap.size := by
    by_cases hh : g < w2.heap.size
    · exact hh
    · simp [Array.getElem?_eq_none (Nat.le_of_not_lt hh)] at h'
  refine .inr ⟨g, 0, l, l, rfl, p0, p1, hlt, ?_⟩
  have hp : p.toNat < bs.length := by omega
  simp [World.cell?, h', hp]

set_option maxRecDepth 100000 in
set_option maxHeartbeats 4000000 in
theorem m_nn (typ height lo hi fp tp cTyp cHeight cEpoch : Int) (w : World) (e1 : -9223372036854775808 ≤ cEpoch) (e2 : cEpoch ≤ 9223372036854775807) :
    Calls Try.prog 5 #[.int .i64 typ, .int .i64 height, .int .i64 lo, .int .i64 hi, (.slice none 0 0), (.slice none 0 0), .int .i64 fp, .int .i64 tp, .int .i64 cTyp, .int .i64 cHeight, .int .i64 cEpoch] w
      fun e w' => e = .returned (.bool true) ∧ Below w.heap.size w w' := by
  have ns := fun (w : World) a n c => run_neq_slice_nil_any (P := Try.prog) w 28 4 a n c 0 0 Try.underlying28
  have wB : Below w.heap.size w w := Below.refl _ _
  have wZ : w.heap.size ≤ w.heap.size := Nat.le_refl _
  have h11 : 0 + 0 ≤ 1048576 := by omega
  obtain ⟨W, T, H, E, S⟩ := seven w typ height lo hi fp tp cTyp cHeight cEpoch _ _ _ _ (Named.nil w fp) (Named.nil w tp) e1 e2
  have hb : Below w.heap.size w w := Below.refl _ _
  have hbw : Below w.heap.size w w := Below.refl _ _
  go_enter Try.func5, Try.ntmps5
  go_wp2_with (first
    | (go_at_call 11; refine (zz11_yes _ _ _ _ _ _ _ _ _ _ _ _ _ _ _ _ h11).mono ?_; rintro e w' ⟨rfl, hw'⟩; obtain rfl : w = w' := hw'.symm)
    | (go_at_call 12; first
        | ((with_reducible refine (S.h1 _ hb).mono ?_); rintro e w' ⟨rfl, hb'⟩; replace hb := hb.trans (hb'.mono hb.size); clear hb')
        | ((with_reducible refine (S.h2 _ hb).mono ?_); rintro e w' ⟨rfl, hb'⟩; replace hb := hb.trans (hb'.mono hb.size); clear hb')
        | ((with_reducible refine (S.h3 _ hb).mono ?_); rintro e w' ⟨rfl, hb'⟩; replace hb := hb.trans (hb'.mono hb.size); clear hb')
        | ((with_reducible refine (S.h4 _ hb).mono ?_); rintro e w' ⟨rfl, hb'⟩; replace hb := hb.trans (hb'.mono hb.size); clear hb')
        | ((with_reducible refine (S.h5 _ hb).mono ?_); rintro e w' ⟨rfl, hb'⟩; replace hb := hb.trans (hb'.mono hb.size); clear hb')
        | ((with_reducible refine (S.h6 _ hb).mono ?_); rintro e w' ⟨rfl, hb'⟩; replace hb := hb.trans (hb'.mono hb.size); clear hb')
        | ((with_reducible refine (S.h7 _ hb).mono ?_); rintro e w' ⟨rfl, hb'⟩; replace hb := hb.trans (hb'.mono hb.size); clear hb')))
  all_goals
    go_ret
    refine ⟨?_, hbw.trans (hb.mono hbw.size)⟩
    have hW := S.all.out
    clear S
    subst hW
    simp_all

set_option maxRecDepth 100000 in
set_option maxHeartbeats 4000000 in
theorem m_Fn (typ height lo hi fp tp cTyp cHeight cEpoch : Int) (w : World) (e1 : -9223372036854775808 ≤ cEpoch) (e2 : cEpoch ≤ 9223372036854775807) (b1 o1 l1 m1 : Nat) (bs1 : List Bool) (R1 : BRow w b1 o1 l1 bs1) (p1 : 0 ≤ fp) (q1 : fp < l1) (y1 : l1 ≤ 524288) :
    Calls Try.prog 5 #[.int .i64 typ, .int .i64 height, .int .i64 lo, .int .i64 hi, (.slice (some ⟨b1, o1, none⟩) l1 m1), (.slice none 0 0), .int .i64 fp, .int .i64 tp, .int .i64 cTyp, .int .i64 cHeight, .int .i64 cEpoch] w
      fun e w' => e = .returned (.bool true) ∧ Below w.heap.size w w' := by
  have ns := fun (w : World) a n c => run_neq_slice_nil_any (P := Try.prog) w 28 4 a n c 0 0 Try.underlying28
  have wB : Below w.heap.size w w := Below.refl _ _
  have wZ : w.heap.size ≤ w.heap.size := Nat.le_refl _
  have hmk1 := fun w => run_make_row' (P := Try.prog) 28 4 (.bool false) 1 Try.underlying28 info4 rfl .i64 .i64 l1 (by omega) (by omega) w
  have h11 : l1 + 0 ≤ 1048576 := by omega
  go_enter Try.func5, Try.ntmps5
  go_wp2_with (first
    | (go_at_call 11; refine (zz11_yes _ _ _ _ _ _ _ _ _ _ _ _ _ _ _ _ h11).mono ?_; rintro e w' ⟨rfl, hw'⟩; obtain rfl : w = w' := hw'.symm)
    | ((with_reducible refine wpList_copy_splice rfl _ _ 28 28 rfl 4 Try.underlying28 size4 (some ⟨w.heap.size, 0, none⟩) (some ⟨b1, o1, none⟩) l1 l1 l1 m1 ?hd1 ?hs1 w.heap.size 0 (madeCells #[.bool false] l1).toList 4 ?hg1 (bs1.map Value.bool) ?hn1 ?hpos1 ?hfit1 (one_bools bs1) w.heap.size w ?hb1 ?hBg1 ?_);
        (case hd1 => rfl); (case hs1 => rfl); (case hg1 => exact made_heap _ _); (case hn1 => simp [R1.1]); (case hpos1 => exact fun _ => ⟨rfl, _, rfl, (R1.later ((wB).alloc wZ _)).src⟩); (case hfit1 => simp [size_madeCells, R1.1]); (case hb1 => exact (wB).alloc wZ _); (case hBg1 => exact wZ);
        intro w12 HG1 hB1; have hbw := hB1; obtain ⟨W, T, H, E, S⟩ := seven w12 typ height lo hi fp tp cTyp cHeight cEpoch _ _ _ _ (copy_named HG1 R1.1 p1 q1) (Named.nil w12 tp) e1 e2; have hb : Below w12.heap.size w12 w12 := Below.refl _ _)
    | (go_at_call 12; first
        | ((with_reducible refine (S.h1 _ hb).mono ?_); rintro e w' ⟨rfl, hb'⟩; replace hb := hb.trans (hb'.mono hb.size); clear hb')
        | ((with_reducible refine (S.h2 _ hb).mono ?_); rintro e w' ⟨rfl, hb'⟩; replace hb := hb.trans (hb'.mono hb.size); clear hb')
        | ((with_reducible refine (S.h3 _ hb).mono ?_); rintro e w' ⟨rfl, hb'⟩; replace hb := hb.trans (hb'.mono hb.size); clear hb')
        | ((with_reducible refine (S.h4 _ hb).mono ?_); rintro e w' ⟨rfl, hb'⟩; replace hb := hb.trans (hb'.mono hb.size); clear hb')
        | ((with_reducible refine (S.h5 _ hb).mono ?_); rintro e w' ⟨rfl, hb'⟩; replace hb := hb.trans (hb'.mono hb.size); clear hb')
        | ((with_reducible refine (S.h6 _ hb).mono ?_); rintro e w' ⟨rfl, hb'⟩; replace hb := hb.trans (hb'.mono hb.size); clear hb')
        | ((with_reducible refine (S.h7 _ hb).mono ?_); rintro e w' ⟨rfl, hb'⟩; replace hb := hb.trans (hb'.mono hb.size); clear hb')))
  all_goals
    go_ret
    refine ⟨?_, hbw.trans (hb.mono hbw.size)⟩
    have hW := S.all.out
    clear S
    subst hW
    simp_all

set_option maxRecDepth 100000 in
set_option maxHeartbeats 4000000 in
theorem m_nF (typ height lo hi fp tp cTyp cHeight cEpoch : Int) (w : World) (e1 : -9223372036854775808 ≤ cEpoch) (e2 : cEpoch ≤ 9223372036854775807) (b2 o2 l2 m2 : Nat) (bs2 : List Bool) (R2 : BRow w b2 o2 l2 bs2) (p2 : 0 ≤ tp) (q2 : tp < l2) (y2 : l2 ≤ 524288) :
    Calls Try.prog 5 #[.int .i64 typ, .int .i64 height, .int .i64 lo, .int .i64 hi, (.slice none 0 0), (.slice (some ⟨b2, o2, none⟩) l2 m2), .int .i64 fp, .int .i64 tp, .int .i64 cTyp, .int .i64 cHeight, .int .i64 cEpoch] w
      fun e w' => e = .returned (.bool true) ∧ Below w.heap.size w w' := by
  have ns := fun (w : World) a n c => run_neq_slice_nil_any (P := Try.prog) w 28 4 a n c 0 0 Try.underlying28
  have wB : Below w.heap.size w w := Below.refl _ _
  have wZ : w.heap.size ≤ w.heap.size := Nat.le_refl _
  have hmk2 := fun w => run_make_row' (P := Try.prog) 28 4 (.bool false) 1 Try.underlying28 info4 rfl .i64 .i64 l2 (by omega) (by omega) w
  have h11 : 0 + l2 ≤ 1048576 := by omega
  go_enter Try.func5, Try.ntmps5
  go_wp2_with (first
    | (go_at_call 11; refine (zz11_yes _ _ _ _ _ _ _ _ _ _ _ _ _ _ _ _ h11).mono ?_; rintro e w' ⟨rfl, hw'⟩; obtain rfl : w = w' := hw'.symm)
    | ((with_reducible refine wpList_copy_splice rfl _ _ 28 28 rfl 4 Try.underlying28 size4 (some ⟨w.heap.size, 0, none⟩) (some ⟨b2, o2, none⟩) l2 l2 l2 m2 ?hd2 ?hs2 w.heap.size 0 (madeCells #[.bool false] l2).toList 4 ?hg2 (bs2.map Value.bool) ?hn2 ?hpos2 ?hfit2 (one_bools bs2) w.heap.size w ?hb2 ?hBg2 ?_);
        (case hd2 => rfl); (case hs2 => rfl); (case hg2 => exact made_heap _ _); (case hn2 => simp [R2.1]); (case hpos2 => exact fun _ => ⟨rfl, _, rfl, (R2.later ((wB).alloc wZ _)).src⟩); (case hfit2 => simp [size_madeCells, R2.1]); (case hb2 => exact (wB).alloc wZ _); (case hBg2 => exact wZ);
        intro w22 HG2 hB2; have hbw := hB2; obtain ⟨W, T, H, E, S⟩ := seven w22 typ height lo hi fp tp cTyp cHeight cEpoch _ _ _ _ (Named.nil w22 fp) (copy_named HG2 R2.1 p2 q2) e1 e2; have hb : Below w22.heap.size w22 w22 := Below.refl _ _)
    | (go_at_call 12; first
        | ((with_reducible refine (S.h1 _ hb).mono ?_); rintro e w' ⟨rfl, hb'⟩; replace hb := hb.trans (hb'.mono hb.size); clear hb')
        | ((with_reducible refine (S.h2 _ hb).mono ?_); rintro e w' ⟨rfl, hb'⟩; replace hb := hb.trans (hb'.mono hb.size); clear hb')
        | ((with_reducible refine (S.h3 _ hb).mono ?_); rintro e w' ⟨rfl, hb'⟩; replace hb := hb.trans (hb'.mono hb.size); clear hb')
        | ((with_reducible refine (S.h4 _ hb).mono ?_); rintro e w' ⟨rfl, hb'⟩; replace hb := hb.trans (hb'.mono hb.size); clear hb')
        | ((with_reducible refine (S.h5 _ hb).mono ?_); rintro e w' ⟨rfl, hb'⟩; replace hb := hb.trans (hb'.mono hb.size); clear hb')
        | ((with_reducible refine (S.h6 _ hb).mono ?_); rintro e w' ⟨rfl, hb'⟩; replace hb := hb.trans (hb'.mono hb.size); clear hb')
        | ((with_reducible refine (S.h7 _ hb).mono ?_); rintro e w' ⟨rfl, hb'⟩; replace hb := hb.trans (hb'.mono hb.size); clear hb')))
  all_goals
    go_ret
    refine ⟨?_, hbw.trans (hb.mono hbw.size)⟩
    have hW := S.all.out
    clear S
    subst hW
    simp_all

set_option maxRecDepth 100000 in
set_option maxHeartbeats 4000000 in
theorem m_FF (typ height lo hi fp tp cTyp cHeight cEpoch : Int) (w : World) (e1 : -9223372036854775808 ≤ cEpoch) (e2 : cEpoch ≤ 9223372036854775807) (b1 o1 l1 m1 : Nat) (bs1 : List Bool) (R1 : BRow w b1 o1 l1 bs1) (p1 : 0 ≤ fp) (q1 : fp < l1) (y1 : l1 ≤ 524288) (b2 o2 l2 m2 : Nat) (bs2 : List Bool) (R2 : BRow w b2 o2 l2 bs2) (p2 : 0 ≤ tp) (q2 : tp < l2) (y2 : l2 ≤ 524288) :
    Calls Try.prog 5 #[.int .i64 typ, .int .i64 height, .int .i64 lo, .int .i64 hi, (.slice (some ⟨b1, o1, none⟩) l1 m1), (.slice (some ⟨b2, o2, none⟩) l2 m2), .int .i64 fp, .int .i64 tp, .int .i64 cTyp, .int .i64 cHeight, .int .i64 cEpoch] w
      fun e w' => e = .returned (.bool true) ∧ Below w.heap.size w w' := by
  have ns := fun (w : World) a n c => run_neq_slice_nil_any (P := Try.prog) w 28 4 a n c 0 0 Try.underlying28
  have wB : Below w.heap.size w w := Below.refl _ _
  have wZ : w.heap.size ≤ w.heap.size := Nat.le_refl _
  have hmk1 := fun w => run_make_row' (P := Try.prog) 28 4 (.bool false) 1 Try.underlying28 info4 rfl .i64 .i64 l1 (by omega) (by omega) w
  have hmk2 := fun w => run_make_row' (P := Try.prog) 28 4 (.bool false) 1 Try.underlying28 info4 rfl .i64 .i64 l2 (by omega) (by omega) w
  have h11 : l1 + l2 ≤ 1048576 := by omega
  go_enter Try.func5, Try.ntmps5
  go_wp2_with (first
    | (go_at_call 11; refine (zz11_yes _ _ _ _ _ _ _ _ _ _ _ _ _ _ _ _ h11).mono ?_; rintro e w' ⟨rfl, hw'⟩; obtain rfl : w = w' := hw'.symm)
    | ((with_reducible refine wpList_copy_splice rfl _ _ 28 28 rfl 4 Try.underlying28 size4 (some ⟨w.heap.size, 0, none⟩) (some ⟨b1, o1, none⟩) l1 l1 l1 m1 ?hd1 ?hs1 w.heap.size 0 (madeCells #[.bool false] l1).toList 4 ?hg1 (bs1.map Value.bool) ?hn1 ?hpos1 ?hfit1 (one_bools bs1) w.heap.size w ?hb1 ?hBg1 ?_);
        (case hd1 => rfl); (case hs1 => rfl); (case hg1 => exact made_heap _ _); (case hn1 => simp [R1.1]); (case hpos1 => exact fun _ => ⟨rfl, _, rfl, (R1.later ((wB).alloc wZ _)).src⟩); (case hfit1 => simp [size_madeCells, R1.1]); (case hb1 => exact (wB).alloc wZ _); (case hBg1 => exact wZ);
        intro w12 HG1 hB1; have N1 := copy_named HG1 R1.1 p1 q1; have w12B := hB1; have w12Z := hB1.size; clear HG1)
    | ((with_reducible refine wpList_copy_splice rfl _ _ 28 28 rfl 4 Try.underlying28 size4 (some ⟨w12.heap.size, 0, none⟩) (some ⟨b2, o2, none⟩) l2 l2 l2 m2 ?hd2 ?hs2 w12.heap.size 0 (madeCells #[.bool false] l2).toList 4 ?hg2 (bs2.map Value.bool) ?hn2 ?hpos2 ?hfit2 (one_bools bs2) w12.heap.size w12 ?hb2 ?hBg2 ?_);
        (case hd2 => rfl); (case hs2 => rfl); (case hg2 => exact made_heap _ _); (case hn2 => simp [R2.1]); (case hpos2 => exact fun _ => ⟨rfl, _, rfl, (R2.later ((w12B).alloc w12Z _)).src⟩); (case hfit2 => simp [size_madeCells, R2.1]); (case hb2 => exact (Below.refl _ _).alloc (Nat.le_refl _) _); (case hBg2 => exact Nat.le_refl _);
        intro w22 HG2 hB2; have hbw := w12B.trans (hB2.mono w12Z); obtain ⟨W, T, H, E, S⟩ := seven w22 typ height lo hi fp tp cTyp cHeight cEpoch _ _ _ _ (N1.old hB2) (copy_named HG2 R2.1 p2 q2) e1 e2; have hb : Below w22.heap.size w22 w22 := Below.refl _ _)
    | (go_at_call 12; first
        | ((with_reducible refine (S.h1 _ hb).mono ?_); rintro e w' ⟨rfl, hb'⟩; replace hb := hb.trans (hb'.mono hb.size); clear hb')
        | ((with_reducible refine (S.h2 _ hb).mono ?_); rintro e w' ⟨rfl, hb'⟩; replace hb := hb.trans (hb'.mono hb.size); clear hb')
        | ((with_reducible refine (S.h3 _ hb).mono ?_); rintro e w' ⟨rfl, hb'⟩; replace hb := hb.trans (hb'.mono hb.size); clear hb')
        | ((with_reducible refine (S.h4 _ hb).mono ?_); rintro e w' ⟨rfl, hb'⟩; replace hb := hb.trans (hb'.mono hb.size); clear hb')
        | ((with_reducible refine (S.h5 _ hb).mono ?_); rintro e w' ⟨rfl, hb'⟩; replace hb := hb.trans (hb'.mono hb.size); clear hb')
        | ((with_reducible refine (S.h6 _ hb).mono ?_); rintro e w' ⟨rfl, hb'⟩; replace hb := hb.trans (hb'.mono hb.size); clear hb')
        | ((with_reducible refine (S.h7 _ hb).mono ?_); rintro e w' ⟨rfl, hb'⟩; replace hb := hb.trans (hb'.mono hb.size); clear hb')))
  all_goals
    go_ret
    refine ⟨?_, hbw.trans (hb.mono hbw.size)⟩
    have hW := S.all.out
    clear S
    subst hW
    simp_all
end Go.Proofs.Qxb6602681a
