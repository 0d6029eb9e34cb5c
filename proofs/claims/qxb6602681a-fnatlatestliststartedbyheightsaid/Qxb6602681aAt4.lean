import Derived.Test.Qxb6602681aAt3
namespace Go.Proofs.Qxb6602681a
open Go.RowKit
set_option linter.unusedVariables false
set_option linter.unusedSimpArgs false
set_option maxRecDepth 100000
set_option maxHeartbeats 40000000

theorem info3' : (Try.prog.info? 3).map (fun i => (i.zero, i.size, i.bytes)) = some (some (.int .i64 0), 1, 8) := by kernel_rfl
theorem size3 : (Try.prog.info? 3).map (·.size) = some 1 := by kernel_rfl
/-- A row of the call's own. -/
def Own (w : World) (g l : Nat) (F : Nat → Int) : Prop := g < w.heap.size ∧ ∀ r, r < l → w.cell? ⟨g, r, none⟩ = some (.int .i64 (F r))
theorem Own.later {w w' : World} {g l : Nat} {F : Nat → Int} (h : Own w g l F) (hb : Below w.heap.size w w') : Own w' g l F :=
  ⟨Nat.lt_of_lt_of_le h.1 hb.size, fun r hr => (hb.cell (p := ⟨g, r, none⟩) h.1).trans (h.2 r hr)⟩
theorem Own.ints {w : World} {g l : Nat} {F : Nat → Int} (h : Own w g l F) : Ints1 w (some ⟨g, 0, none⟩) l F := fun r hr => ⟨g, 0, rfl, h.1, by rw [Nat.zero_add]; exact h.2 r hr⟩
def intsOf (F : Nat → Int) (l : Nat) : List Value := (List.range l).map fun i => Value.int .i64 (F i)
theorem intsOf_length (F : Nat → Int) (l : Nat) : (intsOf F l).length = l := by simp [intsOf]
theorem one_ints (F : Nat → Int) (l : Nat) : ∀ v ∈ intsOf F l, v.oneCell' = true := by
  intro v hv
  obtain ⟨b, _, rfl⟩ := List.mem_map.1 hv
  rfl
theorem ints_src {w : World} {x : Addr} {l : Nat} {F : Nat → Int} (h : Ints1 w (some x) l F) : ∀ (j : Nat) (v : Value), (intsOf F l)[j]? = some v → w.cell? (x.add j) = some v := by
  intro j v hv
  have hj : j < l := by
    have := (List.getElem?_eq_some_iff.1 hv).1
    simpa [intsOf] using this
  obtain ⟨b, o, e, _, hc⟩ := h j hj
  cases e
  rw [Addr.add_mid, hc]
  simp [intsOf, hj] at hv
  rw [hv]
theorem made_heap3 (w : World) (n : Nat) : (w.alloc (.cells (madeCells #[.int .i64 0] n) 3)).heap[w.heap.size]? = some (.cells (madeCells #[.int .i64 0] n).toList.toArray 3 (0, 0)) := by
  rw [Array.toArray_toList]; exact heap_alloc_last w _
theorem copy_own {w2 : World} {g l : Nat} {F : Nat → Int} (h : Hid (w2.heap[g]? = some (.cells (splice (madeCells #[.int .i64 0] l).toList 0 (intsOf F l)).toArray 3 (0, 0)))) : Own w2 g l F := by
  have h' := h.out
  have es : splice (madeCells #[.int .i64 0] l).toList 0 (intsOf F l) = intsOf F l := by
    simp [splice, List.drop_eq_nil_of_le, size_madeCells, intsOf_length]
  rw [es] at h'
  have hlt : g < w2.heap.size := by
    by_cases hh : g < w2.heap.size
    · exact hh
    · simp [Array.getElem?_eq_none (Nat.le_of_not_lt hh)] at h'
  refine ⟨hlt, fun r hr => ?_⟩
  rw [cell_of_row _ _ _ _ _ _ h']
  simp [intsOf, hr]
/-- The two searches find the same list. -/
theorem at_index {n kk q : Nat} {F : Nat → Int} {h : Int} (hs : ∀ j, 2 ≤ j → j < n → F (j - 1) ≤ F j) (hk : kk < n) (h1 : ∀ j, 1 ≤ j → j ≤ kk → F j ≤ h) (h2 : kk + 1 < n → h < F (kk + 1))
    (hq : q < n) (g1 : 1 ≤ q → F q ≤ h) (g2 : ∀ j, q < j → j < n → h < F j) : q = kk := by
  have mono : ∀ d a, 1 ≤ a → a + d < n → F a ≤ F (a + d) := by
    intro d
    induction d with
    | zero => intro a _ _; exact Int.le_refl _
    | succ d ih =>
      intro a ha hd
      have e1 := ih a ha (by omega)
      have e2 := hs (a + (d + 1)) (by omega) hd
      rw [show a + (d + 1) - 1 = a + d by omega] at e2
      exact Int.le_trans e1 e2
  by_cases hlt : kk < q
  · have e1 := h2 (by omega)
    have e2 := mono (q - (kk + 1)) (kk + 1) (by omega) (by omega)
    rw [show kk + 1 + (q - (kk + 1)) = q by omega] at e2
    have e3 := g1 (by omega)
    omega
  · by_cases hgt : q < kk
    · have e1 := g2 kk hgt hk
      have e2 := h1 kk (by omega) (Nat.le_refl _)
      omega
    · omega

/-- The starts are nil: whatever the lists. -/
theorem atl_nil (a2 : Option Addr) (l2 m2 : Nat) (A : Nat → Option Addr) (L C : Nat → Nat) (h : Int) (w : World) (z2 : l2 ≤ 9223372036854775807) (hr : Rows2 w a2 l2 A L C) :
    Calls Try.prog 3 #[.slice none 0 0, .slice a2 l2 m2, .int .i64 h] w fun e w' => e = .returned (.bool true) ∧ Below w.heap.size w w' := by
  have ns := fun (w : World) a n c => run_neq_slice_nil_any (P := Try.prog) w 22 3 a n c 0 0 Try.underlying22
  have HR : Hid (Rows2 w a2 l2 A L C) := hr
  clear hr
  go_enter Try.func3, Try.ntmps3
  go_wp2_with (first | (go_at_call 7; refine (zz7_any _ _ _ _ _ _ _ _ _ _ _ (by omega) z2 HR.out).mono ?_; rintro e w' ⟨⟨B, rfl⟩, rfl⟩))
  · go_ret
    exact ⟨rfl, Below.refl _ _⟩
  · go_ret
    exact ⟨rfl, Below.refl _ _⟩
  · go_loop [8, 9] (fun n i => ∃ (s : Int) (k : Nat), k ≤ l2 ∧ n = .int .i64 s ∧ i = .int .i64 k) (fun _ i => l2 - (intOf i).toNat)
    case atStart => exact ⟨_, 0, Nat.zero_le _, rfl, rfl⟩
    case round =>
      obtain ⟨s, k, hk, rfl, rfl⟩ := hrel
      by_cases hlt : k < l2
      · obtain ⟨b, o, rfl, hb, hc, hL⟩ := HR.out k hlt
        go_wp2
        · go_ret
          exact ⟨rfl, Below.refl _ _⟩
        · go_ret
          exact ⟨rfl, Below.refl _ _⟩
        · go_round
          case rel => exact ⟨_, k + 1, by omega, rfl, by go_num⟩
          case measure => simp [intOf]; omega
      · go_wp2
        go_ret
        exact ⟨rfl, Below.refl _ _⟩

/-- Too many: true at once. -/
theorem atl_wide (x : Addr) (a2 : Option Addr) (l1 m1 l2 m2 : Nat) (A : Nat → Option Addr) (L C : Nat → Nat) (h : Int) (w : World) (z1 : l1 ≤ 9223372036854775807) (z2 : l2 ≤ 9223372036854775807) (hr : Rows2 w a2 l2 A L C) (hw : 16384 < l1 ∨ 16384 < l2) :
    Calls Try.prog 3 #[.slice (some x) l1 m1, .slice a2 l2 m2, .int .i64 h] w fun e w' => e = .returned (.bool true) ∧ Below w.heap.size w w' := by
  have HR : Hid (Rows2 w a2 l2 A L C) := hr
  clear hr
  rcases hw with hw | hw
  all_goals
    go_enter Try.func3, Try.ntmps3
    go_wp2_with (first | (go_at_call 7; refine (zz7_any _ _ _ _ _ _ _ _ _ _ _ z1 z2 HR.out).mono ?_; rintro e w' ⟨⟨B, rfl⟩, rfl⟩))
    all_goals
      go_ret
      exact ⟨rfl, Below.refl _ _⟩

/-- Nothing, or not as many starts as lists. -/
theorem atl_short (x : Addr) (a2 : Option Addr) (l1 m1 l2 m2 : Nat) (F : Nat → Int) (A : Nat → Option Addr) (L C : Nat → Nat) (h : Int) (w : World) (z1 : l1 ≤ 16384) (z2 : l2 ≤ 16384) (hr : Rows2 w a2 l2 A L C) (hi : Ints1 w (some x) l1 F) (hs : l1 = 0 ∨ ¬ l1 = l2) :
    Calls Try.prog 3 #[.slice (some x) l1 m1, .slice a2 l2 m2, .int .i64 h] w fun e w' => e = .returned (.bool true) ∧ Below w.heap.size w w' := by
  have ns := fun (w : World) a n c => run_neq_slice_nil_any (P := Try.prog) w 22 3 a n c 0 0 Try.underlying22
  have wB : Below w.heap.size w w := Below.refl _ _
  have wZ : w.heap.size ≤ w.heap.size := Nat.le_refl _
  have HR : Hid (Rows2 w a2 l2 A L C) := hr
  have H1 : Hid (Ints1 w (some x) l1 F) := hi
  clear hr hi
  have hmk := fun w => run_make_row' (P := Try.prog) 22 3 (.int .i64 0) 8 Try.underlying22 info3' rfl .i64 .i64 l1 (by omega) (by omega) w
  have HS : Hid (l1 = 0 ∨ ¬ l1 = l2) := hs
  clear hs
  go_enter Try.func3, Try.ntmps3
  go_wp2_with (first
    | (go_at_call 7; refine (zz7_any _ _ _ _ _ _ _ _ _ _ _ (by omega) (by omega) HR.out).mono ?_; rintro e w' ⟨⟨B, rfl⟩, rfl⟩)
    | ((with_reducible refine wpList_copy_splice rfl _ _ 22 22 rfl 3 Try.underlying22 size3 (some ⟨w.heap.size, 0, none⟩) (some x) l1 l1 l1 m1 ?hd1 ?hs1 w.heap.size 0 (madeCells #[.int .i64 0] l1).toList 3 ?hg1 (intsOf F l1) ?hn1 ?hpos1 ?hfit1 (one_ints F l1) w.heap.size w ?hb1 ?hBg1 ?_);
        (case hd1 => rfl); (case hs1 => rfl); (case hg1 => exact made_heap3 _ _); (case hn1 => simp [intsOf_length]); (case hpos1 => exact fun _ => ⟨rfl, _, rfl, ints_src (H1.out.later (wB.alloc wZ _))⟩); (case hfit1 => simp [size_madeCells, intsOf_length]); (case hb1 => exact wB.alloc wZ _); (case hBg1 => exact wZ);
        intro w2 HG hB; have HO : Hid (Own w2 w.heap.size l1 F) := copy_own HG; have HR2 : Hid (Rows2 w2 a2 l2 A L C) := HR.out.later hB; clear HG))
  · go_ret
    exact ⟨rfl, Below.refl _ _⟩
  · go_loop [8, 9] (fun n i => ∃ (s : Int) (k : Nat), k ≤ l2 ∧ n = .int .i64 s ∧ i = .int .i64 k) (fun _ i => l2 - (intOf i).toNat)
    case atStart => exact ⟨_, 0, Nat.zero_le _, rfl, rfl⟩
    case round =>
      obtain ⟨s, k, hk, rfl, rfl⟩ := hrel
      by_cases hlt : k < l2
      · obtain ⟨b, o, rfl, hb, hc, hL⟩ := HR2.out k hlt
        go_wp2
        · go_ret
          exact ⟨rfl, hB⟩
        · go_ret
          exact ⟨rfl, hB⟩
        · go_round
          case rel => exact ⟨_, k + 1, by omega, rfl, by go_num⟩
          case measure => simp [intOf]; omega
      · rcases HS.out with h0 | h0
        · have hb0 : ((l1 : Int) == 0) = true := by simp [h0]
          have HZ : Hid (l1 = 0) := h0
          clear h0
          go_wp2
          go_ret
          exact ⟨rfl, hB⟩
        · by_cases hz : l1 = 0
          · have hb0 : ((l1 : Int) == 0) = true := by simp [hz]
            have HZ : Hid (l1 = 0) := hz
            clear h0 hz
            go_wp2
            go_ret
            exact ⟨rfl, hB⟩
          · have hb0 : ((l1 : Int) == 0) = false := by simp [hz]
            have hb1 : ((l1 : Int) != (l2 : Int)) = true := by simp; omega
            clear h0 hz
            go_wp2
            go_ret
            exact ⟨rfl, hB⟩
end Go.Proofs.Qxb6602681a
