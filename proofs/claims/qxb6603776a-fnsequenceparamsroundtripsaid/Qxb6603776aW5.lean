import Derived.Test.Qxb6603776aW4
namespace Go.Proofs.Qxb6603776a
open Go.RowKit
set_option linter.unusedVariables false
set_option linter.unusedSimpArgs false
attribute [local go_sem] PS.c0 PS.c1 PS.c2 PS.c3 PS.c7 PS.c31 PS.c32 PS.c33 PS.c34 PS.c35 PS.c36
attribute [local go_sem] PS.s0 PS.s1 PS.s2 PS.s3 PS.s7 PS.s31 PS.s32 PS.s33 PS.s34 PS.s35 PS.s36
attribute [local go_sem] setCell_drewN

def PS.at (s : PS) (k : Int) : PS := { s with st := k }
def PS.refuses (s : PS) : Bool := s.st == 6 || s.dis || !s.endOk
def PS.seqByte (s : PS) (c : Int) : PS :=
  if 64 ≤ c then (if s.refuses then s.at 0 else { (s.at 0).filed with fin := c })
  else if c < 48 then (if s.st = 6 then s else (s.collect c).at 5)
  else if s.st = 5 ∨ s.st = 6 then s.at 6
  else if 60 ≤ c then (if s.st = 3 then (s.collect c).at 4 else s.at 6)
  else (s.at 4).paramByte c
def PS.seqKind (s : PS) (c : Int) : Int := if c < 64 ∨ s.refuses = true then 0 else 4

set_option maxHeartbeats 400000 in
theorem seq_A1 (s : PS) (c : Int) (w : World) (hc : 64 ≤ c) (h6 : s.st = 6) :
    Calls Try.prog 25 #[.pointer (some ⟨w.heap.size, 0, none⟩), .int .u8 c] (w.alloc (.cells s.cells 49)) fun e w' => e = .returned (.int .u8 (s.seqKind c)) ∧ ∃ n, w' = (w.alloc (.cells (s.seqByte c).cells 49)).drewN n := by
  have hr : s.refuses = true := by simp [PS.refuses, h6]
  rw [PS.seqByte, if_pos hc, if_pos hr, PS.seqKind, if_pos (Or.inr hr)]
  clear hr
  rcases s with ⟨st, dis, frn, fin, inter, nin, params, np, col, pb, cur, inc, ovf⟩
  simp only at h6
  subst h6
  go_enter Try.func25, Try.ntmps25
  go_wp2_with fail
  go_returns
  exact ⟨rfl, 0, rfl⟩
set_option maxHeartbeats 400000 in
theorem seq_A2 (s : PS) (c : Int) (w : World) (hc : 64 ≤ c) (h6 : (s.st == 6) = false) (hd : s.dis = true) :
    Calls Try.prog 25 #[.pointer (some ⟨w.heap.size, 0, none⟩), .int .u8 c] (w.alloc (.cells s.cells 49)) fun e w' => e = .returned (.int .u8 (s.seqKind c)) ∧ ∃ n, w' = (w.alloc (.cells (s.seqByte c).cells 49)).drewN n := by
  have hr : s.refuses = true := by simp [PS.refuses, hd]
  rw [PS.seqByte, if_pos hc, if_pos hr, PS.seqKind, if_pos (Or.inr hr)]
  clear hr
  rcases s with ⟨st, dis, frn, fin, inter, nin, params, np, col, pb, cur, inc, ovf⟩
  simp only at hd h6
  subst hd
  go_enter Try.func25, Try.ntmps25
  go_wp2_with fail
  go_returns
  exact ⟨rfl, 0, rfl⟩
set_option maxHeartbeats 400000 in
theorem seq_A3 (s : PS) (c : Int) (w : World) (hc : 64 ≤ c) (h6 : (s.st == 6) = false) (hd : s.dis = false) (hk : s.endOk = false) :
    Calls Try.prog 25 #[.pointer (some ⟨w.heap.size, 0, none⟩), .int .u8 c] (w.alloc (.cells s.cells 49)) fun e w' => e = .returned (.int .u8 (s.seqKind c)) ∧ ∃ n, w' = (w.alloc (.cells (s.seqByte c).cells 49)).drewN n := by
  have hr : s.refuses = true := by simp [PS.refuses, hk]
  rw [PS.seqByte, if_pos hc, if_pos hr, PS.seqKind, if_pos (Or.inr hr)]
  clear hr
  have hk' : (s.at 0).endOk = false := hk
  clear hk
  rcases s with ⟨st, dis, frn, fin, inter, nin, params, np, col, pb, cur, inc, ovf⟩
  simp only at hd h6
  subst hd
  have H := fun w => endParam_not _ w hk'
  clear hk'
  go_enter Try.func25, Try.ntmps25
  go_wp2_with (first | (go_at_call 28; refine (H _).mono ?_; rintro e w' ⟨rfl, n, rfl⟩))
  go_returns
  exact ⟨rfl, n, rfl⟩
set_option maxHeartbeats 400000 in
theorem seq_A4 (s : PS) (c : Int) (w : World) (hc : 64 ≤ c) (h6 : (s.st == 6) = false) (hd : s.dis = false) (hk : s.endOk = true) (n1 : 0 ≤ s.np) (n2 : s.np ≤ 23) :
    Calls Try.prog 25 #[.pointer (some ⟨w.heap.size, 0, none⟩), .int .u8 c] (w.alloc (.cells s.cells 49)) fun e w' => e = .returned (.int .u8 (s.seqKind c)) ∧ ∃ n, w' = (w.alloc (.cells (s.seqByte c).cells 49)).drewN n := by
  have hr : s.refuses = false := by simp only [beq_eq_false_iff_ne, ne_eq] at h6; simp [PS.refuses, hk, hd, h6]
  rw [PS.seqByte, if_pos hc, PS.seqKind, hr, if_neg (by simp; omega), if_neg (by simp)]
  clear hr
  have hk' : (s.at 0).endOk = true := hk
  clear hk
  rcases s with ⟨st, dis, frn, fin, inter, nin, params, np, col, pb, cur, inc, ovf⟩
  simp only at hd h6 n1 n2
  subst hd
  have H := fun w => endParam_ok _ w n1 n2 hk'
  clear hk' n1 n2
  go_enter Try.func25, Try.ntmps25
  go_wp2_with (first | (go_at_call 28; refine (H _).mono ?_; rintro e w' ⟨rfl, n, rfl⟩))
  go_returns
  exact ⟨rfl, n, rfl⟩
set_option maxHeartbeats 400000 in
theorem seq_B1 (s : PS) (c : Int) (w : World) (hc : c < 48) (h6 : s.st = 6) :
    Calls Try.prog 25 #[.pointer (some ⟨w.heap.size, 0, none⟩), .int .u8 c] (w.alloc (.cells s.cells 49)) fun e w' => e = .returned (.int .u8 (s.seqKind c)) ∧ ∃ n, w' = (w.alloc (.cells (s.seqByte c).cells 49)).drewN n := by
  rw [PS.seqByte, if_neg (by omega), if_pos hc, if_pos h6, PS.seqKind, if_pos (Or.inl (by omega))]
  rcases s with ⟨st, dis, frn, fin, inter, nin, params, np, col, pb, cur, inc, ovf⟩
  simp only at h6
  subst h6
  go_enter Try.func25, Try.ntmps25
  go_wp2_with fail
  go_returns
  exact ⟨rfl, 0, rfl⟩
set_option maxHeartbeats 400000 in
theorem seq_B2 (s : PS) (c : Int) (w : World) (hc : c < 48) (h6 : ¬ s.st = 6) (n1 : 0 ≤ s.nin) (n2 : s.nin ≤ 3) :
    Calls Try.prog 25 #[.pointer (some ⟨w.heap.size, 0, none⟩), .int .u8 c] (w.alloc (.cells s.cells 49)) fun e w' => e = .returned (.int .u8 (s.seqKind c)) ∧ ∃ n, w' = (w.alloc (.cells (s.seqByte c).cells 49)).drewN n := by
  rw [PS.seqByte, if_neg (by omega), if_pos hc, if_neg h6, PS.seqKind, if_pos (Or.inl (by omega))]
  have h6' : (s.st == 6) = false := by simpa using h6
  have h6n : (s.st != 6) = true := by simpa using h6
  clear h6
  go_enter Try.func25, Try.ntmps25
  go_wp2_with (first | (go_at_call 27; refine (collect_any s c _ n1 n2).mono ?_; rintro e w' ⟨rfl, n, rfl⟩))
  go_returns
  exact ⟨rfl, n, rfl⟩
set_option maxHeartbeats 400000 in
theorem seq_C (s : PS) (c : Int) (w : World) (hc : 48 ≤ c) (hc2 : c < 64) (h6 : s.st = 5 ∨ s.st = 6) :
    Calls Try.prog 25 #[.pointer (some ⟨w.heap.size, 0, none⟩), .int .u8 c] (w.alloc (.cells s.cells 49)) fun e w' => e = .returned (.int .u8 (s.seqKind c)) ∧ ∃ n, w' = (w.alloc (.cells (s.seqByte c).cells 49)).drewN n := by
  rw [PS.seqByte, if_neg (by omega), if_neg (by omega), if_pos h6, PS.seqKind, if_pos (Or.inl (by omega))]
  rcases s with ⟨st, dis, frn, fin, inter, nin, params, np, col, pb, cur, inc, ovf⟩
  simp only at h6
  rcases h6 with h6 | h6
  all_goals
    subst h6
    go_enter Try.func25, Try.ntmps25
    go_wp2_with fail
    go_returns
    exact ⟨rfl, 0, rfl⟩
set_option maxHeartbeats 400000 in
theorem seq_D1 (s : PS) (c : Int) (w : World) (hc : 60 ≤ c) (hc2 : c < 64) (h3 : s.st = 3) (n1 : 0 ≤ s.nin) (n2 : s.nin ≤ 3) :
    Calls Try.prog 25 #[.pointer (some ⟨w.heap.size, 0, none⟩), .int .u8 c] (w.alloc (.cells s.cells 49)) fun e w' => e = .returned (.int .u8 (s.seqKind c)) ∧ ∃ n, w' = (w.alloc (.cells (s.seqByte c).cells 49)).drewN n := by
  rw [PS.seqByte, if_neg (by omega), if_neg (by omega), if_neg (by omega), if_pos hc, if_pos h3, PS.seqKind, if_pos (Or.inl (by omega))]
  have H := fun w => collect_any s c w n1 n2
  rcases s with ⟨st, dis, frn, fin, inter, nin, params, np, col, pb, cur, inc, ovf⟩
  simp only at h3
  subst h3
  go_enter Try.func25, Try.ntmps25
  go_wp2_with (first | (go_at_call 27; refine (H _).mono ?_; rintro e w' ⟨rfl, n, rfl⟩))
  go_returns
  exact ⟨rfl, n, rfl⟩
set_option maxHeartbeats 400000 in
theorem seq_D2 (s : PS) (c : Int) (w : World) (hc : 60 ≤ c) (hc2 : c < 64) (h3 : ¬ s.st = 3) (h5 : ¬ s.st = 5) (h6 : ¬ s.st = 6) :
    Calls Try.prog 25 #[.pointer (some ⟨w.heap.size, 0, none⟩), .int .u8 c] (w.alloc (.cells s.cells 49)) fun e w' => e = .returned (.int .u8 (s.seqKind c)) ∧ ∃ n, w' = (w.alloc (.cells (s.seqByte c).cells 49)).drewN n := by
  rw [PS.seqByte, if_neg (by omega), if_neg (by omega), if_neg (by omega), if_pos hc, if_neg h3, PS.seqKind, if_pos (Or.inl (by omega))]
  have h3' : (s.st == 3) = false := by simpa using h3
  have h5' : (s.st == 5) = false := by simpa using h5
  have h6' : (s.st == 6) = false := by simpa using h6
  clear h3 h5 h6
  go_enter Try.func25, Try.ntmps25
  go_wp2_with fail
  go_returns
  exact ⟨rfl, 0, rfl⟩
set_option maxHeartbeats 400000 in
theorem seq_E (s : PS) (c : Int) (w : World) (hc : 48 ≤ c) (hc2 : c < 60) (h5 : ¬ s.st = 5) (h6 : ¬ s.st = 6) (b1 : 0 ≤ s.pb) (b2 : s.pb ≤ 255) (n1 : 0 ≤ s.np) (n2 : s.np ≤ 23) :
    Calls Try.prog 25 #[.pointer (some ⟨w.heap.size, 0, none⟩), .int .u8 c] (w.alloc (.cells s.cells 49)) fun e w' => e = .returned (.int .u8 (s.seqKind c)) ∧ ∃ n, w' = (w.alloc (.cells (s.seqByte c).cells 49)).drewN n := by
  rw [PS.seqByte, if_neg (by omega), if_neg (by omega), if_neg (by omega), if_neg (by omega), PS.seqKind, if_pos (Or.inl (by omega))]
  have h5' : (s.st == 5) = false := by simpa using h5
  have h6' : (s.st == 6) = false := by simpa using h6
  clear h5 h6
  have H := fun w => paramByte_any (s.at 4) c w hc (by omega) b1 b2 n1 n2
  go_enter Try.func25, Try.ntmps25
  go_wp2_with (first | (go_at_call 26; refine (H _).mono ?_; rintro e w' ⟨rfl, n, rfl⟩))
  go_returns
  exact ⟨rfl, n, rfl⟩
theorem sequenceByte_any (s : PS) (c : Int) (w : World) (i1 : 0 ≤ s.nin) (i2 : s.nin ≤ 3) (b1 : 0 ≤ s.pb) (b2 : s.pb ≤ 255) (n1 : 0 ≤ s.np) (n2 : s.np ≤ 23) :
    Calls Try.prog 25 #[.pointer (some ⟨w.heap.size, 0, none⟩), .int .u8 c] (w.alloc (.cells s.cells 49)) fun e w' => e = .returned (.int .u8 (s.seqKind c)) ∧ ∃ n, w' = (w.alloc (.cells (s.seqByte c).cells 49)).drewN n := by
  by_cases hc : 64 ≤ c
  · by_cases h6 : s.st = 6
    · exact seq_A1 s c w hc h6
    · have h6' : (s.st == 6) = false := by simpa using h6
      by_cases hd : s.dis = true
      · exact seq_A2 s c w hc h6' hd
      · have hd' : s.dis = false := by simpa using hd
        by_cases hk : s.endOk = true
        · exact seq_A4 s c w hc h6' hd' hk n1 n2
        · exact seq_A3 s c w hc h6' hd' (by simpa using hk)
  · by_cases hl : c < 48
    · by_cases h6 : s.st = 6
      · exact seq_B1 s c w hl h6
      · exact seq_B2 s c w hl h6 i1 i2
    · by_cases h56 : s.st = 5 ∨ s.st = 6
      · exact seq_C s c w (by omega) (by omega) h56
      · by_cases h60 : 60 ≤ c
        · by_cases h3 : s.st = 3
          · exact seq_D1 s c w h60 (by omega) h3 i1 i2
          · exact seq_D2 s c w h60 (by omega) h3 (by omega) (by omega)
        · exact seq_E s c w (by omega) (by omega) (by omega) (by omega) b1 b2 n1 n2

set_option maxHeartbeats 400000 in
theorem ZZSequenceByte_any (s : PS) (c : Int) (w : World) (i1 : 0 ≤ s.nin) (i2 : s.nin ≤ 3) (b1 : 0 ≤ s.pb) (b2 : s.pb ≤ 255) (n1 : 0 ≤ s.np) (n2 : s.np ≤ 23) :
    Calls Try.prog 16 #[.agg s.cells, .int .u8 c] w fun e w' => e = .returned (.tuple #[.agg (s.seqByte c).cells, .int .u8 (s.seqKind c)]) ∧ Below w.heap.size w w' := by
  go_enter Try.func16, Try.ntmps16
  have h0 : ∀ O, ((w.alloc (.cells s.cells 29)).alloc O).heap[w.heap.size]? = some (.cells s.cells 29) := fun O => heap_alloc2_old w _ O
  go_wp2_with (first
    | ((with_reducible refine wl_load 29 isRow29 size29 rfl _ rfl _ ?hx s 29 (h0 _) ?_); (case hx => rfl))
    | (go_at_call 22; refine (zzToParser_any s _).mono ?_; rintro e w1 ⟨rfl, hb1⟩)
    | ((with_reducible refine wl_store 49 size49 rfl _ _ rfl ?g ?hx s ?hy ?c ?W ?hW ?hw ?hc ?_); (case hx => rfl); (case hy => rfl); (case hW => rfl); (case hw => simp); (case hc => simp)))
  obtain ⟨z, hz, hzs⟩ : ∃ z : Array Value, w1.heap[w.heap.size + 1]? = some (.cells z 29) ∧ z.size = 37 :=
    ⟨_, (hb1.block (w.heap.size + 1) (by simp)).trans (heap_alloc2_new w _ _), by simp⟩
  have hsz : w.heap.size + 2 ≤ w1.heap.size := by have := hb1.size; simpa using this
  have hbw : Below w.heap.size w w1 := (((Below.refl _ _).alloc (Nat.le_refl _) _).alloc (by simp) _).trans (hb1.mono (by simp; omega))
  clear hb1 h0
  have hg2 : ∀ n, ((w1.alloc (.cells (s.seqByte c).cells 49)).drewN n).heap[w1.heap.size]? = some (.cells (s.seqByte c).cells 49) := fun n => heap_alloc_last w1 _
  have hg3 : ∀ n w3, Below ((w1.alloc (.cells (s.seqByte c).cells 49)).drewN n).heap.size ((w1.alloc (.cells (s.seqByte c).cells 49)).drewN n) w3 →
      w3.heap[w.heap.size + 1]? = some (.cells z 29) ∧ Below w.heap.size w w3 := fun n w3 hb3 =>
    ⟨(hb3.block (w.heap.size + 1) (by simp; omega)).trans ((Below.heap_alloc w1 _ (w.heap.size + 1) (by omega)).trans hz),
     (hbw.alloc (by omega) _).trans ((below_drewN (Below.refl _ _) n).trans (hb3.mono (by simp; omega)))⟩
  go_wp2_with (first
    | (go_at_call 25; refine (sequenceByte_any s c w1 i1 i2 b1 b2 n1 n2).mono ?_; rintro e w2 ⟨rfl, n, rfl⟩)
    | (go_at_call 24; refine (zzFromParser_any (s.seqByte c) _ w1.heap.size (hg2 _)).mono ?_; rintro e w3 ⟨rfl, hb3⟩; obtain ⟨hz3, hbw3⟩ := hg3 n w3 hb3)
    | ((with_reducible refine wl_store_at 29 size29 rfl _ _ rfl _ ?hx (s.seqByte c) ?hy z 29 hz3 hzs ?_); (case hx => rfl); (case hy => rfl)))
  refine bodyPost_ret (v := .tuple #[.agg (s.seqByte c).cells, .int .u8 (s.seqKind c)]) ?_ rfl ⟨rfl, below_setRow hbw3 (by omega)⟩
  exact results_row_tmp Try.results16 _ _ (w.heap.size + 1) 29 (s.seqByte c) _ rfl rfl (setRow_heap w3 (w.heap.size + 1) z _ 29 _ hz3) isRow29 size29

set_option maxHeartbeats 400000 in
theorem ZZParamByte_any (s : PS) (c : Int) (w : World) (c1 : 48 ≤ c) (c2 : c ≤ 59) (b1 : 0 ≤ s.pb) (b2 : s.pb ≤ 255) (n1 : 0 ≤ s.np) (n2 : s.np ≤ 23) :
    Calls Try.prog 20 #[.agg s.cells, .int .u8 c] w fun e w' => e = .returned (.agg (s.paramByte c).cells) ∧ Below w.heap.size w w' := by
  go_enter Try.func20, Try.ntmps20
  have h0 : ∀ O, ((w.alloc (.cells s.cells 29)).alloc O).heap[w.heap.size]? = some (.cells s.cells 29) := fun O => heap_alloc2_old w _ O
  go_wp2_with (first
    | ((with_reducible refine wl_load 29 isRow29 size29 rfl _ rfl _ ?hx s 29 (h0 _) ?_); (case hx => rfl))
    | (go_at_call 22; refine (zzToParser_any s _).mono ?_; rintro e w1 ⟨rfl, hb1⟩)
    | ((with_reducible refine wl_store 49 size49 rfl _ _ rfl ?g ?hx s ?hy ?c ?W ?hW ?hw ?hc ?_); (case hx => rfl); (case hy => rfl); (case hW => rfl); (case hw => simp); (case hc => simp)))
  obtain ⟨z, hz, hzs⟩ : ∃ z : Array Value, w1.heap[w.heap.size + 1]? = some (.cells z 29) ∧ z.size = 37 :=
    ⟨_, (hb1.block (w.heap.size + 1) (by simp)).trans (heap_alloc2_new w _ _), by simp⟩
  have hsz : w.heap.size + 2 ≤ w1.heap.size := by have := hb1.size; simpa using this
  have hbw : Below w.heap.size w w1 := (((Below.refl _ _).alloc (Nat.le_refl _) _).alloc (by simp) _).trans (hb1.mono (by simp; omega))
  clear hb1 h0
  have hg2 : ∀ n, ((w1.alloc (.cells (s.paramByte c).cells 49)).drewN n).heap[w1.heap.size]? = some (.cells (s.paramByte c).cells 49) := fun n => heap_alloc_last w1 _
  have hg3 : ∀ n w3, Below ((w1.alloc (.cells (s.paramByte c).cells 49)).drewN n).heap.size ((w1.alloc (.cells (s.paramByte c).cells 49)).drewN n) w3 →
      w3.heap[w.heap.size + 1]? = some (.cells z 29) ∧ Below w.heap.size w w3 := fun n w3 hb3 =>
    ⟨(hb3.block (w.heap.size + 1) (by simp; omega)).trans ((Below.heap_alloc w1 _ (w.heap.size + 1) (by omega)).trans hz),
     (hbw.alloc (by omega) _).trans ((below_drewN (Below.refl _ _) n).trans (hb3.mono (by simp; omega)))⟩
  go_wp2_with (first
    | (go_at_call 26; refine (paramByte_any s c w1 c1 c2 b1 b2 n1 n2).mono ?_; rintro e w2 ⟨rfl, n, rfl⟩)
    | (go_at_call 24; refine (zzFromParser_any (s.paramByte c) _ w1.heap.size (hg2 _)).mono ?_; rintro e w3 ⟨rfl, hb3⟩; obtain ⟨hz3, hbw3⟩ := hg3 n w3 hb3)
    | ((with_reducible refine wl_store_at 29 size29 rfl _ _ rfl _ ?hx (s.paramByte c) ?hy z 29 hz3 hzs ?_); (case hx => rfl); (case hy => rfl)))
  refine bodyPost_ret (v := .agg (s.paramByte c).cells) ?_ rfl ⟨rfl, below_setRow hbw3 (by omega)⟩
  exact results_cell_row Try.results20 _ _ _ 29 (s.paramByte c).cells (0, 0) _ rfl (setRow_heap w3 (w.heap.size + 1) z _ 29 _ hz3) Try.underlying29 rfl (by rw [size29, PS.cells_size])
end Go.Proofs.Qxb6603776a
