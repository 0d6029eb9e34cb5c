import Derived.Test.Qxb6603776aW2
namespace Go.Proofs.Qxb6603776a
open Go.RowKit
set_option linter.unusedVariables false
set_option linter.unusedSimpArgs false
attribute [local go_sem] PS.c0 PS.c1 PS.c2 PS.c3 PS.c7 PS.c31 PS.c32 PS.c33 PS.c34 PS.c35 PS.c36
attribute [local go_sem] PS.s0 PS.s1 PS.s2 PS.s3 PS.s7 PS.s31 PS.s32 PS.s33 PS.s34 PS.s35 PS.s36

theorem setCell_drewN (w : World) (n : Nat) (a : Addr) (v : Value) : (w.drewN n).setCell a v = (w.setCell a v).drewN n := rfl
attribute [local go_sem] setCell_drewN

/-! ### paramByte -/
def nextCur (cur c : Int) : Int := wrap64 (wrap64 ((if cur < 0 then 0 else cur) * 10) + (c - 48))
def PS.bump (s : PS) : PS := { s with pb := (s.pb + 1) % 256 }
def PS.paramByte (s : PS) (c : Int) : PS :=
  if s.pb = 63 then { s with dis := true }
  else if c = 59 then (if s.bump.endOk then s.bump.filed else { s.bump with dis := true })
  else if c = 58 then { s.bump with inc := true }
  else if s.inc then s.bump
  else if 2147483647 < nextCur s.cur c then { s.bump with ovf := true, cur := 2147483647 } else { s.bump with cur := nextCur s.cur c }

set_option maxHeartbeats 400000 in
theorem pb_full (s : PS) (c : Int) (w : World) (hp : s.pb = 63) :
    Calls Try.prog 26 #[.pointer (some ⟨w.heap.size, 0, none⟩), .int .u8 c] (w.alloc (.cells s.cells 49)) fun e w' => e = .returned (.tuple #[]) ∧ ∃ n, w' = (w.alloc (.cells (s.paramByte c).cells 49)).drewN n := by
  rw [PS.paramByte, if_pos hp]
  rcases s with ⟨st, dis, frn, fin, inter, nin, params, np, col, pb, cur, inc, ovf⟩
  simp only at hp
  subst hp
  go_enter Try.func26, Try.ntmps26
  go_wp2
  go_returns
  exact ⟨rfl, 0, rfl⟩
set_option maxHeartbeats 400000 in
theorem pb_semi (s : PS) (w : World) (hp : (s.pb == 63) = false) (b1 : 0 ≤ s.pb) (b2 : s.pb ≤ 255) (n1 : 0 ≤ s.np) (n2 : s.np ≤ 23) :
    Calls Try.prog 26 #[.pointer (some ⟨w.heap.size, 0, none⟩), .int .u8 59] (w.alloc (.cells s.cells 49)) fun e w' => e = .returned (.tuple #[]) ∧ ∃ n, w' = (w.alloc (.cells (s.paramByte 59).cells 49)).drewN n := by
  rw [PS.paramByte, if_neg (by simpa using hp), if_pos rfl]
  by_cases hk : s.bump.endOk = true
  · rw [if_pos hk]
    go_enter Try.func26, Try.ntmps26
    go_wp2_with (first | (go_at_call 28; refine (endParam_ok s.bump _ n1 n2 hk).mono ?_; rintro e w' ⟨rfl, n, rfl⟩))
    go_returns
    exact ⟨rfl, n, rfl⟩
  · have hk : s.bump.endOk = false := by simpa using hk
    rw [if_neg (by simp [hk])]
    go_enter Try.func26, Try.ntmps26
    go_wp2_with (first | (go_at_call 28; refine (endParam_not s.bump _ hk).mono ?_; rintro e w' ⟨rfl, n, rfl⟩))
    go_returns
    exact ⟨rfl, n, rfl⟩
set_option maxHeartbeats 400000 in
theorem pb_colon (s : PS) (w : World) (hp : (s.pb == 63) = false) (b1 : 0 ≤ s.pb) (b2 : s.pb ≤ 255) :
    Calls Try.prog 26 #[.pointer (some ⟨w.heap.size, 0, none⟩), .int .u8 58] (w.alloc (.cells s.cells 49)) fun e w' => e = .returned (.tuple #[]) ∧ ∃ n, w' = (w.alloc (.cells (s.paramByte 58).cells 49)).drewN n := by
  rw [PS.paramByte, if_neg (by simpa using hp), if_neg (by decide), if_pos rfl]
  go_enter Try.func26, Try.ntmps26
  go_wp2
  go_returns
  exact ⟨rfl, 0, rfl⟩
set_option maxHeartbeats 400000 in
theorem pb_digit (s : PS) (c : Int) (w : World) (hp : (s.pb == 63) = false) (c1 : 48 ≤ c) (c2 : c ≤ 57) (b1 : 0 ≤ s.pb) (b2 : s.pb ≤ 255) :
    Calls Try.prog 26 #[.pointer (some ⟨w.heap.size, 0, none⟩), .int .u8 c] (w.alloc (.cells s.cells 49)) fun e w' => e = .returned (.tuple #[]) ∧ ∃ n, w' = (w.alloc (.cells (s.paramByte c).cells 49)).drewN n := by
  rw [PS.paramByte, if_neg (by simpa using hp), if_neg (by omega), if_neg (by omega)]
  rcases s with ⟨st, dis, frn, fin, inter, nin, params, np, col, pb, cur, inc, ovf⟩
  simp only at hp b1 b2
  cases inc
  · rw [if_neg (by simp)]
    simp only
    have q1 : (c == 59) = false := by simp; omega
    have q2 : (c == 58) = false := by simp; omega
    by_cases hneg : cur < 0
    · have e : nextCur cur c = c - 48 := by rw [nextCur, if_pos hneg]; go_arith
      rw [e, if_neg (by omega)]
      clear e
      go_enter Try.func26, Try.ntmps26
      go_wp2
      go_returns
      exact ⟨rfl, 0, rfl⟩
    · have e : nextCur cur c = wrap64 (wrap64 (cur * 10) + (c - 48)) := by rw [nextCur, if_neg hneg]
      rw [e]
      clear e
      by_cases hb : 2147483647 < wrap64 (wrap64 (cur * 10) + (c - 48))
      · rw [if_pos hb]
        go_enter Try.func26, Try.ntmps26
        go_wp2
        go_returns
        exact ⟨rfl, 0, rfl⟩
      · rw [if_neg hb]
        go_enter Try.func26, Try.ntmps26
        go_wp2
        go_returns
        exact ⟨rfl, 0, rfl⟩
  · rw [if_pos rfl]
    go_enter Try.func26, Try.ntmps26
    go_wp2
    go_returns
    exact ⟨rfl, 0, rfl⟩
theorem paramByte_any (s : PS) (c : Int) (w : World) (c1 : 48 ≤ c) (c2 : c ≤ 59) (b1 : 0 ≤ s.pb) (b2 : s.pb ≤ 255) (n1 : 0 ≤ s.np) (n2 : s.np ≤ 23) :
    Calls Try.prog 26 #[.pointer (some ⟨w.heap.size, 0, none⟩), .int .u8 c] (w.alloc (.cells s.cells 49)) fun e w' => e = .returned (.tuple #[]) ∧ ∃ n, w' = (w.alloc (.cells (s.paramByte c).cells 49)).drewN n := by
  by_cases hp : s.pb = 63
  · exact pb_full s c w hp
  · have hp' : (s.pb == 63) = false := by simpa using hp
    by_cases h9 : c = 59
    · subst h9; exact pb_semi s w hp' b1 b2 n1 n2
    · by_cases h8 : c = 58
      · subst h8; exact pb_colon s w hp' b1 b2
      · exact pb_digit s c w hp' c1 (by omega) b1 b2

/-! ### escapeByte -/
def PS.escEnd (s : PS) (c : Int) : PS := if s.dis then { s with st := 0 } else { s with st := 0, fin := c }
def PS.isIntro (s : PS) (c : Int) : Bool := s.st != 2 && (c == 91 || c == 80 || c == 93 || c == 88 || c == 94 || c == 95 || c == 107)
def PS.escByte (s : PS) (c : Int) : PS :=
  if c < 48 then { s.collect c with st := 2 }
  else if s.st = 2 then s.escEnd c
  else if c = 91 then { s with st := 3, np := 0, col := 0, pb := 0, cur := -1, inc := false, ovf := false }
  else if c = 80 then { s with st := 7 }
  else if c = 93 then { s with st := 12 }
  else if c = 88 ∨ c = 94 ∨ c = 95 ∨ c = 107 then { s with st := 13 }
  else s.escEnd c
def PS.escKind (s : PS) (c : Int) : Int := if c < 48 ∨ s.isIntro c = true ∨ s.dis = true then 0 else 3

set_option maxHeartbeats 400000 in
theorem esc_lt (s : PS) (c : Int) (w : World) (hc : c < 48) (n1 : 0 ≤ s.nin) (n2 : s.nin ≤ 3) :
    Calls Try.prog 23 #[.pointer (some ⟨w.heap.size, 0, none⟩), .int .u8 c] (w.alloc (.cells s.cells 49)) fun e w' => e = .returned (.int .u8 (s.escKind c)) ∧ ∃ n, w' = (w.alloc (.cells (s.escByte c).cells 49)).drewN n := by
  rw [PS.escByte, if_pos hc, PS.escKind, if_pos (Or.inl hc)]
  go_enter Try.func23, Try.ntmps23
  go_wp2_with (first | (go_at_call 27; refine (collect_any s c _ n1 n2).mono ?_; rintro e w' ⟨rfl, n, rfl⟩))
  go_returns
  exact ⟨rfl, n, rfl⟩
set_option maxHeartbeats 400000 in
theorem esc_two (s : PS) (c : Int) (w : World) (hc : 48 ≤ c) (h2 : s.st = 2) :
    Calls Try.prog 23 #[.pointer (some ⟨w.heap.size, 0, none⟩), .int .u8 c] (w.alloc (.cells s.cells 49)) fun e w' => e = .returned (.int .u8 (s.escKind c)) ∧ ∃ n, w' = (w.alloc (.cells (s.escByte c).cells 49)).drewN n := by
  rw [PS.escByte, if_neg (by omega), if_pos h2, PS.escKind, PS.escEnd]
  have hq : s.isIntro c = false := by simp [PS.isIntro, h2]
  rw [hq]
  rcases s with ⟨st, dis, frn, fin, inter, nin, params, np, col, pb, cur, inc, ovf⟩
  simp only at h2
  subst h2
  clear hq
  cases dis
  · rw [if_neg (by simp; omega), if_neg (by simp)]
    go_enter Try.func23, Try.ntmps23
    go_wp2
    go_returns
    exact ⟨rfl, 0, rfl⟩
  · rw [if_pos (by simp), if_pos (by simp)]
    go_enter Try.func23, Try.ntmps23
    go_wp2
    go_returns
    exact ⟨rfl, 0, rfl⟩
set_option maxHeartbeats 400000 in
theorem esc_rest (s : PS) (c : Int) (w : World) (hc : 48 ≤ c) (h2 : (s.st == 2) = false) (a1 : (c == 91) = false) (a2 : (c == 80) = false) (a3 : (c == 93) = false) (a4 : (c == 88) = false) (a5 : (c == 94) = false) (a6 : (c == 95) = false) (a7 : (c == 107) = false) :
    Calls Try.prog 23 #[.pointer (some ⟨w.heap.size, 0, none⟩), .int .u8 c] (w.alloc (.cells s.cells 49)) fun e w' => e = .returned (.int .u8 (s.escKind c)) ∧ ∃ n, w' = (w.alloc (.cells (s.escByte c).cells 49)).drewN n := by
  have hq : s.isIntro c = false := by simp [PS.isIntro, a1, a2, a3, a4, a5, a6, a7]
  have e : s.escByte c = s.escEnd c := by
    simp only [beq_eq_false_iff_ne, ne_eq] at *
    rw [PS.escByte, if_neg (by omega), if_neg h2, if_neg a1, if_neg a2, if_neg a3, if_neg (by omega)]
  rw [e, PS.escKind, PS.escEnd, hq]
  clear e hq
  rcases s with ⟨st, dis, frn, fin, inter, nin, params, np, col, pb, cur, inc, ovf⟩
  simp only at h2
  cases dis
  · rw [if_neg (by simp; omega), if_neg (by simp)]
    go_enter Try.func23, Try.ntmps23
    go_wp2
    go_returns
    exact ⟨rfl, 0, rfl⟩
  · rw [if_pos (by simp), if_pos (by simp)]
    go_enter Try.func23, Try.ntmps23
    go_wp2
    go_returns
    exact ⟨rfl, 0, rfl⟩
set_option maxHeartbeats 400000 in
theorem esc_91 (s : PS) (w : World) (h2 : (s.st == 2) = false) :
    Calls Try.prog 23 #[.pointer (some ⟨w.heap.size, 0, none⟩), .int .u8 91] (w.alloc (.cells s.cells 49)) fun e w' => e = .returned (.int .u8 (s.escKind 91)) ∧ ∃ n, w' = (w.alloc (.cells (s.escByte 91).cells 49)).drewN n := by
  have hq : s.isIntro 91 = true := by simp only [beq_eq_false_iff_ne, ne_eq] at h2; simp [PS.isIntro, h2]
  have e : s.escByte 91 = { s with st := 3, np := 0, col := 0, pb := 0, cur := -1, inc := false, ovf := false } := by simp only [beq_eq_false_iff_ne, ne_eq] at h2; simp [PS.escByte, h2]
  have k : s.escKind 91 = 0 := by simp [PS.escKind, hq]
  rw [e, k]
  clear e k hq
  go_enter Try.func23, Try.ntmps23
  go_wp2
  go_returns
  exact ⟨rfl, 0, rfl⟩
set_option maxHeartbeats 400000 in
theorem esc_80 (s : PS) (w : World) (h2 : (s.st == 2) = false) :
    Calls Try.prog 23 #[.pointer (some ⟨w.heap.size, 0, none⟩), .int .u8 80] (w.alloc (.cells s.cells 49)) fun e w' => e = .returned (.int .u8 (s.escKind 80)) ∧ ∃ n, w' = (w.alloc (.cells (s.escByte 80).cells 49)).drewN n := by
  have hq : s.isIntro 80 = true := by simp only [beq_eq_false_iff_ne, ne_eq] at h2; simp [PS.isIntro, h2]
  have e : s.escByte 80 = { s with st := 7 } := by simp only [beq_eq_false_iff_ne, ne_eq] at h2; simp [PS.escByte, h2]
  have k : s.escKind 80 = 0 := by simp [PS.escKind, hq]
  rw [e, k]
  clear e k hq
  go_enter Try.func23, Try.ntmps23
  go_wp2
  go_returns
  exact ⟨rfl, 0, rfl⟩
set_option maxHeartbeats 400000 in
theorem esc_93 (s : PS) (w : World) (h2 : (s.st == 2) = false) :
    Calls Try.prog 23 #[.pointer (some ⟨w.heap.size, 0, none⟩), .int .u8 93] (w.alloc (.cells s.cells 49)) fun e w' => e = .returned (.int .u8 (s.escKind 93)) ∧ ∃ n, w' = (w.alloc (.cells (s.escByte 93).cells 49)).drewN n := by
  have hq : s.isIntro 93 = true := by simp only [beq_eq_false_iff_ne, ne_eq] at h2; simp [PS.isIntro, h2]
  have e : s.escByte 93 = { s with st := 12 } := by simp only [beq_eq_false_iff_ne, ne_eq] at h2; simp [PS.escByte, h2]
  have k : s.escKind 93 = 0 := by simp [PS.escKind, hq]
  rw [e, k]
  clear e k hq
  go_enter Try.func23, Try.ntmps23
  go_wp2
  go_returns
  exact ⟨rfl, 0, rfl⟩
set_option maxHeartbeats 400000 in
theorem esc_88 (s : PS) (w : World) (h2 : (s.st == 2) = false) :
    Calls Try.prog 23 #[.pointer (some ⟨w.heap.size, 0, none⟩), .int .u8 88] (w.alloc (.cells s.cells 49)) fun e w' => e = .returned (.int .u8 (s.escKind 88)) ∧ ∃ n, w' = (w.alloc (.cells (s.escByte 88).cells 49)).drewN n := by
  have hq : s.isIntro 88 = true := by simp only [beq_eq_false_iff_ne, ne_eq] at h2; simp [PS.isIntro, h2]
  have e : s.escByte 88 = { s with st := 13 } := by simp only [beq_eq_false_iff_ne, ne_eq] at h2; simp [PS.escByte, h2]
  have k : s.escKind 88 = 0 := by simp [PS.escKind, hq]
  rw [e, k]
  clear e k hq
  go_enter Try.func23, Try.ntmps23
  go_wp2
  go_returns
  exact ⟨rfl, 0, rfl⟩
set_option maxHeartbeats 400000 in
theorem esc_94 (s : PS) (w : World) (h2 : (s.st == 2) = false) :
    Calls Try.prog 23 #[.pointer (some ⟨w.heap.size, 0, none⟩), .int .u8 94] (w.alloc (.cells s.cells 49)) fun e w' => e = .returned (.int .u8 (s.escKind 94)) ∧ ∃ n, w' = (w.alloc (.cells (s.escByte 94).cells 49)).drewN n := by
  have hq : s.isIntro 94 = true := by simp only [beq_eq_false_iff_ne, ne_eq] at h2; simp [PS.isIntro, h2]
  have e : s.escByte 94 = { s with st := 13 } := by simp only [beq_eq_false_iff_ne, ne_eq] at h2; simp [PS.escByte, h2]
  have k : s.escKind 94 = 0 := by simp [PS.escKind, hq]
  rw [e, k]
  clear e k hq
  go_enter Try.func23, Try.ntmps23
  go_wp2
  go_returns
  exact ⟨rfl, 0, rfl⟩
set_option maxHeartbeats 400000 in
theorem esc_95 (s : PS) (w : World) (h2 : (s.st == 2) = false) :
    Calls Try.prog 23 #[.pointer (some ⟨w.heap.size, 0, none⟩), .int .u8 95] (w.alloc (.cells s.cells 49)) fun e w' => e = .returned (.int .u8 (s.escKind 95)) ∧ ∃ n, w' = (w.alloc (.cells (s.escByte 95).cells 49)).drewN n := by
  have hq : s.isIntro 95 = true := by simp only [beq_eq_false_iff_ne, ne_eq] at h2; simp [PS.isIntro, h2]
  have e : s.escByte 95 = { s with st := 13 } := by simp only [beq_eq_false_iff_ne, ne_eq] at h2; simp [PS.escByte, h2]
  have k : s.escKind 95 = 0 := by simp [PS.escKind, hq]
  rw [e, k]
  clear e k hq
  go_enter Try.func23, Try.ntmps23
  go_wp2
  go_returns
  exact ⟨rfl, 0, rfl⟩
set_option maxHeartbeats 400000 in
theorem esc_107 (s : PS) (w : World) (h2 : (s.st == 2) = false) :
    Calls Try.prog 23 #[.pointer (some ⟨w.heap.size, 0, none⟩), .int .u8 107] (w.alloc (.cells s.cells 49)) fun e w' => e = .returned (.int .u8 (s.escKind 107)) ∧ ∃ n, w' = (w.alloc (.cells (s.escByte 107).cells 49)).drewN n := by
  have hq : s.isIntro 107 = true := by simp only [beq_eq_false_iff_ne, ne_eq] at h2; simp [PS.isIntro, h2]
  have e : s.escByte 107 = { s with st := 13 } := by simp only [beq_eq_false_iff_ne, ne_eq] at h2; simp [PS.escByte, h2]
  have k : s.escKind 107 = 0 := by simp [PS.escKind, hq]
  rw [e, k]
  clear e k hq
  go_enter Try.func23, Try.ntmps23
  go_wp2
  go_returns
  exact ⟨rfl, 0, rfl⟩

theorem escapeByte_any (s : PS) (c : Int) (w : World) (n1 : 0 ≤ s.nin) (n2 : s.nin ≤ 3) :
    Calls Try.prog 23 #[.pointer (some ⟨w.heap.size, 0, none⟩), .int .u8 c] (w.alloc (.cells s.cells 49)) fun e w' => e = .returned (.int .u8 (s.escKind c)) ∧ ∃ n, w' = (w.alloc (.cells (s.escByte c).cells 49)).drewN n := by
  by_cases hc : c < 48
  · exact esc_lt s c w hc n1 n2
  · by_cases h2 : s.st = 2
    · exact esc_two s c w (by omega) h2
    · have h2' : (s.st == 2) = false := by simpa using h2
      by_cases a1 : c = 91
      · subst a1; exact esc_91 s w h2'
      by_cases a2 : c = 80
      · subst a2; exact esc_80 s w h2'
      by_cases a3 : c = 93
      · subst a3; exact esc_93 s w h2'
      by_cases a4 : c = 88
      · subst a4; exact esc_88 s w h2'
      by_cases a5 : c = 94
      · subst a5; exact esc_94 s w h2'
      by_cases a6 : c = 95
      · subst a6; exact esc_95 s w h2'
      by_cases a7 : c = 107
      · subst a7; exact esc_107 s w h2'
      exact esc_rest s c w (by omega) h2' (by simpa using a1) (by simpa using a2) (by simpa using a3) (by simpa using a4) (by simpa using a5) (by simpa using a6) (by simpa using a7)
end Go.Proofs.Qxb6603776a
