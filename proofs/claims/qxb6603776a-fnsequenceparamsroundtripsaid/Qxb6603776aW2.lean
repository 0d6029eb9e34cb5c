import Derived.Test.Qxb6603776aLaws
import Derived.Deep.Draws
import Derived.RegionTactic
import Derived.Handy
namespace Go.Proofs.Qxb6603776a
open Go.RowKit
attribute [local go_sem] PS.c0 PS.c1 PS.c2 PS.c3 PS.c7 PS.c31 PS.c32 PS.c33 PS.c34 PS.c35 PS.c36
attribute [local go_sem] PS.s0 PS.s1 PS.s2 PS.s3 PS.s7 PS.s31 PS.s32 PS.s33 PS.s34 PS.s35 PS.s36

def PS.collect (s : PS) (c : Int) : PS :=
  if s.nin = 3 then { s with dis := true } else { s with inter := s.inter.setIfInBounds s.nin.toNat c, nin := s.nin + 1 }

set_option maxHeartbeats 400000 in
theorem collect_full (s : PS) (c : Int) (w : World) (h : s.nin = 3) :
    Calls Try.prog 27 #[.pointer (some ⟨w.heap.size, 0, none⟩), .int .u8 c] (w.alloc (.cells s.cells 49)) fun e w' => e = .returned (.tuple #[]) ∧ ∃ n, w' = (w.alloc (.cells (s.collect c).cells 49)).drewN n := by
  have e : s.collect c = { s with dis := true } := by simp [PS.collect, h]
  rw [e]
  have ha : 3 ≤ s.nin := by omega
  have hb : s.nin ≤ 3 := by omega
  clear h e
  go_enter Try.func27, Try.ntmps27
  go_wp2
  go_returns
  exact ⟨rfl, 0, rfl⟩
set_option maxHeartbeats 400000 in
theorem collect_room (s : PS) (c : Int) (w : World) (h0 : 0 ≤ s.nin) (h : s.nin < 3) :
    Calls Try.prog 27 #[.pointer (some ⟨w.heap.size, 0, none⟩), .int .u8 c] (w.alloc (.cells s.cells 49)) fun e w' => e = .returned (.tuple #[]) ∧ ∃ n, w' = (w.alloc (.cells (s.collect c).cells 49)).drewN n := by
  have e : s.collect c = { s with inter := s.inter.setIfInBounds s.nin.toNat c, nin := s.nin + 1 } := by
    rw [PS.collect, if_neg (by omega)]
  rw [e]
  have hI := PS.sI s s.nin.toNat (by omega) c
  have hC := PS.cI s s.nin.toNat (by omega)
  go_enter Try.func27, Try.ntmps27
  go_wp2
  go_region
  all_goals
    go_wp2
    go_returns
    exact ⟨rfl, 1, rfl⟩

def PS.endOk (s : PS) : Bool := !((s.ovf && !s.inc) || s.np == 23)
def PS.filed (s : PS) : PS :=
  { s with params := s.params.setIfInBounds s.np.toNat (wrap32 s.cur), col := if s.inc then bits .or .u32 s.col (2 ^ s.np.toNat % 4294967296) else s.col, np := s.np + 1, cur := -1, inc := false, ovf := false }

set_option maxHeartbeats 400000 in
theorem endParam_not (s : PS) (w : World) (h : s.endOk = false) :
    Calls Try.prog 28 #[.pointer (some ⟨w.heap.size, 0, none⟩)] (w.alloc (.cells s.cells 49)) fun e w' => e = .returned (.bool false) ∧ ∃ n, w' = (w.alloc (.cells s.cells 49)).drewN n := by
  rcases s with ⟨st, dis, frn, fin, inter, nin, params, np, col, pb, cur, inc, ovf⟩
  cases ovf
  · have hn : np = 23 := by simpa [PS.endOk] using h
    subst hn
    clear h
    go_enter Try.func28, Try.ntmps28
    go_wp2
    go_returns
    exact ⟨rfl, 0, rfl⟩
  · cases inc
    · clear h
      go_enter Try.func28, Try.ntmps28
      go_wp2
      go_returns
      exact ⟨rfl, 0, rfl⟩
    · have hn : np = 23 := by simpa [PS.endOk] using h
      subst hn
      clear h
      go_enter Try.func28, Try.ntmps28
      go_wp2
      go_returns
      exact ⟨rfl, 0, rfl⟩
set_option maxHeartbeats 1000000 in
theorem endParam_ok (s : PS) (w : World) (h0 : 0 ≤ s.np) (h1 : s.np ≤ 23) (h : s.endOk = true) :
    Calls Try.prog 28 #[.pointer (some ⟨w.heap.size, 0, none⟩)] (w.alloc (.cells s.cells 49)) fun e w' => e = .returned (.bool true) ∧ ∃ n, w' = (w.alloc (.cells s.filed.cells 49)).drewN n := by
  have hn : ¬ s.np = 23 := by intro e; simp [PS.endOk, e] at h
  have hlt : s.np < 23 := by omega
  have hP := fun x => PS.sP s s.np.toNat (by omega) x
  obtain ⟨v, hC⟩ : ∃ v, s.cells[8 + s.np.toNat]? = some v := ⟨_, PS.cP s s.np.toNat (by omega)⟩
  clear hn h1
  rcases s with ⟨st, dis, frn, fin, inter, nin, params, np, col, pb, cur, inc, ovf⟩
  simp only at hP hC hlt h0
  cases inc
  · cases ovf
    · clear h
      go_enter Try.func28, Try.ntmps28
      go_wp2
      go_region
      all_goals
        go_wp2
        go_returns
        exact ⟨rfl, 1, rfl⟩
    · simp [PS.endOk] at h
  · cases ovf
    all_goals
      clear h
      go_enter Try.func28, Try.ntmps28
      go_wp2
      go_region
      all_goals
        go_wp2
        go_region
        all_goals
          go_wp2
          go_returns
          exact ⟨rfl, 2, rfl⟩

theorem collect_any (s : PS) (c : Int) (w : World) (h0 : 0 ≤ s.nin) (h : s.nin ≤ 3) :
    Calls Try.prog 27 #[.pointer (some ⟨w.heap.size, 0, none⟩), .int .u8 c] (w.alloc (.cells s.cells 49)) fun e w' => e = .returned (.tuple #[]) ∧ ∃ n, w' = (w.alloc (.cells (s.collect c).cells 49)).drewN n := by
  by_cases h3 : s.nin = 3
  · exact collect_full s c w h3
  · exact collect_room s c w h0 (by omega)
end Go.Proofs.Qxb6603776a
