import Derived.Test.Qxb6602681aAt2
import Derived.StillTailTactics
import Derived.Deep.WholeRow
namespace Go.Proofs.Qxb6602681a
open Go.RowKit
set_option linter.unusedVariables false
set_option linter.unusedSimpArgs false

theorem mixed' : Try.prog.follows .mixedOrders = true := by kernel_rfl
theorem info33z : (Try.prog.info? 33).map (fun i => (i.zero, i.size, i.bytes)) = some (some (.agg #[.int .i64 0, .slice none 0 0]), 2, 32) := by kernel_rfl
theorem make_pairs (n : Nat) (hn : n ≤ 16384) (w : World) :
    (Instr.makeSlice 31 (.int .i64 (n : Int)) (.int .i64 (n : Int))).run Try.prog w = .ok (.slice (some ⟨w.heap.size, 0, none⟩) n n) (w.alloc (.cells (madeCells #[.int .i64 0, .slice none 0 0] (n * 2)) 33)) := by
  obtain ⟨i, hi, hzz⟩ := Option.map_eq_some_iff.1 info33z
  simp only [Prod.mk.injEq] at hzz
  obtain ⟨hz, hs, hb⟩ := hzz
  have hr := run_make (P := Try.prog) w 31 33 i _ Try.underlying31 hi hz .i64 .i64 n n (by omega) (Int.le_refl _) (by rw [hb]; omega) (by omega)
  simp only [Int.toNat_natCast, hs, Value.cells] at hr
  exact hr

/-- What stands at the head of a round: k pairs laid. -/
structure Laid (w : World) (g n k : Nat) (F : Nat → Int) (A : Nat → Option Addr) (L C : Nat → Nat) (wr : World) : Prop where
  bel : Below w.heap.size w wr
  lo : w.heap.size ≤ g
  lt : g < wr.heap.size
  all : wr.there g 0 (n * 2)
  got : ∀ i, i < k → wr.rangeAt g (i * 2) [.int .i64 (F i), .slice (A i) (L i) (C i)]
theorem Laid.start (w : World) (n : Nat) (F : Nat → Int) (A : Nat → Option Addr) (L C : Nat → Nat) : Laid w w.heap.size n 0 F A L C (w.alloc (.cells (madeCells #[.int .i64 0, .slice none 0 0] (n * 2)) 33)) := by
  refine ⟨(Below.refl _ _).alloc (Nat.le_refl _) _, Nat.le_refl _, by simp, fun j hj => ?_, fun i hi => absurd hi (Nat.not_lt_zero _)⟩
  have hc := cell_of_row (w.alloc (.cells (madeCells #[.int .i64 0, .slice none 0 0] (n * 2)) 33)) w.heap.size (0 + j) _ 33 (0, 0) (heap_alloc_last w _)
  rw [hc]
  refine ⟨?_, ?_⟩
  · rw [Array.getElem?_eq_getElem (by rw [size_madeCells]; omega)]
    rfl
  · unfold World.frozen?
    simp only [heap_alloc_last w]
    simp
theorem Laid.put {w wr : World} {g n k : Nat} {F : Nat → Int} {A : Nat → Option Addr} {L C : Nat → Nat} (h : Laid w g n k F A L C wr) (hk : k < n) :
    Laid w g n (k + 1) F A L C (wr.drew.setCells g (k * 2) [.int .i64 (F k), .slice (A k) (L k) (C k)]) := by
  have hth : wr.drew.there g 0 (n * 2) := (World.there_drew _ _ _ _).2 h.all
  have hth2 : wr.drew.there g (k * 2) 2 := fun j hj => by
    have := hth (k * 2 + j) (by omega)
    rwa [Nat.zero_add] at this
  refine ⟨?_, h.lo, ?_, World.there_setCells hth _ _ _, fun i hi => ?_⟩
  · exact ((h.bel.drew).setCell (p := ⟨g, k * 2, none⟩) h.lo _).setCell (p := ⟨g, k * 2 + 1, none⟩) h.lo _
  · have := h.lt
    simpa [World.setCells] using this
  · by_cases e : i = k
    · subst e
      exact World.rangeAt_setCells_same _ _ _ _ hth2
    · exact World.rangeAt_setCells_apart ((World.rangeAt_drew _ _ _ _).2 (h.got i (by omega))) _ _ _ (by simp; omega)
theorem Laid.there2 {w wr : World} {g n k : Nat} {F : Nat → Int} {A : Nat → Option Addr} {L C : Nat → Nat} (h : Laid w g n k F A L C wr) (hk : k < n) : wr.drew.there g (k * 2) 2 := fun j hj => by
  have := ((World.there_drew _ _ _ _).2 h.all : wr.drew.there g 0 (n * 2)) (k * 2 + j) (by omega)
  rwa [Nat.zero_add] at this
theorem Laid.pairs {w wr : World} {g n : Nat} {F : Nat → Int} {A : Nat → Option Addr} {L C : Nat → Nat} (h : Laid w g n n F A L C wr) : Pairs wr g n F A L C :=
  ⟨h.lt, fun i hi => ⟨h.got i hi 0 _ rfl, h.got i hi 1 _ rfl⟩⟩

theorem at_all (g n : Nat) (F : Nat → Int) (A : Nat → Option Addr) (L C : Nat → Nat) (h : Int) (w : World) (hn : 0 < n) (hm : n ≤ 16384) (hp : Pairs w g n F A L C) :
    Calls Try.prog 14 #[.slice (some ⟨g, 0, none⟩) n n, .int .i64 h] w fun e w' => AtIs n F A L C h e ∧ Below w.heap.size w w' := by
  by_cases h1 : n = 1
  · subst h1
    exact at_one g F A L C h w hp
  · exact at_any g n F A L C h w (by omega) hm hp

theorem zzAt_any (a1 a2 : Option Addr) (n m1 m2 : Nat) (F : Nat → Int) (A : Nat → Option Addr) (L C : Nat → Nat) (h : Int) (w : World) (hn : 0 < n) (hm : n ≤ 16384) (h1 : Ints1 w a1 n F) (h2 : Rows2 w a2 n A L C) :
    Calls Try.prog 8 #[.slice a1 n m1, .slice a2 n m2, .int .i64 h] w fun e w' => AtIs n F A L C h e ∧ Below w.heap.size w w' := by
  have hmk := make_pairs n hm
  have H1 : Hid (Ints1 w a1 n F) := h1
  have H2 : Hid (Rows2 w a2 n A L C) := h2
  clear h1 h2
  go_enter Try.func8, Try.ntmps8
  go_wp2
  obtain ⟨g, hg⟩ : ∃ g, g = w.heap.size := ⟨_, rfl⟩
  have hL := Laid.start w n F A L C
  rw [← hg] at hL ⊢
  have HG : Hid (g = w.heap.size) := hg
  clear hg
  go_loopw [8] (fun i wr => ∃ k : Nat, k ≤ n ∧ i = .int .i64 k ∧ Laid w g n k F A L C wr) (fun i _ => n - (intOf i).toNat)
  case atStart => exact ⟨0, by omega, rfl, hL⟩
  case round =>
    clear hL
    obtain ⟨k, hk, rfl, hL⟩ := hrel
    by_cases hlt : k < n
    · obtain ⟨b1, o1, rfl, hb1, hc1⟩ := (H1.out.later hL.bel) k hlt
      obtain ⟨b2, o2, rfl, hb2, hc2, hz2⟩ := (H2.out.later hL.bel) k hlt
      go_wp2
      refine wp_region_still_tail 12 mixed' (by kernel_rfl) ?_
      simp only [List.take_succ_cons, List.take_zero, List.drop_succ_cons, List.drop_zero]
      repeat still_step
      refine wpStill_nil ?_
      refine wpList_store_mid rfl 33 _ _ rfl g (k * 2) #[.int .i64 (F k), .slice (A k) (L k) (C k)] rfl rfl (hL.there2 hlt) (by rw [info33]; rfl) (by simp [Value.oneCell']) ?_
      have hL2 := hL.put hlt
      clear hL
      go_wp2
      go_roundw
      case rel => exact ⟨k + 1, by omega, by go_num, hL2⟩
      case measure => simp [intOf]; omega
    · obtain rfl : k = n := by omega
      have hP := hL.pairs
      have hbel := hL.bel
      clear hL
      go_wp2_with (first | (go_at_call 14; refine (at_all g k F A L C h wr hn hm hP).mono ?_; rintro e w3 ⟨⟨kk, hkk, rfl, hF1, hF2⟩, hb3⟩; have HF1 : Hid (∀ j, 1 ≤ j → j ≤ kk → F j ≤ h) := hF1; have HF2 : Hid (kk + 1 < k → h < F (kk + 1)) := hF2; clear hF1 hF2))
      go_ret
      exact ⟨⟨kk, hkk, rfl, HF1.out, HF2.out⟩, hbel.trans (hb3.mono hbel.size)⟩
end Go.Proofs.Qxb6602681a
