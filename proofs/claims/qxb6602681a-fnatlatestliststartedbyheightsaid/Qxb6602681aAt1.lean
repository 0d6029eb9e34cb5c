import Derived.Test.Qxb6602681aRows
import Derived.WalkKit
import Derived.WalkSpells
import Derived.Outline
import Derived.Below
import Derived.Handy
import Derived.StillTactics
import Derived.Deep.OwnRows
import Derived.Deep.MidRow
import Derived.Deep.Draws
import Derived.Deep.QuietTactic
import Derived.BigQuiet
import Derived.Laws.CopyOwn
import Derived.LoopTactic
import Derived.RegionTactic
import Derived.Orders
namespace Go.Proofs.Qxb6602681a
open Go.RowKit
set_option linter.unusedVariables false
set_option linter.unusedSimpArgs false

/-- The rows of a slice of slices. -/
def Rows2 (w : World) (a : Option Addr) (l : Nat) (A : Nat → Option Addr) (L C : Nat → Nat) : Prop :=
  ∀ r, r < l → ∃ b o, a = some ⟨b, o, none⟩ ∧ b < w.heap.size ∧ w.cell? ⟨b, o + r, none⟩ = some (.slice (A r) (L r) (C r)) ∧ L r ≤ maxLen
/-- The numbers of a slice of integers. -/
def Ints1 (w : World) (a : Option Addr) (l : Nat) (F : Nat → Int) : Prop :=
  ∀ r, r < l → ∃ b o, a = some ⟨b, o, none⟩ ∧ b < w.heap.size ∧ w.cell? ⟨b, o + r, none⟩ = some (.int .i64 (F r))
theorem Rows2.later {w w' : World} {a : Option Addr} {l : Nat} {A : Nat → Option Addr} {L C : Nat → Nat} (h : Rows2 w a l A L C) (hb : Below w.heap.size w w') : Rows2 w' a l A L C := by
  intro r hr
  obtain ⟨b, o, h1, h2, h3, h4⟩ := h r hr
  exact ⟨b, o, h1, Nat.lt_of_lt_of_le h2 hb.size, (hb.cell (p := ⟨b, o + r, none⟩) h2).trans h3, h4⟩
theorem Ints1.later {w w' : World} {a : Option Addr} {l : Nat} {F : Nat → Int} (h : Ints1 w a l F) (hb : Below w.heap.size w w') : Ints1 w' a l F := by
  intro r hr
  obtain ⟨b, o, h1, h2, h3⟩ := h r hr
  exact ⟨b, o, h1, Nat.lt_of_lt_of_le h2 hb.size, (hb.cell (p := ⟨b, o + r, none⟩) h2).trans h3⟩

def IsBool (e : Ending) : Prop := ∃ B, e = .returned (.bool B)
theorem zz7_any (a1 a2 : Option Addr) (l1 m1 l2 m2 : Nat) (A : Nat → Option Addr) (L C : Nat → Nat) (x : Value) (w : World) (h1 : l1 ≤ 9223372036854775807) (h2 : l2 ≤ 9223372036854775807) (hr : Rows2 w a2 l2 A L C) :
    Calls Try.prog 7 #[.slice a1 l1 m1, .slice a2 l2 m2, x] w fun e w' => IsBool e ∧ w = w' := by
  have HR : Hid (Rows2 w a2 l2 A L C) := hr
  clear hr
  go_enter Try.func7, Try.ntmps7
  go_wp2
  · go_ret
    exact ⟨⟨_, rfl⟩, rfl⟩
  · go_ret
    exact ⟨⟨_, rfl⟩, rfl⟩
  · go_ret
    exact ⟨⟨_, rfl⟩, rfl⟩
  · go_loop [7, 8] (fun n i => ∃ (s : Int) (k : Nat), k ≤ l2 ∧ n = .int .i64 s ∧ i = .int .i64 k) (fun _ i => l2 - (intOf i).toNat)
    case atStart => exact ⟨_, 0, Nat.zero_le _, rfl, rfl⟩
    case round =>
      obtain ⟨s, k, hk, rfl, rfl⟩ := hrel
      by_cases hlt : k < l2
      · obtain ⟨b, o, rfl, hb, hc, hL⟩ := HR.out k hlt
        go_wp2
        · go_ret
          exact ⟨⟨_, rfl⟩, rfl⟩
        · go_ret
          exact ⟨⟨_, rfl⟩, rfl⟩
        · go_round
          case rel => exact ⟨_, k + 1, by omega, rfl, by go_num⟩
          case measure => simp [intOf]; omega
      · go_wp2
        go_ret
        exact ⟨⟨_, rfl⟩, rfl⟩

theorem below_drewN {B : Nat} {a w : World} (h : Below B a w) (n : Nat) : Below B a (w.drewN n) := h.trans ⟨rfl, rfl, rfl, Nat.le_refl _, fun _ _ => rfl⟩
theorem same_any (a : Option Addr) (l m : Nat) (F : Nat → Int) (w : World) (h : Ints1 w a l F) (hl : l ≤ 9223372036854775807) :
    Calls Try.prog 9 #[.slice a l m, .slice a l m] w fun e w' => e = .returned (.bool true) ∧ Below w.heap.size w w' := by
  have ns := fun (w : World) a n c => Lib.run_eql_slice_nil (P := Try.prog) w 22 3 a n c 0 0 Try.underlying22
  have HR : Hid (Ints1 w a l F) := h
  clear h
  go_enter Try.func9, Try.ntmps9
  go_wp2
  go_loopw [5] (fun i wr => ∃ k : Nat, k ≤ l ∧ i = .int .i64 k ∧ Below w.heap.size w wr) (fun i _ => l - (intOf i).toNat)
  case atStart => exact ⟨0, Nat.zero_le _, rfl, Below.refl _ _⟩
  case round =>
    obtain ⟨k, hk, rfl, hB⟩ := hrel
    by_cases hlt : k < l
    · obtain ⟨b, o, rfl, hb, hc⟩ := (HR.out.later hB) k hlt
      go_wp2
      go_quiet (fail)
      go_wp2
      go_roundw
      case rel => exact ⟨k + 1, by omega, by go_num, below_drewN hB _⟩
      case measure => simp [intOf]; omega
    · go_wp2
      go_ret
      exact ⟨rfl, hB⟩
end Go.Proofs.Qxb6602681a
