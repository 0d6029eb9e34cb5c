import Derived.Test.Qxb6602681aMatch
import Derived.Deep.OwnRows
import Derived.Laws.CopyOwn
namespace Go.Proofs.Qxb6602681a
open Go.RowKit
set_option linter.unusedVariables false
set_option linter.unusedSimpArgs false

theorem Named.old {w w' : World} {v : Value} {p : Int} {F : Bool} (h : Named w v p F) (hb : Below w.heap.size w w') : Named w' v p F := by
  rcases h with h | ⟨b, o, l, m, hv, h0, hl, hlt, hc⟩
  · exact .inl h
  · refine .inr ⟨b, o, l, m, hv, h0, hl, Nat.lt_of_lt_of_le hlt hb.size, ?_⟩
    rw [hb.cell (p := ⟨b, o + p.toNat, none⟩) hlt]
    exact hc
theorem Named.form {w : World} {v : Value} {p : Int} {F : Bool} (h : Named w v p F) : ∃ a l m, v = .slice a l m := by
  rcases h with ⟨rfl, _⟩ | ⟨b, o, l, m, rfl, _⟩
  · exact ⟨_, _, _, rfl⟩
  · exact ⟨_, _, _, rfl⟩

set_option maxHeartbeats 1000000 in
theorem zm_any (typ height lo hi fp tp cTyp cHeight cEpoch : Int) (w : World) (from_ to_ : Value) (F G : Bool) (hF : Named w from_ fp F) (hG : Named w to_ tp G) :
    Calls Try.prog 12 #[.int .i64 typ, .int .i64 height, .int .i64 lo, .int .i64 hi, from_, to_, .int .i64 fp, .int .i64 tp, .int .i64 cTyp, .int .i64 cHeight, .int .i64 cEpoch] w
      fun e w' => e = .returned (.bool (crit typ height lo hi cTyp cHeight cEpoch F G)) ∧ Below w.heap.size w w' := by
  obtain ⟨a1, l1, m1, rfl⟩ := hF.form
  obtain ⟨a2, l2, m2, rfl⟩ := hG.form
  have H : ∀ O1 O2, Below w.heap.size w ((w.alloc O1).alloc O2) := fun O1 O2 => ((Below.refl _ _).alloc (Nat.le_refl _) _).alloc (by simp) _
  have HF : Hid (Named w (.slice a1 l1 m1) fp F) := hF
  have HG : Hid (Named w (.slice a2 l2 m2) tp G) := hG
  clear hF hG
  go_enter Try.func12, Try.ntmps12
  go_wp2_with (first
    | (go_at_call 15; refine (matches_any typ height lo hi fp tp cTyp cHeight cEpoch _ w.heap.size (.slice a1 l1 m1) (.slice a2 l2 m2) F G ?k0 ?k1 ?k2 ?k3 ?k4 ?k5 ?kg (HF.out.old (H _ _)) (HG.out.old (H _ _)) _ rfl).mono ?_;
        (case k0 => simp [go_sem]); (case k1 => simp [go_sem]); (case k2 => simp [go_sem]); (case k3 => simp [go_sem]); (case k4 => simp [go_sem]); (case k5 => simp [go_sem]); (case kg => simp; omega); rintro e w' ⟨rfl, hb⟩))
  go_ret
  exact ⟨rfl, (H _ _).trans (hb.mono (by simp; omega))⟩

theorem zz11_yes (l1 m1 l2 m2 : Nat) (a1 a2 : Option Addr) (x0 x1 x2 x3 x6 x7 x8 x9 x10 : Value) (w : World) (h : l1 + l2 ≤ 1048576) :
    Calls Try.prog 11 #[x0, x1, x2, x3, .slice a1 l1 m1, .slice a2 l2 m2, x6, x7, x8, x9, x10] w fun e w' => e = .returned (.bool true) ∧ w' = w := by
  go_enter Try.func11, Try.ntmps11
  go_wp2
  go_ret
  exact ⟨rfl, rfl⟩
theorem zz11_no (l1 m1 l2 m2 : Nat) (a1 a2 : Option Addr) (x0 x1 x2 x3 x6 x7 x8 x9 x10 : Value) (w : World) (h : 1048576 < l1 + l2) (z1 : l1 ≤ 9223372036854775807) (z2 : l2 ≤ 9223372036854775807) :
    Calls Try.prog 11 #[x0, x1, x2, x3, .slice a1 l1 m1, .slice a2 l2 m2, x6, x7, x8, x9, x10] w fun e w' => e = .returned (.bool false) ∧ w' = w := by
  go_enter Try.func11, Try.ntmps11
  go_wp2
  all_goals
    go_ret
    exact ⟨rfl, rfl⟩
end Go.Proofs.Qxb6602681a
