import Derived.Test.Qxb6602681aAt5
import Derived.ProofKit
import Derived.OpenShut
import Derived.ChangeOld
import Derived.Deep.Matrix
namespace Go.Proofs.Qxb6602681a
open Go.ChangeShapes Go.WideShapes Go.ChangeAt Go.RowKit
set_option linter.unusedVariables false
set_option linter.unusedSimpArgs false

theorem spot_of {w : World} {x : Addr} {i : Nat} {v v0 : Value} (h0 : w.cell? (x.add 0) = some v0) (h : w.cell? (x.add i) = some v) : ∃ b o, x = ⟨b, o, none⟩ ∧ b < w.heap.size ∧ w.cell? ⟨b, o + i, none⟩ = some v := by
  obtain ⟨b, off, spot⟩ := x
  have hspot : spot = none := by simpa [Addr.add] using World.cell?_spot h0
  subst hspot
  rw [Go.WideShapes.add_plain] at h
  exact ⟨b, off, rfl, World.block_lt_of_cell? w _ h, h⟩

/-- The starts as they came in. -/
def Froms (w : World) (a : Option Addr) (l m : Nat) : Prop :=
  (a = none ∧ l = 0 ∧ m = 0) ∨ ∃ (x : Addr) (F : Nat → Int), a = some x ∧ l ≤ maxLen ∧ Ints1 w (some x) l F
/-- The lists as they came in. -/
def Lists (w : World) (a : Option Addr) (l : Nat) : Prop :=
  ∃ (A : Nat → Option Addr) (L C : Nat → Nat) (Z : Nat → Nat → Int), l ≤ maxLen ∧ Rows2 w a l A L C ∧ ∀ r, r < l → Ints1 w (A r) (L r) (Z r)

theorem atLatest_any (a1 a2 : Option Addr) (l1 m1 l2 m2 : Nat) (h : Int) (w : World) (s1 : Froms w a1 l1 m1) (s2 : Lists w a2 l2) :
    Calls Try.prog 3 #[.slice a1 l1 m1, .slice a2 l2 m2, .int .i64 h] w fun e w' => e = .returned (.bool true) ∧ Below w.heap.size w w' := by
  obtain ⟨A, L, C, Z, hl2, hr, hZ⟩ := s2
  have z2 : l2 ≤ 9223372036854775807 := by unfold maxLen at hl2; omega
  rcases s1 with ⟨rfl, rfl, rfl⟩ | ⟨x, F, rfl, hl1, hi⟩
  · exact atl_nil a2 l2 m2 A L C h w z2 hr
  · have z1 : l1 ≤ 9223372036854775807 := by unfold maxLen at hl1; omega
    by_cases hw : 16384 < l1 ∨ 16384 < l2
    · exact atl_wide x a2 l1 m1 l2 m2 A L C h w z1 z2 hr hw
    by_cases hs : l1 = 0 ∨ ¬ l1 = l2
    · exact atl_short x a2 l1 m1 l2 m2 F A L C h w (by omega) (by omega) hr hi hs
    · obtain rfl : l1 = l2 := by omega
      exact atl_full x a2 l1 m1 m2 F A L C Z h w (by omega) (by omega) hr hi hZ

theorem own : ownKnob Try.prog.godebug = none := by kernel_rfl
theorem laidOut : laidOutB Try.prog = true := by kernel_rfl

set_option maxRecDepth 100000 in
theorem atLatest_lifted (os : Os) (started : os.Started) (H : Type) (enc : TypeId × Value → H) :
    ReturnsInHanded {} Try.checked os 3 .any (Rows.fnAtLatestListStartedByHeightSpec.pre6 enc Try.prog Try.f3 Rows.fnAtLatestListStartedByHeightRow.domain false) (Rows.fnAtLatestListStartedByHeightSpec.post enc Try.prog Try.f3 false true false false) := by
  refine returnsInHanded_of_change (C := Try.checked) own started (by kernel_rfl) Try.func3
    (ChangeSpec.witness6 (enc := enc) (C := Try.checked) false ⟨#[], #[.slice none 0 0, .slice none 0 0, .int .i64 0], []⟩ 8 (by kernel_rfl) (by kernel_rfl) (by kernel_rfl) (by kernel_rfl)) ?_
  intro W base args ds gs before hval0 hW hcnd _
  have hval : ∀ (j : Nat) t v, Try.f3.params[j]? = some t → args[j]? = some v → Value.okWide Try.prog W .any base t v := hval0
  have hW' := hW
  obtain ⟨p, q, hA0, hV, rfl, hfz, hnd⟩ := hW
  have hA : DataW.TrodAll enc Try.prog W 0 (fun _ => true) true Try.f3.params.toList args.toList ds p := hA0
  rw [Try.params3] at hA hval
  obtain ⟨v0, vs0, d0, ds0, p0, q0, hargs, rfl, rfl, h0, r0⟩ := trodAll_cons hA
  obtain ⟨v1, vs1, d1, ds1, p1, q1, rfl, rfl, rfl, h1, r1⟩ := trodAll_cons r0
  obtain ⟨v2, vs2, d2, ds2, p2, q2, rfl, rfl, rfl, h2, r2⟩ := trodAll_cons r1
  obtain ⟨rfl, rfl, rfl⟩ := trodAll_nil r2
  obtain rfl : args = #[v0, v1, v2] := by cases args; simp_all
  obtain ⟨rfl, rfl⟩ := trodVars_none hV
  obtain ⟨a0, l0, m0, rfl⟩ := okWide_slice Try.underlying22 (hval 0 22 v0 rfl rfl)
  obtain ⟨a1, l1, m1, rfl⟩ := okWide_slice Try.underlying23 (hval 1 23 v1 rfl rfl)
  obtain ⟨i2, rfl, rfl, rfl, w2⟩ := open_int Try.underlying3 (hval 2 3 v2 rfl rfl) h2
  have k0 := h0
  have k1 := h1
  have lt0 : ∀ x ∈ p0, x.block < W.heap.size := by obtain ⟨m, hm⟩ := k0; exact DataW.trod_lt m _ _ _ hm
  have lt1 : ∀ x ∈ p1, x.block < W.heap.size := by obtain ⟨m, hm⟩ := k1; exact DataW.trod_lt m _ _ _ hm
  have s0 : Froms W a0 l0 m0 := by
    obtain ⟨fuel, hf⟩ := h0
    rcases open_ints Try.underlying22 Try.underlying3 (by kernel_rfl) hf with ⟨hcs, _⟩ | ⟨x, l, c, zs, hcs, _, hl, hm, hz, _, hcell, hwz⟩
    · simp [Value.cells] at hcs
      exact .inl hcs
    · simp [Value.cells] at hcs
      obtain ⟨rfl, rfl, rfl⟩ := hcs
      have hz' : zs.length = m0 := by simpa using hz
      refine .inr ⟨x, fun i => zs.getD i 0, rfl, Nat.le_trans hl hm, fun r hr => ?_⟩
      obtain ⟨b, o, e1, e2, e3⟩ := spot_of (hcell 0 (by omega)) (hcell r (by omega))
      exact ⟨b, o, by rw [e1], e2, e3⟩
  have s1 : Lists W a1 l1 := by
    obtain ⟨fuel, hf⟩ := h1
    rcases Go.Deep.open_int_rows Try.underlying23 Try.underlying22 Try.underlying3 (by kernel_rfl) (by kernel_rfl) hf with ⟨hcs, _⟩ | ⟨a, l, c, A, L, C, Z, hcs, _, hl, hm, _, hcell⟩
    · simp [Value.cells] at hcs
      obtain ⟨rfl, rfl, rfl⟩ := hcs
      exact ⟨fun _ => none, fun _ => 0, fun _ => 0, fun _ _ => 0, Nat.zero_le _, fun r hr => absurd hr (Nat.not_lt_zero _), fun r hr => absurd hr (Nat.not_lt_zero _)⟩
    · simp [Value.cells] at hcs
      obtain ⟨rfl, rfl, rfl⟩ := hcs
      refine ⟨A, L, C, fun r i => (Z r).getD i 0, Nat.le_trans hl hm, fun r hr => ?_, fun r hr i hi => ?_⟩
      · obtain ⟨g1, g2, g3, _⟩ := hcell r (by omega)
        obtain ⟨b, o, e1, e2, e3⟩ := spot_of (hcell 0 (by omega)).1 g1
        exact ⟨b, o, by rw [e1], e2, e3, Nat.le_trans g2 g3⟩
      · obtain ⟨g1, g2, g3, g4, g5, g6, g7⟩ := hcell r (by omega)
        cases hA : A r with
        | none => have := g6 hA; omega
        | some x =>
          obtain ⟨b, o, e1, e2, e3⟩ := spot_of ((g7 x hA).2 0 (by omega)) ((g7 x hA).2 i (by omega))
          exact ⟨b, o, by rw [e1], e2, e3⟩
  clear hA0 hval0
  refine (atLatest_any a0 a1 l0 m0 l1 m1 i2 W s0 s1).mono fun e W' ⟨he, bel⟩ => ?_
  subst he
  exact ⟨_, rfl, _, _, _, [], _, [], hW', trodAll_mk1 (shut_bool Try.underlying4 _),
    (trodAll_cons_mk (Below.trod laidOut (by kernel_rfl) (of_decide_eq_true (by kernel_rfl)) k0 bel lt0) (trodAll_cons_mk (Below.trod laidOut (by kernel_rfl) (of_decide_eq_true (by kernel_rfl)) k1 bel lt1)
      (trodAll_cons_mk (shut_int Try.underlying3 w2) trodAll_mk0))),
    rfl, bel.frame _, fun h => by cases h⟩

theorem atLatest_holds : Rows.FnAtLatestListStartedByHeightSaid :=
  OpenClaim.holds_of_wide 3 Try.f3 rfl rfl rfl rfl rfl rfl rfl ⟨rfl, rfl, rfl, rfl, rfl⟩ rfl rfl rfl rfl rfl (by kernel_rfl) Try.func3 (by kernel_rfl)
    (of_decide_eq_true (by kernel_rfl)) (by unfold Func.isWrapper; first | (rw [if_pos (by decide +kernel)]; kernel_rfl) | (rw [if_neg (by decide +kernel)]; exact ⟨rfl, rfl⟩))
    (fun os started H enc _ => atLatest_lifted os started H enc)
#print axioms atLatest_holds
end Go.Proofs.Qxb6602681a
