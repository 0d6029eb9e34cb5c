import Derived.Test.Qxb6602681aMatch3
import Derived.Test.Qxb6602681aMatch5
import Derived.ProofKit
import Derived.OpenShut
import Derived.ChangeOld
import Derived.Deep.Grids
namespace Go.Proofs.Qxb6602681a
open Go.ChangeShapes Go.WideShapes Go.ChangeAt Go.RowKit
set_option linter.unusedVariables false
set_option linter.unusedSimpArgs false

/-- A slice of bools as it came in. -/
def BSl (w : World) (a : Option Addr) (l m : Nat) : Prop :=
  (a = none ∧ l = 0 ∧ m = 0) ∨ ∃ (x : Addr) (B : Nat → Bool), a = some x ∧ l ≤ m ∧ m ≤ maxLen ∧ ∀ i, i < m → w.cell? (x.add i) = some (.bool (B i))
theorem BSl.len {w : World} {a : Option Addr} {l m : Nat} (h : BSl w a l m) : l ≤ 9223372036854775807 := by
  rcases h with ⟨_, rfl, _⟩ | ⟨x, B, _, h1, h2, _⟩
  · decide
  · unfold maxLen at h2; omega
theorem row_of {w : World} {x : Addr} {l m : Nat} {B : Nat → Bool} (hl : l ≤ m) (hc : ∀ i, i < m → w.cell? (x.add i) = some (.bool (B i))) (h0 : 0 < l) :
    ∃ b o, x = ⟨b, o, none⟩ ∧ BRow w b o l ((List.range l).map B) := by
  obtain ⟨b, off, spot⟩ := x
  have hspot : spot = none := by simpa [Addr.add] using World.cell?_spot (hc 0 (by omega))
  subst hspot
  refine ⟨b, off, rfl, by simp, ?_, fun i hi => ?_⟩
  · have := World.block_lt_of_cell? w _ (hc 0 (by omega))
    rw [Go.WideShapes.add_plain] at this
    exact this
  · have := hc i (by omega)
    rw [Go.WideShapes.add_plain] at this
    rw [this]
    simp [hi]

theorem matches_law (typ height lo hi fp tp cTyp cHeight cEpoch : Int) (a1 a2 : Option Addr) (l1 m1 l2 m2 : Nat) (w : World) (e1 : -9223372036854775808 ≤ cEpoch) (e2 : cEpoch ≤ 9223372036854775807)
    (s1 : BSl w a1 l1 m1) (s2 : BSl w a2 l2 m2) :
    Calls Try.prog 5 #[.int .i64 typ, .int .i64 height, .int .i64 lo, .int .i64 hi, .slice a1 l1 m1, .slice a2 l2 m2, .int .i64 fp, .int .i64 tp, .int .i64 cTyp, .int .i64 cHeight, .int .i64 cEpoch] w
      fun e w' => e = .returned (.bool true) ∧ Below w.heap.size w w' := by
  by_cases h : l1 + l2 ≤ 1048576
  case neg => exact m_E1 _ _ _ _ _ _ _ _ _ _ _ _ _ _ _ w s1.len s2.len (by omega)
  by_cases hh : 524288 < l1 ∨ 524288 < l2
  case pos => exact m_E2 _ _ _ _ _ _ _ _ _ _ _ _ _ _ _ w s1.len s2.len h hh
  have y1 : l1 ≤ 524288 := by omega
  have y2 : l2 ≤ 524288 := by omega
  rcases s1 with ⟨rfl, rfl, rfl⟩ | ⟨x1, B1, rfl, c1, d1, f1⟩
  · rcases s2 with ⟨rfl, rfl, rfl⟩ | ⟨x2, B2, rfl, c2, d2, f2⟩
    · exact m_nn _ _ _ _ _ _ _ _ _ w e1 e2
    · by_cases ht : tp < 0 ∨ (l2 : Int) ≤ tp
      · exact m_E4 _ _ _ _ _ _ _ _ _ _ _ _ _ _ _ w y1 y2 (.inl rfl) ht
      · obtain ⟨b2, o2, rfl, R2⟩ := row_of c2 f2 (by omega)
        exact m_nF _ _ _ _ _ _ _ _ _ w e1 e2 _ _ _ _ _ R2 (by omega) (by omega) y2
  · by_cases hf : fp < 0 ∨ (l1 : Int) ≤ fp
    · exact m_E3 _ _ _ _ _ _ _ _ _ _ _ _ _ _ _ w y1 y2 hf
    · obtain ⟨b1, o1, rfl, R1⟩ := row_of c1 f1 (by omega)
      rcases s2 with ⟨rfl, rfl, rfl⟩ | ⟨x2, B2, rfl, c2, d2, f2⟩
      · exact m_Fn _ _ _ _ _ _ _ _ _ w e1 e2 _ _ _ _ _ R1 (by omega) (by omega) y1
      · by_cases ht : tp < 0 ∨ (l2 : Int) ≤ tp
        · exact m_E4 _ _ _ _ _ _ _ _ _ _ _ _ _ _ _ w y1 y2 (.inr ⟨⟨_, rfl⟩, by omega, by omega⟩) ht
        · obtain ⟨b2, o2, rfl, R2⟩ := row_of c2 f2 (by omega)
          exact m_FF _ _ _ _ _ _ _ _ _ w e1 e2 _ _ _ _ _ R1 (by omega) (by omega) y1 _ _ _ _ _ R2 (by omega) (by omega) y2

theorem own : ownKnob Try.prog.godebug = none := by kernel_rfl
theorem laidOut : laidOutB Try.prog = true := by kernel_rfl
theorem i64_bd {x : Int} (h : (Lit.int .i64 x).wf = true) : -9223372036854775808 ≤ x ∧ x ≤ 9223372036854775807 := by
  simp [Lit.wf, IntKind.min, IntKind.max, IntKind.signed, IntKind.bits] at h
  exact ⟨by omega, by omega⟩

set_option maxRecDepth 100000 in
theorem matches_lifted (os : Os) (started : os.Started) (H : Type) (enc : TypeId × Value → H) :
    ReturnsInHanded {} Try.checked os 5 .any (Rows.fnMatchesEachCriterionAloneSpec.pre6 enc Try.prog Try.f5 Rows.fnMatchesEachCriterionAloneRow.domain false) (Rows.fnMatchesEachCriterionAloneSpec.post enc Try.prog Try.f5 false true false false) := by
  refine returnsInHanded_of_change (C := Try.checked) own started (by kernel_rfl) Try.func5
    (ChangeSpec.witness6 (enc := enc) (C := Try.checked) false ⟨#[], #[.int .i64 0, .int .i64 0, .int .i64 0, .int .i64 0, .slice none 0 0, .slice none 0 0, .int .i64 0, .int .i64 0, .int .i64 0, .int .i64 0, .int .i64 0], []⟩ 8 (by kernel_rfl) (by kernel_rfl) (by kernel_rfl) (by kernel_rfl)) ?_
  intro W base args ds gs before hval0 hW hcnd _
  have hval : ∀ (j : Nat) t v, Try.f5.params[j]? = some t → args[j]? = some v → Value.okWide Try.prog W .any base t v := hval0
  have hW' := hW
  obtain ⟨p, q, hA0, hV, rfl, hfz, hnd⟩ := hW
  have hA : DataW.TrodAll enc Try.prog W 0 (fun _ => true) true Try.f5.params.toList args.toList ds p := hA0
  rw [Try.params5] at hA hval
  obtain ⟨v0, vs0, d0, ds0, p0, q0, hargs, rfl, rfl, h0, r0⟩ := trodAll_cons hA
  obtain ⟨v1, vs1, d1, ds1, p1, q1, rfl, rfl, rfl, h1, r1⟩ := trodAll_cons r0
  obtain ⟨v2, vs2, d2, ds2, p2, q2, rfl, rfl, rfl, h2, r2⟩ := trodAll_cons r1
  obtain ⟨v3, vs3, d3, ds3, p3, q3, rfl, rfl, rfl, h3, r3⟩ := trodAll_cons r2
  obtain ⟨v4, vs4, d4, ds4, p4, q4, rfl, rfl, rfl, h4, r4⟩ := trodAll_cons r3
  obtain ⟨v5, vs5, d5, ds5, p5, q5, rfl, rfl, rfl, h5, r5⟩ := trodAll_cons r4
  obtain ⟨v6, vs6, d6, ds6, p6, q6, rfl, rfl, rfl, h6, r6⟩ := trodAll_cons r5
  obtain ⟨v7, vs7, d7, ds7, p7, q7, rfl, rfl, rfl, h7, r7⟩ := trodAll_cons r6
  obtain ⟨v8, vs8, d8, ds8, p8, q8, rfl, rfl, rfl, h8, r8⟩ := trodAll_cons r7
  obtain ⟨v9, vs9, d9, ds9, p9, q9, rfl, rfl, rfl, h9, r9⟩ := trodAll_cons r8
  obtain ⟨v10, vs10, d10, ds10, p10, q10, rfl, rfl, rfl, h10, r10⟩ := trodAll_cons r9
  obtain ⟨rfl, rfl, rfl⟩ := trodAll_nil r10
  obtain rfl : args = #[v0, v1, v2, v3, v4, v5, v6, v7, v8, v9, v10] := by cases args; simp_all
  obtain ⟨rfl, rfl⟩ := trodVars_none hV
  obtain ⟨i0, rfl, rfl, rfl, w0⟩ := open_int Try.underlying3 (hval 0 3 v0 rfl rfl) h0
  obtain ⟨i1, rfl, rfl, rfl, w1⟩ := open_int Try.underlying3 (hval 1 3 v1 rfl rfl) h1
  obtain ⟨i2, rfl, rfl, rfl, w2⟩ := open_int Try.underlying3 (hval 2 3 v2 rfl rfl) h2
  obtain ⟨i3, rfl, rfl, rfl, w3⟩ := open_int Try.underlying3 (hval 3 3 v3 rfl rfl) h3
  obtain ⟨a4, l4, m4, rfl⟩ := okWide_slice Try.underlying28 (hval 4 28 v4 rfl rfl)
  obtain ⟨a5, l5, m5, rfl⟩ := okWide_slice Try.underlying28 (hval 5 28 v5 rfl rfl)
  obtain ⟨i6, rfl, rfl, rfl, w6⟩ := open_int Try.underlying3 (hval 6 3 v6 rfl rfl) h6
  obtain ⟨i7, rfl, rfl, rfl, w7⟩ := open_int Try.underlying3 (hval 7 3 v7 rfl rfl) h7
  obtain ⟨i8, rfl, rfl, rfl, w8⟩ := open_int Try.underlying3 (hval 8 3 v8 rfl rfl) h8
  obtain ⟨i9, rfl, rfl, rfl, w9⟩ := open_int Try.underlying3 (hval 9 3 v9 rfl rfl) h9
  obtain ⟨i10, rfl, rfl, rfl, w10⟩ := open_int Try.underlying3 (hval 10 3 v10 rfl rfl) h10
  have k4 := h4
  have k5 := h5
  have lt4 : ∀ x ∈ p4, x.block < W.heap.size := by obtain ⟨m, hm⟩ := k4; exact DataW.trod_lt m _ _ _ hm
  have lt5 : ∀ x ∈ p5, x.block < W.heap.size := by obtain ⟨m, hm⟩ := k5; exact DataW.trod_lt m _ _ _ hm
  have s4 : BSl W a4 l4 m4 := by
    obtain ⟨fuel, hf⟩ := h4
    rcases Go.Deep.open_bools Try.underlying28 Try.underlying4 (by kernel_rfl) hf with ⟨hcs, _⟩ | ⟨x, l, c, B, hcs, _, hl, hm, _, hcell⟩
    · simp [Value.cells] at hcs
      exact .inl hcs
    · simp [Value.cells] at hcs
      obtain ⟨rfl, rfl, rfl⟩ := hcs
      exact .inr ⟨x, B, rfl, hl, hm, hcell⟩
  have s5 : BSl W a5 l5 m5 := by
    obtain ⟨fuel, hf⟩ := h5
    rcases Go.Deep.open_bools Try.underlying28 Try.underlying4 (by kernel_rfl) hf with ⟨hcs, _⟩ | ⟨x, l, c, B, hcs, _, hl, hm, _, hcell⟩
    · simp [Value.cells] at hcs
      exact .inl hcs
    · simp [Value.cells] at hcs
      obtain ⟨rfl, rfl, rfl⟩ := hcs
      exact .inr ⟨x, B, rfl, hl, hm, hcell⟩
  clear hA0 hval0
  refine (matches_law i0 i1 i2 i3 i6 i7 i8 i9 i10 a4 a5 l4 m4 l5 m5 W (i64_bd w10).1 (i64_bd w10).2 s4 s5).mono fun e W' ⟨he, bel⟩ => ?_
  subst he
  exact ⟨_, rfl, _, _, _, [], _, [], hW', trodAll_mk1 (shut_bool Try.underlying4 _),
    (trodAll_cons_mk (shut_int Try.underlying3 w0) (trodAll_cons_mk (shut_int Try.underlying3 w1) (trodAll_cons_mk (shut_int Try.underlying3 w2) (trodAll_cons_mk (shut_int Try.underlying3 w3)
      (trodAll_cons_mk (Below.trod laidOut (by kernel_rfl) (of_decide_eq_true (by kernel_rfl)) k4 bel lt4) (trodAll_cons_mk (Below.trod laidOut (by kernel_rfl) (of_decide_eq_true (by kernel_rfl)) k5 bel lt5)
      (trodAll_cons_mk (shut_int Try.underlying3 w6) (trodAll_cons_mk (shut_int Try.underlying3 w7) (trodAll_cons_mk (shut_int Try.underlying3 w8) (trodAll_cons_mk (shut_int Try.underlying3 w9) (trodAll_cons_mk (shut_int Try.underlying3 w10) trodAll_mk0))))))))))),
    rfl, bel.frame _, fun h => by cases h⟩

theorem matches_holds : Rows.FnMatchesEachCriterionAloneSaid :=
  OpenClaim.holds_of_wide 5 Try.f5 rfl rfl rfl rfl rfl rfl rfl ⟨rfl, rfl, rfl, rfl, rfl⟩ rfl rfl rfl rfl rfl (by kernel_rfl) Try.func5 (by kernel_rfl)
    (of_decide_eq_true (by kernel_rfl)) (by unfold Func.isWrapper; first | (rw [if_pos (by decide +kernel)]; kernel_rfl) | (rw [if_neg (by decide +kernel)]; exact ⟨rfl, rfl⟩))
    (fun os started H enc _ => matches_lifted os started H enc)
#print axioms matches_holds
end Go.Proofs.Qxb6602681a
