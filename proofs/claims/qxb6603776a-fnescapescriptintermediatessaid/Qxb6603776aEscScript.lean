import Derived.Test.Qxb6603776aEscScr1
import Derived.Test.Qxb6603776aEscScr2
import Derived.ProofKit
import Derived.OpenShut
import Derived.ChangeOld
namespace Go.Proofs.Qxb6603776a
open Go.ChangeShapes Go.WideShapes Go.ChangeAt Go.RowKit
set_option linter.unusedVariables false
set_option linter.unusedSimpArgs false

/-- A slice of bytes as it came in. -/
def BytesIn (w : World) (a : Option Addr) (len cap : Nat) : Prop :=
  (a = none ∧ len = 0 ∧ cap = 0) ∨ ∃ x, ∃ z : Nat → Int, a = some x ∧ len ≤ cap ∧ cap ≤ maxLen ∧ ∀ i, i < len → w.cell? (x.add i) = some (.int .u8 (z i))

theorem start_st : ({ PS.zero with st := 1 } : PS).st = 1 := rfl
theorem es_first (f : Int) (f1 : 48 ≤ f) : ∃ r kk, (∀ w : World, Calls Try.prog 11 #[.agg ({ PS.zero with st := 1 } : PS).cells, .int .u8 f] w fun e w' => e = .returned (.tuple #[.agg r.cells, .int .u8 kk]) ∧ Below w.heap.size w w') ∧
    ((introOf f = 3 ∧ kk = 0 ∧ r = { PS.zero with st := 3, cur := -1 }) ∨ (¬ introOf f = 0 ∧ ¬ introOf f = 3 ∧ kk = 0 ∧ r = { PS.zero with st := introOf f }) ∨ (introOf f = 0 ∧ kk = 3 ∧ r = { PS.zero with st := 0, nin := 0, fin := f })) := by
  refine ⟨_, _, fun w => ZZEscapeByte_any { PS.zero with st := 1 } f w (by decide) (by decide), ?_⟩
  rw [PS.escByte, if_neg (by omega), if_neg (by decide), PS.escKind]
  by_cases h1 : f = 91
  · subst h1; exact .inl ⟨rfl, rfl, rfl⟩
  by_cases h2 : f = 80
  · subst h2; exact .inr (.inl ⟨by decide, by decide, rfl, rfl⟩)
  by_cases h3 : f = 93
  · subst h3; exact .inr (.inl ⟨by decide, by decide, rfl, rfl⟩)
  by_cases h4 : f = 88 ∨ f = 94 ∨ f = 95 ∨ f = 107
  · rcases h4 with rfl | rfl | rfl | rfl
    all_goals exact .inr (.inl ⟨by decide, by decide, rfl, rfl⟩)
  · refine .inr (.inr ⟨?_, ?_, ?_⟩)
    · rw [introOf, if_neg h1, if_neg h2, if_neg h3, if_neg h4]
    · have hq : ({ PS.zero with st := 1 } : PS).isIntro f = false := by
        simp [PS.isIntro, h1, h2, h3]
        omega
      rw [hq, if_neg (by simp [PS.zero]; omega)]
    · rw [if_neg h1, if_neg h2, if_neg h3, if_neg h4, PS.escEnd]
      simp [PS.zero]

theorem escScript_any (a : Option Addr) (len cap : Nat) (f : Int) (w : World) (h : BytesIn w a len cap) :
    Calls Try.prog 3 #[.slice a len cap, .int .u8 f] w fun e w' => e = .returned (.bool true) ∧ Below w.heap.size w w' := by
  have hmax : len ≤ 9223372036854775807 := by
    rcases h with ⟨_, h, _⟩ | ⟨x, z, _, h1, h2, _⟩
    · omega
    · unfold maxLen at h2; omega
  by_cases h20 : len ≤ 1048576
  case neg => exact es_long a len cap f w (by omega) hmax
  by_cases hf : f < 48 ∨ 126 < f
  case pos => exact es_out a len cap f w h20 hf
  have f1 : 48 ≤ f := by omega
  have f2 : f ≤ 126 := by omega
  obtain ⟨r, kk, HZf, hr⟩ := es_first f f1
  rcases h with ⟨rfl, rfl, rfl⟩ | ⟨x, z, rfl, h1, h2, hc⟩
  · rcases hr with ⟨hi, rfl, hr⟩ | ⟨h0, h3, rfl, hr⟩ | ⟨hi, rfl, hr⟩
    · exact es_csi_n f w f1 f2 r HZf hi (fun w => by rw [hr]; exact ten28 _ w)
    · exact es_str_n f w f1 f2 r HZf (by simpa using h0) (by simpa using h3) (fun w => by rw [hr]; exact ten28 _ w)
    · exact es_end_n f w f1 f2 r HZf hi (fun w => by rw [hr]; exact ten28 _ w)
  · by_cases hl : len = 0
    · subst hl
      rcases hr with ⟨hi, rfl, hr⟩ | ⟨h0, h3, rfl, hr⟩ | ⟨hi, rfl, hr⟩
      · exact es_csi_s x cap f w f1 f2 r HZf hi (fun w => by rw [hr]; exact ten28 _ w)
      · exact es_str_s x cap f w f1 f2 r HZf (by simpa using h0) (by simpa using h3) (fun w => by rw [hr]; exact ten28 _ w)
      · exact es_end_s x cap f w f1 f2 r HZf hi (fun w => by rw [hr]; exact ten28 _ w)
    · obtain ⟨b, o, spot⟩ := x
      have hspot : spot = none := by simpa [Addr.add] using World.cell?_spot (hc 0 (by omega))
      subst hspot
      have hc' : ∀ i, i < len → w.cell? ⟨b, o + i, none⟩ = some (.int .u8 (z i)) := fun i hi => by
        have := hc i hi
        rwa [Go.WideShapes.add_plain] at this
      exact es_walk b o len cap z f w (by omega) h20 (World.block_lt_of_cell? w _ (hc' 0 (by omega))) hc' f1 f2

theorem own : ownKnob Try.prog.godebug = none := by kernel_rfl
theorem laidOut : laidOutB Try.prog = true := by kernel_rfl

set_option maxRecDepth 100000 in
theorem escScript_lifted (os : Os) (started : os.Started) (H : Type) (enc : TypeId × Value → H) :
    ReturnsInHanded {} Try.checked os 3 .any (Rows.fnEscapeScriptIntermediatesSpec.pre6 enc Try.prog Try.f3 Rows.fnEscapeScriptIntermediatesRow.domain false) (Rows.fnEscapeScriptIntermediatesSpec.post enc Try.prog Try.f3 false true false false) := by
  refine returnsInHanded_of_change (C := Try.checked) own started (by kernel_rfl) Try.func3
    (ChangeSpec.witness6 (enc := enc) (C := Try.checked) false ⟨#[], #[.slice none 0 0, .int .u8 0], []⟩ 8 (by kernel_rfl) (by kernel_rfl) (by kernel_rfl) (by kernel_rfl)) ?_
  intro W base args ds gs before hval0 hW hcnd _
  have hval : ∀ (j : Nat) t v, Try.f3.params[j]? = some t → args[j]? = some v → Value.okWide Try.prog W .any base t v := hval0
  have hW' := hW
  obtain ⟨p, q, hA0, hV, rfl, hfz, hnd⟩ := hW
  have hA : DataW.TrodAll enc Try.prog W 0 (fun _ => true) true Try.f3.params.toList args.toList ds p := hA0
  rw [Try.params3] at hA hval
  obtain ⟨v0, vs0, d0, ds0, p0, q0, hargs, rfl, rfl, h0, r0⟩ := trodAll_cons hA
  obtain ⟨v1, vs1, d1, ds1, p1, q1, rfl, rfl, rfl, h1, r1⟩ := trodAll_cons r0
  obtain ⟨rfl, rfl, rfl⟩ := trodAll_nil r1
  obtain rfl : args = #[v0, v1] := by cases args; simp_all
  obtain ⟨rfl, rfl⟩ := trodVars_none hV
  obtain ⟨a0, len0, cap0, rfl⟩ := okWide_slice Try.underlying22 (hval 0 22 v0 rfl rfl)
  have k0 := h0
  have lt0 : ∀ x ∈ p0, x.block < W.heap.size := by obtain ⟨m, hm⟩ := k0; exact DataW.trod_lt m _ _ _ hm
  have w0 : BytesIn W a0 len0 cap0 := by
    obtain ⟨fuel, hf⟩ := h0
    rcases open_ints Try.underlying22 Try.underlying5 (by kernel_rfl) hf with ⟨hcs, _⟩ | ⟨x, l, c, zs, hcs, _, hl, hm, hz, _, hcell, hwz⟩
    · simp [Value.cells] at hcs
      exact .inl hcs
    · simp [Value.cells] at hcs
      obtain ⟨rfl, rfl, rfl⟩ := hcs
      have hz' : zs.length = cap0 := by simpa using hz
      exact .inr ⟨_, fun i => zs.getD i 0, rfl, hl, hm, fun i hi => hcell i (by omega)⟩
  obtain ⟨a1, rfl, rfl, rfl, w1⟩ := open_int Try.underlying5 (hval 1 5 v1 rfl rfl) h1
  clear hA0 hval0
  refine (escScript_any a0 len0 cap0 a1 W w0).mono fun e W' ⟨he, bel⟩ => ?_
  subst he
  exact ⟨_, rfl, _, _, _, [], _, [], hW', trodAll_mk1 (shut_bool Try.underlying4 _), (trodAll_cons_mk (Below.trod laidOut (by kernel_rfl) (of_decide_eq_true (by kernel_rfl)) k0 bel lt0) (trodAll_cons_mk (shut_int Try.underlying5 w1) trodAll_mk0)), rfl, bel.frame _, fun h => by cases h⟩

theorem escScript_holds : Rows.FnEscapeScriptIntermediatesSaid :=
  OpenClaim.holds_of_wide 3 Try.f3 rfl rfl rfl rfl rfl rfl rfl ⟨rfl, rfl, rfl, rfl, rfl⟩ rfl rfl rfl rfl rfl (by kernel_rfl) Try.func3 (by kernel_rfl)
    (of_decide_eq_true (by kernel_rfl)) (by unfold Func.isWrapper; first | (rw [if_pos (by decide +kernel)]; kernel_rfl) | (rw [if_neg (by decide +kernel)]; exact ⟨rfl, rfl⟩))
    (fun os started H enc _ => escScript_lifted os started H enc)
#print axioms escScript_holds
end Go.Proofs.Qxb6603776a
