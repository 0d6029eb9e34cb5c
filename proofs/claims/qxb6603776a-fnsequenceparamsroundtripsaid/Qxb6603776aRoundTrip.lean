import Derived.Test.Qxb6603776aRt3
import Derived.Test.Qxb6603776aRt4
import Derived.ProofKit
import Derived.OpenShut
import Derived.ChangeOld
namespace Go.Proofs.Qxb6603776a
open Go.ChangeShapes Go.WideShapes Go.ChangeAt Go.RowKit
set_option linter.unusedVariables false
set_option linter.unusedSimpArgs false

/-- A slice of 32-bit integers as it came in. -/
def IntsIn (w : World) (a : Option Addr) (len cap : Nat) : Prop :=
  (a = none ∧ len = 0 ∧ cap = 0) ∨ ∃ x, ∃ z : Nat → Int, a = some x ∧ len ≤ cap ∧ cap ≤ maxLen ∧ ∀ i, i < len → w.cell? (x.add i) = some (.int .i32 (z i)) ∧ z i ≤ 2147483647

theorem i32_bd {x : Int} (h : (Lit.int .i32 x).wf = true) : x ≤ 2147483647 := by
  simp [Lit.wf, IntKind.min, IntKind.max, IntKind.signed, IntKind.bits] at h
  omega

theorem roundTrip_any (a : Option Addr) (len cap : Nat) (mk f : Int) (w : World) (h : IntsIn w a len cap) :
    Calls Try.prog 5 #[.slice a len cap, .int .u8 mk, .int .u8 f] w fun e w' => e = .returned (.bool true) ∧ Below w.heap.size w w' := by
  have hmax : len ≤ 9223372036854775807 := by
    rcases h with ⟨_, h, _⟩ | ⟨x, z, _, h1, h2, _⟩
    · omega
    · unfold maxLen at h2; omega
  by_cases h20 : len ≤ 1048576
  case neg => exact rt_long a len cap mk f w (by omega) hmax
  by_cases h17 : len ≤ 131072
  case neg => exact rt_wide a len cap mk f w h20 (by omega)
  by_cases hl : len = 0
  case pos => subst hl; exact rt_none a cap mk f w
  have h0 : 0 < len := by omega
  by_cases hf : f < 64 ∨ 126 < f
  case pos => exact rt_fin a len cap mk f w h17 h0 hf
  have f1 : 64 ≤ f := by omega
  have f2 : f ≤ 126 := by omega
  rcases h with ⟨_, h, _⟩ | ⟨x, z, rfl, h1, h2, hc⟩
  · omega
  obtain ⟨b, o, spot⟩ := x
  have hspot : spot = none := by simpa [Addr.add] using World.cell?_spot (hc 0 h0).1
  subst hspot
  have hc' : ∀ i, i < len → w.cell? ⟨b, o + i, none⟩ = some (.int .i32 (z i)) := fun i hi => by
    have := (hc i hi).1
    rwa [Go.WideShapes.add_plain] at this
  have hzb : ∀ i, i < len → z i ≤ 2147483647 := fun i hi => (hc i hi).2
  have hlt := World.block_lt_of_cell? w _ (hc' 0 h0)
  by_cases hm0 : mk = 0
  · subst hm0
    exact rt_walk0 b o len cap z f w h0 h17 hlt hc' hzb f1 f2
  by_cases hm : mk < 60 ∨ 63 < mk
  · exact rt_mark _ len cap mk f w h17 h0 f1 f2 hm0 hm
  · exact rt_walkM b o len cap z mk (by omega) (by omega) f w h0 h17 hlt hc' hzb f1 f2

theorem own : ownKnob Try.prog.godebug = none := by kernel_rfl
theorem laidOut : laidOutB Try.prog = true := by kernel_rfl

set_option maxRecDepth 100000 in
theorem roundTrip_lifted (os : Os) (started : os.Started) (H : Type) (enc : TypeId × Value → H) :
    ReturnsInHanded {} Try.checked os 5 .any (Rows.fnSequenceParamsRoundTripSpec.pre6 enc Try.prog Try.f5 Rows.fnSequenceParamsRoundTripRow.domain false) (Rows.fnSequenceParamsRoundTripSpec.post enc Try.prog Try.f5 false true false false) := by
  refine returnsInHanded_of_change (C := Try.checked) own started (by kernel_rfl) Try.func5
    (ChangeSpec.witness6 (enc := enc) (C := Try.checked) false ⟨#[], #[.slice none 0 0, .int .u8 0, .int .u8 0], []⟩ 8 (by kernel_rfl) (by kernel_rfl) (by kernel_rfl) (by kernel_rfl)) ?_
  intro W base args ds gs before hval0 hW hcnd _
  have hval : ∀ (j : Nat) t v, Try.f5.params[j]? = some t → args[j]? = some v → Value.okWide Try.prog W .any base t v := hval0
  have hW' := hW
  obtain ⟨p, q, hA0, hV, rfl, hfz, hnd⟩ := hW
  have hA : DataW.TrodAll enc Try.prog W 0 (fun _ => true) true Try.f5.params.toList args.toList ds p := hA0
  rw [Try.params5] at hA hval
  obtain ⟨v0, vs0, d0, ds0, p0, q0, hargs, rfl, rfl, h0, r0⟩ := trodAll_cons hA
  obtain ⟨v1, vs1, d1, ds1, p1, q1, rfl, rfl, rfl, h1, r1⟩ := trodAll_cons r0
  obtain ⟨v2, vs2, d2, ds2, p2, q2, rfl, rfl, rfl, h2, r2⟩ := trodAll_cons r1
  obtain ⟨rfl, rfl, rfl⟩ := trodAll_nil r2
  obtain rfl : args = #[v0, v1, v2] := by cases args; simp_all
  obtain ⟨rfl, rfl⟩ := trodVars_none hV
  obtain ⟨a0, len0, cap0, rfl⟩ := okWide_slice Try.underlying38 (hval 0 38 v0 rfl rfl)
  have k0 := h0
  have lt0 : ∀ x ∈ p0, x.block < W.heap.size := by obtain ⟨m, hm⟩ := k0; exact DataW.trod_lt m _ _ _ hm
  have w0 : IntsIn W a0 len0 cap0 := by
    obtain ⟨fuel, hf⟩ := h0
    rcases open_ints Try.underlying38 Try.underlying21 (by kernel_rfl) hf with ⟨hcs, _⟩ | ⟨x, l, c, zs, hcs, _, hl, hm, hz, _, hcell, hwz⟩
    · simp [Value.cells] at hcs
      exact .inl hcs
    · simp [Value.cells] at hcs
      obtain ⟨rfl, rfl, rfl⟩ := hcs
      have hz' : zs.length = cap0 := by simpa using hz
      refine .inr ⟨_, fun i => zs.getD i 0, rfl, hl, hm, fun i hi => ⟨hcell i (by omega), i32_bd (hwz _ ?_)⟩⟩
      have hi' : i < zs.length := by omega
      show zs.getD i 0 ∈ zs
      rw [List.getD_eq_getElem?_getD, List.getElem?_eq_getElem hi']
      exact List.getElem_mem hi'
  obtain ⟨a1, rfl, rfl, rfl, w1⟩ := open_int Try.underlying5 (hval 1 5 v1 rfl rfl) h1
  obtain ⟨a2, rfl, rfl, rfl, w2⟩ := open_int Try.underlying5 (hval 2 5 v2 rfl rfl) h2
  clear hA0 hval0
  refine (roundTrip_any a0 len0 cap0 a1 a2 W w0).mono fun e W' ⟨he, bel⟩ => ?_
  subst he
  exact ⟨_, rfl, _, _, _, [], _, [], hW', trodAll_mk1 (shut_bool Try.underlying4 _), (trodAll_cons_mk (Below.trod laidOut (by kernel_rfl) (of_decide_eq_true (by kernel_rfl)) k0 bel lt0) (trodAll_cons_mk (shut_int Try.underlying5 w1) (trodAll_cons_mk (shut_int Try.underlying5 w2) trodAll_mk0))), rfl, bel.frame _, fun h => by cases h⟩

theorem roundTrip_holds : Rows.FnSequenceParamsRoundTripSaid :=
  OpenClaim.holds_of_wide 5 Try.f5 rfl rfl rfl rfl rfl rfl rfl ⟨rfl, rfl, rfl, rfl, rfl⟩ rfl rfl rfl rfl rfl (by kernel_rfl) Try.func5 (by kernel_rfl)
    (of_decide_eq_true (by kernel_rfl)) (by unfold Func.isWrapper; first | (rw [if_pos (by decide +kernel)]; kernel_rfl) | (rw [if_neg (by decide +kernel)]; exact ⟨rfl, rfl⟩))
    (fun os started H enc _ => roundTrip_lifted os started H enc)
#print axioms roundTrip_holds
end Go.Proofs.Qxb6603776a
