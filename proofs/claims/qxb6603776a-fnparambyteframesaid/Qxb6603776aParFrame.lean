import Derived.Test.Qxb6603776aFrameP1
import Derived.Test.Qxb6603776aFrameP2
import Derived.Test.Qxb6603776aFrameP3
import Derived.Test.Qxb6603776aFrameP4
import Derived.Test.Qxb6603776aBits
import Derived.Test.Qxb6603776aOpen
import Derived.ChangeOld
namespace Go.Proofs.Qxb6603776a
open Go.ChangeShapes Go.WideShapes Go.ChangeAt Go.RowKit
set_option linter.unusedVariables false
set_option linter.unusedSimpArgs false

set_option maxRecDepth 100000 in
set_option maxHeartbeats 1000000 in
theorem pf_over (s : PS) (c : Int) (w : World) (n3 : 23 < s.np) :
    Calls Try.prog 8 #[.agg s.cells, .int .u8 c] w fun e w' => e = .returned (.bool true) ∧ Below w.heap.size w w' := by
  have k31 := PS.c31 s
  go_enter Try.func8, Try.ntmps8
  go_wp2
  go_ret
  exact ⟨rfl, (Below.refl _ _).alloc (Nat.le_refl _) _⟩
set_option maxRecDepth 100000 in
set_option maxHeartbeats 1000000 in
theorem pf_lo (s : PS) (c : Int) (w : World) (n3 : s.np ≤ 23) (hc : c < 48) :
    Calls Try.prog 8 #[.agg s.cells, .int .u8 c] w fun e w' => e = .returned (.bool true) ∧ Below w.heap.size w w' := by
  have k31 := PS.c31 s
  go_enter Try.func8, Try.ntmps8
  go_wp2
  go_ret
  exact ⟨rfl, (Below.refl _ _).alloc (Nat.le_refl _) _⟩
set_option maxRecDepth 100000 in
set_option maxHeartbeats 1000000 in
theorem pf_hi (s : PS) (c : Int) (w : World) (n3 : s.np ≤ 23) (hc : 59 < c) :
    Calls Try.prog 8 #[.agg s.cells, .int .u8 c] w fun e w' => e = .returned (.bool true) ∧ Below w.heap.size w w' := by
  have k31 := PS.c31 s
  go_enter Try.func8, Try.ntmps8
  go_wp2
  go_ret
  exact ⟨rfl, (Below.refl _ _).alloc (Nat.le_refl _) _⟩

theorem parFrame_any (s : PS) (c : Int) (w : World) (n1 : 0 ≤ s.np) (b1 : 0 ≤ s.pb) (b2 : s.pb ≤ 255) :
    Calls Try.prog 8 #[.agg s.cells, .int .u8 c] w fun e w' => e = .returned (.bool true) ∧ Below w.heap.size w w' := by
  by_cases n2 : s.np ≤ 23
  case neg => exact pf_over s c w (by omega)
  by_cases c1 : 48 ≤ c
  case neg => exact pf_lo s c w n2 (by omega)
  by_cases c2 : c ≤ 59
  case neg => exact pf_hi s c w n2 (by omega)
  have HZ := fun w => ZZParamByte_any s c w c1 c2 b1 b2 n1 n2
  by_cases hp : s.pb = 63
  · have er : s.paramByte c = { s with dis := true } := by rw [PS.paramByte, if_pos hp]
    rw [er] at HZ
    exact pf_P1 s _ c w HZ n1 n2 b1 b2 c1 c2 (by simpa using hp) rfl rfl rfl rfl rfl rfl (fun w => ten28 _ w)
  have hp' : (s.pb == 63) = false := by simpa using hp
  by_cases h59 : c = 59
  · subst h59
    by_cases hk : s.bump.endOk = true
    · have er : s.paramByte 59 = s.bump.filed := by rw [PS.paramByte, if_neg hp, if_pos rfl, if_pos hk]
      rw [er] at HZ
      have hn : ¬ s.np = 23 := by intro e; simp [PS.endOk, PS.bump, e] at hk
      have hcol : bits .andNot .u32 s.bump.filed.col (2 ^ s.np.toNat % 4294967296) = bits .andNot .u32 s.col (2 ^ s.np.toNat % 4294967296) := by
        show bits .andNot .u32 (if s.inc then bits .or .u32 s.col (2 ^ s.np.toNat % 4294967296) else s.col) _ = _
        split
        · exact clear_or _ _
        · rfl
      exact pf_P2 s _ w HZ n1 n2 b1 b2 hp' rfl (by omega) (by simp; omega) rfl rfl rfl rfl rfl hcol rfl rfl rfl rfl rfl
        (fun w => sameParams_any s.bump.filed s s.np w (fun i hi hne => params_set_ne _ _ _ _ hi (by show ¬ i = s.np.toNat; omega)))
    · have er : s.paramByte 59 = { s with pb := (s.pb + 1) % 256, dis := true } := by rw [PS.paramByte, if_neg hp, if_pos rfl, if_neg hk]; rfl
      rw [er] at HZ
      exact pf_P3 s _ w HZ n1 n2 b1 b2 hp' rfl rfl rfl rfl rfl rfl rfl rfl (fun w => ten28 _ w)
  by_cases h58 : c = 58
  · subst h58
    have er : s.paramByte 58 = { s with pb := (s.pb + 1) % 256, inc := true } := by rw [PS.paramByte, if_neg hp, if_neg (by decide), if_pos rfl]; rfl
    rw [er] at HZ
    exact pf_P4 s _ w HZ n1 n2 b1 b2 hp' rfl rfl rfl rfl rfl rfl rfl rfl rfl rfl rfl (fun x y w hx hy => by subst hx hy; exact ten28 _ w)
  have c3 : c ≤ 57 := by omega
  have q1 : (c == 59) = false := by simpa using h59
  have q2 : (c == 58) = false := by simpa using h58
  cases hi : s.inc
  case true =>
    have er : s.paramByte c = { s with pb := (s.pb + 1) % 256, inc := true } := by
      rw [PS.paramByte, if_neg hp, if_neg h59, if_neg h58, if_pos hi, PS.bump, ← hi]
    rw [er] at HZ
    exact pf_P5 s _ c w HZ n1 n2 b1 b2 c1 c3 q1 q2 hp' rfl rfl rfl rfl rfl hi rfl rfl rfl rfl rfl rfl (fun x y w hx hy => by subst hx hy; exact ten28 _ w)
  case false =>
    by_cases hb : 2147483647 < nextCur s.cur c
    · have er : s.paramByte c = { s with pb := (s.pb + 1) % 256, ovf := true, cur := 2147483647 } := by
        rw [PS.paramByte, if_neg hp, if_neg h59, if_neg h58, if_neg (by simp [hi]), if_pos hb]; rfl
      rw [er] at HZ
      by_cases x1 : s.cur < -1
      · exact pf_P6a_t s _ c w HZ n1 n2 b1 b2 c1 c3 q1 q2 hp' rfl rfl rfl rfl rfl hi hi rfl x1 rfl rfl rfl rfl rfl
      by_cases x2 : 2147483647 < s.cur
      · exact pf_P6c_t s _ c w HZ n1 n2 b1 b2 c1 c3 q1 q2 hp' rfl rfl rfl rfl rfl hi hi rfl x2 rfl rfl rfl rfl rfl
      by_cases x3 : s.cur = -1
      · rw [nextCur_neg (by omega) c1 c3] at hb
        omega
      by_cases x4 : s.cur = 2147483647
      · exact pf_P6b3 s _ c w HZ n1 n2 b1 b2 c1 c3 q1 q2 hp' rfl rfl rfl rfl rfl hi hi rfl (by omega) (by omega) rfl rfl rfl rfl rfl rfl
      · exact pf_P6b2_t s _ c w HZ n1 n2 b1 b2 c1 c3 q1 q2 hp' rfl rfl rfl rfl rfl hi hi rfl (by omega) (by omega) (by show s.cur ≤ 2147483647; omega) (by show (2147483647 : Int) ≤ 2147483647; omega) rfl rfl rfl rfl rfl
    · have er : s.paramByte c = { s with pb := (s.pb + 1) % 256, cur := nextCur s.cur c } := by
        rw [PS.paramByte, if_neg hp, if_neg h59, if_neg h58, if_neg (by simp [hi]), if_neg hb]; rfl
      rw [er] at HZ
      cases ho : s.ovf
      · by_cases x1 : s.cur < -1
        · exact pf_P6a_f s _ c w HZ n1 n2 b1 b2 c1 c3 q1 q2 hp' rfl rfl rfl rfl rfl hi hi ho x1 rfl rfl rfl rfl rfl
        by_cases x2 : 2147483647 < s.cur
        · exact pf_P6c_f s _ c w HZ n1 n2 b1 b2 c1 c3 q1 q2 hp' rfl rfl rfl rfl rfl hi hi ho x2 rfl rfl rfl rfl rfl
        by_cases x3 : s.cur = -1
        · exact pf_P6b1_f s _ c w HZ n1 n2 b1 b2 c1 c3 q1 q2 hp' rfl rfl rfl rfl rfl hi hi ho (by omega) (by omega) (nextCur_neg (by omega) c1 c3) rfl rfl rfl rfl rfl
        have hin := nextCur_in (by omega) (by omega) c1 c3 (cur := s.cur)
        have hlt : s.cur < 2147483647 := by rw [hin] at hb; omega
        exact pf_P6b2_f s _ c w HZ n1 n2 b1 b2 c1 c3 q1 q2 hp' rfl rfl rfl rfl rfl hi hi ho (by omega) hlt (by show s.cur ≤ nextCur s.cur c; omega) (by show nextCur s.cur c ≤ 2147483647; omega) rfl rfl rfl rfl rfl
      · by_cases x1 : s.cur < -1
        · exact pf_P6a_t s _ c w HZ n1 n2 b1 b2 c1 c3 q1 q2 hp' rfl rfl rfl rfl rfl hi hi ho x1 rfl rfl rfl rfl rfl
        by_cases x2 : 2147483647 < s.cur
        · exact pf_P6c_t s _ c w HZ n1 n2 b1 b2 c1 c3 q1 q2 hp' rfl rfl rfl rfl rfl hi hi ho x2 rfl rfl rfl rfl rfl
        by_cases x3 : s.cur = -1
        · exact pf_P6b1_t s _ c w HZ n1 n2 b1 b2 c1 c3 q1 q2 hp' rfl rfl rfl rfl rfl hi hi ho (by omega) (by omega) (nextCur_neg (by omega) c1 c3) rfl rfl rfl rfl rfl
        have hin := nextCur_in (by omega) (by omega) c1 c3 (cur := s.cur)
        have hlt : s.cur < 2147483647 := by rw [hin] at hb; omega
        exact pf_P6b2_t s _ c w HZ n1 n2 b1 b2 c1 c3 q1 q2 hp' rfl rfl rfl rfl rfl hi hi ho (by omega) hlt (by show s.cur ≤ nextCur s.cur c; omega) (by show nextCur s.cur c ≤ 2147483647; omega) rfl rfl rfl rfl rfl

theorem own : ownKnob Try.prog.godebug = none := by kernel_rfl
theorem laidOut : laidOutB Try.prog = true := by kernel_rfl

set_option maxRecDepth 100000 in
theorem parFrame_lifted (os : Os) (started : os.Started) (H : Type) (enc : TypeId × Value → H) :
    ReturnsInHanded {} Try.checked os 8 .any (Rows.fnParamByteFrameSpec.pre6 enc Try.prog Try.f8 Rows.fnParamByteFrameRow.domain false) (Rows.fnParamByteFrameSpec.post enc Try.prog Try.f8 false true false false) := by
  refine returnsInHanded_of_change (C := Try.checked) own started (by kernel_rfl) Try.func8
    (ChangeSpec.witness6 (enc := enc) (C := Try.checked) false ⟨#[], #[.agg #[.int .u8 0, .bool false, .bool false, .int .u8 0, .int .u8 0, .int .u8 0, .int .u8 0, .int .u8 0, .int .i32 0, .int .i32 0, .int .i32 0, .int .i32 0, .int .i32 0, .int .i32 0, .int .i32 0, .int .i32 0, .int .i32 0, .int .i32 0, .int .i32 0, .int .i32 0, .int .i32 0, .int .i32 0, .int .i32 0, .int .i32 0, .int .i32 0, .int .i32 0, .int .i32 0, .int .i32 0, .int .i32 0, .int .i32 0, .int .i32 0, .int .u8 0, .int .u32 0, .int .u8 0, .int .i64 0, .bool false, .bool false], .int .u8 0], []⟩ 8 (by kernel_rfl) (by kernel_rfl) (by kernel_rfl) (by kernel_rfl)) ?_
  intro W base args ds gs before hval0 hW hcnd _
  have hval : ∀ (j : Nat) t v, Try.f8.params[j]? = some t → args[j]? = some v → Value.okWide Try.prog W .any base t v := hval0
  have hW' := hW
  obtain ⟨p, q, hA0, hV, rfl, hfz, hnd⟩ := hW
  have hA : DataW.TrodAll enc Try.prog W 0 (fun _ => true) true Try.f8.params.toList args.toList ds p := hA0
  rw [Try.params8] at hA hval
  obtain ⟨v0, vs0, d0, ds0, p0, q0, hargs, rfl, rfl, h0, r0⟩ := trodAll_cons hA
  obtain ⟨v1, vs1, d1, ds1, p1, q1, rfl, rfl, rfl, h1, r1⟩ := trodAll_cons r0
  obtain ⟨rfl, rfl, rfl⟩ := trodAll_nil r1
  obtain rfl : args = #[v0, v1] := by cases args; simp_all
  obtain ⟨rfl, rfl⟩ := trodVars_none hV
  have k0 := h0
  have lt0 : ∀ x ∈ p0, x.block < W.heap.size := by obtain ⟨m, hm⟩ := k0; exact DataW.trod_lt m _ _ _ hm
  obtain ⟨s, rfl, hs⟩ := open28 (hval 0 28 v0 rfl rfl) h0
  obtain ⟨a1, rfl, rfl, rfl, w1⟩ := open_int Try.underlying5 (hval 1 5 v1 rfl rfl) h1
  clear hA0 hval0
  refine (parFrame_any s a1 W (u8_bd hs.np).1 (u8_bd hs.pb).1 (u8_bd hs.pb).2).mono fun e W' ⟨he, bel⟩ => ?_
  subst he
  exact ⟨_, rfl, _, _, _, [], _, [], hW', trodAll_mk1 (shut_bool Try.underlying4 _), (trodAll_cons_mk (Below.trod laidOut (by kernel_rfl) (of_decide_eq_true (by kernel_rfl)) k0 bel lt0) (trodAll_cons_mk (shut_int Try.underlying5 w1) trodAll_mk0)), rfl, bel.frame _, fun h => by cases h⟩

theorem parFrame_holds : Rows.FnParamByteFrameSaid :=
  OpenClaim.holds_of_wide 8 Try.f8 rfl rfl rfl rfl rfl rfl rfl ⟨rfl, rfl, rfl, rfl, rfl⟩ rfl rfl rfl rfl rfl (by kernel_rfl) Try.func8 (by kernel_rfl)
    (of_decide_eq_true (by kernel_rfl)) (by unfold Func.isWrapper; first | (rw [if_pos (by decide +kernel)]; kernel_rfl) | (rw [if_neg (by decide +kernel)]; exact ⟨rfl, rfl⟩))
    (fun os started H enc _ => parFrame_lifted os started H enc)
#print axioms parFrame_holds
end Go.Proofs.Qxb6603776a
