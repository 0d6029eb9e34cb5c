import Derived.Test.Qxb6603776aFrameE1
import Derived.Test.Qxb6603776aFrameE2
import Derived.Test.Qxb6603776aFrameE3
import Derived.Test.Qxb6603776aFrameE4
import Derived.Test.Qxb6603776aOpen
import Derived.ChangeOld
namespace Go.Proofs.Qxb6603776a
open Go.ChangeShapes Go.WideShapes Go.ChangeAt Go.RowKit
set_option linter.unusedVariables false
set_option linter.unusedSimpArgs false

theorem inter_set_ne (v : Vector Int 3) (k i : Nat) (x : Int) (hi : i < 3) (h : ¬ i = k) : (v.setIfInBounds k x)[i] = v[i] := by
  rw [Vector.getElem_setIfInBounds]
  rw [if_neg (fun e => h e.symm)]

set_option maxRecDepth 100000 in
set_option maxHeartbeats 1000000 in
theorem frame_over (s : PS) (c : Int) (w : World) (n3 : 3 < s.nin) :
    Calls Try.prog 4 #[.agg s.cells, .int .u8 c] w fun e w' => e = .returned (.bool true) ∧ Below w.heap.size w w' := by
  have k7 := PS.c7 s
  go_enter Try.func4, Try.ntmps4
  go_wp2
  go_ret
  exact ⟨rfl, (Below.refl _ _).alloc (Nat.le_refl _) _⟩

theorem escFrame_any (s : PS) (c : Int) (w : World) (n1 : 0 ≤ s.nin) :
    Calls Try.prog 4 #[.agg s.cells, .int .u8 c] w fun e w' => e = .returned (.bool true) ∧ Below w.heap.size w w' := by
  by_cases n2 : s.nin ≤ 3
  case neg => exact frame_over s c w (by omega)
  have HZ := fun w => ZZEscapeByte_any s c w n1 n2
  have HI := fun w => sameInter_any (s.escByte c) s s.nin w
  by_cases hc : c < 48
  · have hk : s.escKind c = 0 := by rw [PS.escKind, if_pos (Or.inl hc)]
    rw [hk] at HZ
    by_cases h3 : s.nin = 3
    · have er : s.escByte c = { s with dis := true, st := 2 } := by rw [PS.escByte, if_pos hc, PS.collect, if_pos h3]
      rw [er] at HZ HI
      have HI' := fun w => HI w (fun i hi hne => rfl)
      clear HI
      cases hd : s.dis
      · exact frame_A_false s _ c w HZ n1 n2 hc hd rfl rfl rfl rfl rfl rfl rfl rfl rfl rfl rfl rfl rfl HI'
      · exact frame_A_true s _ c w HZ n1 n2 hc hd rfl rfl rfl rfl rfl rfl rfl rfl rfl rfl rfl rfl rfl HI'
    · have er : s.escByte c = { s with inter := s.inter.setIfInBounds s.nin.toNat c, nin := s.nin + 1, st := 2 } := by rw [PS.escByte, if_pos hc, PS.collect, if_neg h3]
      rw [er] at HZ HI
      have HI' := fun w => HI w (fun i hi hne => inter_set_ne _ _ _ _ hi (by omega))
      clear HI
      have hC : ({ s with inter := s.inter.setIfInBounds s.nin.toNat c, nin := s.nin + 1, st := 2 } : PS).cells[4 + s.nin.toNat]? = some (.int .u8 c) := by
        rw [PS.cI _ _ (by omega)]
        simp [Vector.getElem_setIfInBounds]
      cases hd : s.dis
      · exact frame_B_false s _ c w HZ n1 n2 hc (by omega) hd rfl hd rfl rfl rfl rfl hC rfl rfl rfl rfl rfl rfl HI'
      · exact frame_B_true s _ c w HZ n1 n2 hc (by omega) hd rfl hd rfl rfl rfl rfl hC rfl rfl rfl rfl rfl rfl HI'
  · have hc' : 48 ≤ c := by omega
    by_cases h2 : s.st = 2
    · have hq : s.isIntro c = false := by simp [PS.isIntro, h2]
      have er : s.escByte c = s.escEnd c := by rw [PS.escByte, if_neg hc, if_pos h2]
      rw [er] at HZ HI
      cases hd : s.dis
      · have hk : s.escKind c = 3 := by rw [PS.escKind, if_neg (by simp [hq, hd]; omega)]
        have ee : s.escEnd c = { s with st := 0, fin := c } := by simp [PS.escEnd, hd]
        rw [hk, ee] at HZ
        rw [ee] at HI
        exact frame_C s _ c w HZ n1 n2 hc' h2 hd rfl hd rfl rfl rfl rfl rfl rfl rfl rfl rfl rfl rfl (fun w => HI w (fun i hi hne => rfl))
      · have hk : s.escKind c = 0 := by rw [PS.escKind, if_pos (by simp [hd])]
        have ee : s.escEnd c = { s with st := 0 } := by simp [PS.escEnd, hd]
        rw [hk, ee] at HZ
        rw [ee] at HI
        exact frame_D s _ c w HZ n1 n2 hc' h2 hd rfl hd rfl rfl rfl rfl rfl rfl rfl rfl rfl rfl rfl (fun w => HI w (fun i hi hne => rfl))
    · have h2' : (s.st == 2) = false := by simpa using h2
      by_cases h91 : c = 91
      · subst h91
        have hq : s.isIntro 91 = true := by simp [PS.isIntro, h2]
        have hk : s.escKind 91 = 0 := by rw [PS.escKind, if_pos (by simp [hq])]
        have er : s.escByte 91 = { s with st := 3, np := 0, col := 0, pb := 0, cur := -1, inc := false, ovf := false } := by simp [PS.escByte, h2]
        rw [hk, er] at HZ
        rw [er] at HI
        cases hd : s.dis
        · exact frame_E_false s _ w HZ n1 n2 h2' hd rfl hd rfl rfl rfl rfl rfl rfl rfl rfl rfl rfl rfl (fun w => HI w (fun i hi hne => rfl))
        · exact frame_E_true s _ w HZ n1 n2 h2' hd rfl hd rfl rfl rfl rfl rfl rfl rfl rfl rfl rfl rfl (fun w => HI w (fun i hi hne => rfl))
      · have h91' : (c == 91) = false := by simpa using h91
        by_cases hq : s.isIntro c = true
        · obtain ⟨q, q0, er⟩ : ∃ q : Int, ¬ q = 0 ∧ s.escByte c = { s with st := q } := by
            rw [PS.escByte, if_neg hc, if_neg h2, if_neg h91]
            by_cases a : c = 80
            · exact ⟨7, by decide, by rw [if_pos a]⟩
            by_cases b : c = 93
            · exact ⟨12, by decide, by rw [if_neg a, if_pos b]⟩
            by_cases e : c = 88 ∨ c = 94 ∨ c = 95 ∨ c = 107
            · exact ⟨13, by decide, by rw [if_neg a, if_neg b, if_pos e]⟩
            · simp [PS.isIntro, h91, a, b] at hq
              omega
          have hk : s.escKind c = 0 := by rw [PS.escKind, if_pos (by simp [hq])]
          rw [hk, er] at HZ
          rw [er] at HI
          have q0' : (q == 0) = false := by simpa using q0
          cases hd : s.dis
          · exact frame_F_false s _ c w HZ n1 n2 hc' h91' h2' hd q0' hd rfl rfl rfl rfl rfl rfl rfl rfl rfl rfl rfl (fun w => HI w (fun i hi hne => rfl))
          · exact frame_F_true s _ c w HZ n1 n2 hc' h91' h2' hd q0' hd rfl rfl rfl rfl rfl rfl rfl rfl rfl rfl rfl (fun w => HI w (fun i hi hne => rfl))
        · have hq' : s.isIntro c = false := by simpa using hq
          have er : s.escByte c = s.escEnd c := by
            simp [PS.isIntro, h2] at hq'
            rw [PS.escByte, if_neg hc, if_neg h2, if_neg h91, if_neg (by omega), if_neg (by omega), if_neg (by omega)]
          rw [er] at HZ HI
          cases hd : s.dis
          · have hk : s.escKind c = 3 := by rw [PS.escKind, if_neg (by simp [hq', hd]; omega)]
            have ee : s.escEnd c = { s with st := 0, fin := c } := by simp [PS.escEnd, hd]
            rw [hk, ee] at HZ
            rw [ee] at HI
            exact frame_I s _ c w HZ n1 n2 hc' h91' h2' hd rfl hd rfl rfl rfl rfl rfl rfl rfl rfl rfl rfl rfl (fun w => HI w (fun i hi hne => rfl))
          · have hk : s.escKind c = 0 := by rw [PS.escKind, if_pos (by simp [hd])]
            have ee : s.escEnd c = { s with st := 0 } := by simp [PS.escEnd, hd]
            rw [hk, ee] at HZ
            rw [ee] at HI
            exact frame_J s _ c w HZ n1 n2 hc' h91' h2' hd rfl hd rfl rfl rfl rfl rfl rfl rfl rfl rfl rfl rfl (fun w => HI w (fun i hi hne => rfl))

theorem own : ownKnob Try.prog.godebug = none := by kernel_rfl
theorem laidOut : laidOutB Try.prog = true := by kernel_rfl

set_option maxRecDepth 100000 in
theorem escFrame_lifted (os : Os) (started : os.Started) (H : Type) (enc : TypeId × Value → H) :
    ReturnsInHanded {} Try.checked os 4 .any (Rows.fnEscapeByteFrameSpec.pre6 enc Try.prog Try.f4 Rows.fnEscapeByteFrameRow.domain false) (Rows.fnEscapeByteFrameSpec.post enc Try.prog Try.f4 false true false false) := by
  refine returnsInHanded_of_change (C := Try.checked) own started (by kernel_rfl) Try.func4
    (ChangeSpec.witness6 (enc := enc) (C := Try.checked) false ⟨#[], #[.agg #[.int .u8 0, .bool false, .bool false, .int .u8 0, .int .u8 0, .int .u8 0, .int .u8 0, .int .u8 0, .int .i32 0, .int .i32 0, .int .i32 0, .int .i32 0, .int .i32 0, .int .i32 0, .int .i32 0, .int .i32 0, .int .i32 0, .int .i32 0, .int .i32 0, .int .i32 0, .int .i32 0, .int .i32 0, .int .i32 0, .int .i32 0, .int .i32 0, .int .i32 0, .int .i32 0, .int .i32 0, .int .i32 0, .int .i32 0, .int .i32 0, .int .u8 0, .int .u32 0, .int .u8 0, .int .i64 0, .bool false, .bool false], .int .u8 0], []⟩ 8 (by kernel_rfl) (by kernel_rfl) (by kernel_rfl) (by kernel_rfl)) ?_
  intro W base args ds gs before hval0 hW hcnd _
  have hval : ∀ (j : Nat) t v, Try.f4.params[j]? = some t → args[j]? = some v → Value.okWide Try.prog W .any base t v := hval0
  have hW' := hW
  obtain ⟨p, q, hA0, hV, rfl, hfz, hnd⟩ := hW
  have hA : DataW.TrodAll enc Try.prog W 0 (fun _ => true) true Try.f4.params.toList args.toList ds p := hA0
  rw [Try.params4] at hA hval
  obtain ⟨v0, vs0, d0, ds0, p0, q0, hargs, rfl, rfl, h0, r0⟩ := trodAll_cons hA
  obtain ⟨v1, vs1, d1, ds1, p1, q1, rfl, rfl, rfl, h1, r1⟩ := trodAll_cons r0
  obtain ⟨rfl, rfl, rfl⟩ := trodAll_nil r1
  obtain rfl : args = #[v0, v1] := by cases args; simp_all
  obtain ⟨rfl, rfl⟩ := trodVars_none hV
  have k0 := h0
  have lt0 : ∀ x ∈ p0, x.block < W.heap.size := by obtain ⟨m, hm⟩ := k0; exact DataW.trod_lt m _ _ _ hm
  obtain ⟨s, rfl, hs⟩ := open28 (hval 0 28 v0 rfl rfl) h0
  obtain ⟨a1, rfl, rfl, rfl, w1⟩ := open_int Try.underlying5 (hval 1 5 v1 rfl rfl) h1
  clear hA0 hval0
  refine (escFrame_any s a1 W (u8_bd hs.nin).1).mono fun e W' ⟨he, bel⟩ => ?_
  subst he
  exact ⟨_, rfl, _, _, _, [], _, [], hW', trodAll_mk1 (shut_bool Try.underlying4 _), (trodAll_cons_mk (Below.trod laidOut (by kernel_rfl) (of_decide_eq_true (by kernel_rfl)) k0 bel lt0) (trodAll_cons_mk (shut_int Try.underlying5 w1) trodAll_mk0)), rfl, bel.frame _, fun h => by cases h⟩

theorem escFrame_holds : Rows.FnEscapeByteFrameSaid :=
  OpenClaim.holds_of_wide 4 Try.f4 rfl rfl rfl rfl rfl rfl rfl ⟨rfl, rfl, rfl, rfl, rfl⟩ rfl rfl rfl rfl rfl (by kernel_rfl) Try.func4 (by kernel_rfl)
    (of_decide_eq_true (by kernel_rfl)) (by unfold Func.isWrapper; first | (rw [if_pos (by decide +kernel)]; kernel_rfl) | (rw [if_neg (by decide +kernel)]; exact ⟨rfl, rfl⟩))
    (fun os started H enc _ => escFrame_lifted os started H enc)
#print axioms escFrame_holds
end Go.Proofs.Qxb6603776a
