import Derived.Test.Qxb6603776aFrameS1
import Derived.Test.Qxb6603776aFrameS2
import Derived.Test.Qxb6603776aFrameS3
import Derived.Test.Qxb6603776aFrameS4
import Derived.Test.Qxb6603776aFrameS5
import Derived.Test.Qxb6603776aFrameS6
import Derived.Test.Qxb6603776aOpen
import Derived.ChangeOld
namespace Go.Proofs.Qxb6603776a
open Go.ChangeShapes Go.WideShapes Go.ChangeAt Go.RowKit
set_option linter.unusedVariables false
set_option linter.unusedSimpArgs false

set_option maxRecDepth 100000 in
set_option maxHeartbeats 1000000 in
theorem sf_over1 (s : PS) (c : Int) (w : World) (n3 : 3 < s.nin) :
    Calls Try.prog 6 #[.agg s.cells, .int .u8 c] w fun e w' => e = .returned (.bool true) ∧ Below w.heap.size w w' := by
  have k7 := PS.c7 s
  have k31 := PS.c31 s
  go_enter Try.func6, Try.ntmps6
  go_wp2
  go_ret
  exact ⟨rfl, (Below.refl _ _).alloc (Nat.le_refl _) _⟩
set_option maxRecDepth 100000 in
set_option maxHeartbeats 1000000 in
theorem sf_over2 (s : PS) (c : Int) (w : World) (n3 : s.nin ≤ 3) (n4 : 23 < s.np) :
    Calls Try.prog 6 #[.agg s.cells, .int .u8 c] w fun e w' => e = .returned (.bool true) ∧ Below w.heap.size w w' := by
  have k7 := PS.c7 s
  have k31 := PS.c31 s
  go_enter Try.func6, Try.ntmps6
  go_wp2
  go_ret
  exact ⟨rfl, (Below.refl _ _).alloc (Nat.le_refl _) _⟩

/-- A digit or ':' that is taken in. -/
theorem sf_V7 (s r : PS) (c : Int) (w : World) (HZ : ∀ w : World, Calls Try.prog 16 #[.agg s.cells, .int .u8 c] w fun e w' => e = .returned (.tuple #[.agg r.cells, .int .u8 0]) ∧ Below w.heap.size w w')
    (i1 : 0 ≤ s.nin) (i2 : s.nin ≤ 3) (n1 : 0 ≤ s.np) (n2 : s.np ≤ 23) (b1 : 0 ≤ s.pb) (b2 : s.pb ≤ 255)
    (HP : ∀ w : World, Calls Try.prog 18 #[.agg r.cells, .agg s.cells, .int .i64 s.np] w fun e w' => e = .returned (.bool true) ∧ Below w.heap.size w w')
    (HI : ∀ w : World, Calls Try.prog 14 #[.agg r.cells, .agg s.cells, .int .i64 s.nin] w fun e w' => e = .returned (.bool true) ∧ Below w.heap.size w w') (r2 : r.frn = s.frn) (hc : c < 64) (h6 : ¬ s.st = 6) (r0 : r.st = 4) (r1 : r.dis = s.dis) (r3 : r.fin = s.fin) (r32 : r.col = s.col) (r31 : r.np = s.np) (r7 : r.nin = s.nin) (hp : ¬ s.pb = 63) (r33 : r.pb = (s.pb + 1) % 256)
    (hcur : -1 ≤ s.cur → s.cur ≤ 2147483647 → -1 ≤ r.cur ∧ r.cur ≤ 2147483647) :
    Calls Try.prog 6 #[.agg s.cells, .int .u8 c] w fun e w' => e = .returned (.bool true) ∧ Below w.heap.size w w' := by
  have s6 : (s.st == 6) = false := by simpa using h6
  have s6' : (s.st != 6) = true := by simpa using h6
  by_cases hl : s.pb < 63
  · have r33' : r.pb = s.pb + 1 := by rw [r33]; omega
    by_cases x1 : s.cur < -1
    · exact sf_V7al s r c w HZ i1 i2 n1 n2 b1 b2 HP HI r2 hc s6 s6' r0 r1 r3 r32 r31 r7 hl r33' x1
    by_cases x2 : 2147483647 < s.cur
    · exact sf_V7cl s r c w HZ i1 i2 n1 n2 b1 b2 HP HI r2 hc s6 s6' r0 r1 r3 r32 r31 r7 hl r33' x2
    · obtain ⟨y1, y2⟩ := hcur (by omega) (by omega)
      exact sf_V7bl s r c w HZ i1 i2 n1 n2 b1 b2 HP HI r2 hc s6 s6' r0 r1 r3 r32 r31 r7 hl r33' (by omega) (by omega) y1 y2
  · by_cases x1 : s.cur < -1
    · exact sf_V7ah s r c w HZ i1 i2 n1 n2 b1 b2 HP HI r2 hc s6 s6' r0 r1 r3 r32 r31 r7 (by omega) r33 x1
    by_cases x2 : 2147483647 < s.cur
    · exact sf_V7ch s r c w HZ i1 i2 n1 n2 b1 b2 HP HI r2 hc s6 s6' r0 r1 r3 r32 r31 r7 (by omega) r33 x2
    · obtain ⟨y1, y2⟩ := hcur (by omega) (by omega)
      exact sf_V7bh s r c w HZ i1 i2 n1 n2 b1 b2 HP HI r2 hc s6 s6' r0 r1 r3 r32 r31 r7 (by omega) r33 (by omega) (by omega) y1 y2

theorem inter_set_ne' (v : Vector Int 3) (k i : Nat) (x : Int) (hi : i < 3) (h : ¬ i = k) : (v.setIfInBounds k x)[i] = v[i] := by
  rw [Vector.getElem_setIfInBounds, if_neg (fun e => h e.symm)]

theorem seqFrame_any (s : PS) (c : Int) (w : World) (i1 : 0 ≤ s.nin) (n1 : 0 ≤ s.np) (b1 : 0 ≤ s.pb) (b2 : s.pb ≤ 255) :
    Calls Try.prog 6 #[.agg s.cells, .int .u8 c] w fun e w' => e = .returned (.bool true) ∧ Below w.heap.size w w' := by
  by_cases i2 : s.nin ≤ 3
  case neg => exact sf_over1 s c w (by omega)
  by_cases n2 : s.np ≤ 23
  case neg => exact sf_over2 s c w i2 (by omega)
  have HZ := fun w => ZZSequenceByte_any s c w i1 i2 b1 b2 n1 n2
  have HP := fun w => sameParams_any (s.seqByte c) s s.np w
  have HI := fun w => sameInter_any (s.seqByte c) s s.nin w
  by_cases hc : 64 ≤ c
  · by_cases hr : s.refuses = true
    · have er : s.seqByte c = { s with st := 0 } := by rw [PS.seqByte, if_pos hc, if_pos hr]; rfl
      have ek : s.seqKind c = 0 := by rw [PS.seqKind, if_pos (Or.inr hr)]
      rw [er, ek] at HZ
      rw [er] at HP HI
      have HP' := fun w => HP w (fun i hi hne => rfl)
      have HI' := fun w => HI w (fun i hi hne => rfl)
      clear HP HI
      by_cases h6 : s.st = 6
      · cases hd : s.dis
        · exact sf_A1f s _ c w HZ i1 i2 n1 n2 b1 b2 HP' HI' rfl hc (by simpa using h6) (by simpa using h6) hd hd rfl rfl rfl rfl rfl rfl rfl (fun w => by rw [show ({ s with st := 0, dis := false } : PS) = { s with st := 0 } by cases s; simp_all]; exact ten28 _ w)
        · exact sf_A1t s _ c w HZ i1 i2 n1 n2 b1 b2 HP' HI' rfl hc (by simpa using h6) (by simpa using h6) hd hd rfl rfl rfl rfl rfl rfl rfl (fun w => by rw [show ({ s with st := 0, dis := true } : PS) = { s with st := 0 } by cases s; simp_all]; exact ten28 _ w)
      · have s6 : (s.st == 6) = false := by simpa using h6
        have s6' : (s.st != 6) = true := by simpa using h6
        cases hd : s.dis
        · have hk : s.endOk = false := by simpa [PS.refuses, h6, hd] using hr
          by_cases h23 : s.np = 23
          · exact sf_A3a s _ c w HZ i1 i2 n1 n2 b1 b2 HP' HI' rfl hc s6 s6' hd hd (by omega) rfl rfl rfl rfl rfl rfl rfl (fun w => by rw [show ({ s with st := 0, dis := false } : PS) = { s with st := 0 } by cases s; simp_all]; exact ten28 _ w)
          · have ho : s.ovf = true ∧ s.inc = false := by simpa [PS.endOk, h23] using hk
            exact sf_A3b s _ c w HZ i1 i2 n1 n2 b1 b2 HP' HI' rfl hc s6 s6' hd hd (by omega) ho.1 ho.2 rfl rfl rfl rfl rfl rfl rfl (fun w => by
              obtain ⟨o1, o2⟩ := ho
              rw [show ({ s with st := 0, dis := false, ovf := true, inc := false } : PS) = { s with st := 0 } by cases s; simp_all]; exact ten28 _ w)
        · exact sf_A2 s _ c w HZ i1 i2 n1 n2 b1 b2 HP' HI' rfl hc s6 s6' hd hd rfl rfl rfl rfl rfl rfl rfl (fun w => by rw [show ({ s with st := 0, dis := true } : PS) = { s with st := 0 } by cases s; simp_all]; exact ten28 _ w)
    · have hr' : s.refuses = false := by simpa using hr
      have hh : ¬ s.st = 6 ∧ s.dis = false ∧ s.endOk = true := by
        simp [PS.refuses] at hr'
        exact ⟨hr'.1.1, hr'.1.2, hr'.2⟩
      obtain ⟨h6, hd, hk⟩ := hh
      have s6 : (s.st == 6) = false := by simpa using h6
      have s6' : (s.st != 6) = true := by simpa using h6
      have er : s.seqByte c = { (s.at 0).filed with fin := c } := by rw [PS.seqByte, if_pos hc, if_neg hr]
      have ek : s.seqKind c = 4 := by rw [PS.seqKind, if_neg (by simp [hr']; omega)]
      have hn : ¬ s.np = 23 := by intro e; simp [PS.endOk, e] at hk
      rw [er, ek] at HZ
      rw [er] at HP HI
      have HP' := fun w => HP w (fun i hi hne => params_set_ne _ _ _ _ hi (by show ¬ i = s.np.toNat; omega))
      have HI' := fun w => HI w (fun i hi hne => rfl)
      clear HP HI
      have hcol : bits .andNot .u32 ({ (s.at 0).filed with fin := c } : PS).col (2 ^ s.np.toNat % 4294967296) = bits .andNot .u32 s.col (2 ^ s.np.toNat % 4294967296) := by
        show bits .andNot .u32 (if s.inc then bits .or .u32 s.col (2 ^ s.np.toNat % 4294967296) else s.col) _ = _
        split
        · exact clear_or _ _
        · rfl
      cases ho : s.ovf
      · exact sf_A4a s _ c w HZ i1 i2 n1 n2 b1 b2 HP' HI' rfl hc s6 s6' hd hd rfl rfl hcol (by omega) (by simp; omega) rfl rfl rfl rfl rfl rfl ho
      · have hi : s.inc = true := by simpa [PS.endOk, ho, hn] using hk
        exact sf_A4b s _ c w HZ i1 i2 n1 n2 b1 b2 HP' HI' rfl hc s6 s6' hd hd rfl rfl hcol (by omega) (by simp; omega) rfl rfl rfl rfl rfl rfl ho hi
  · have hc' : c < 64 := by omega
    have ek : s.seqKind c = 0 := by rw [PS.seqKind, if_pos (Or.inl hc')]
    rw [ek] at HZ
    by_cases hl : c < 48
    · by_cases h6 : s.st = 6
      · have er : s.seqByte c = s := by rw [PS.seqByte, if_neg hc, if_pos hl, if_pos h6]
        rw [er] at HZ HP HI
        exact sf_V1 s s c w HZ i1 i2 n1 n2 b1 b2 (fun w => HP w (fun i hi hne => rfl)) (fun w => HI w (fun i hi hne => rfl)) rfl hc' h6 rfl rfl rfl rfl rfl rfl rfl
      · have s6 : (s.st == 6) = false := by simpa using h6
        have s6' : (s.st != 6) = true := by simpa using h6
        by_cases h3 : s.nin = 3
        · have er : s.seqByte c = { s with dis := true, st := 5 } := by rw [PS.seqByte, if_neg hc, if_pos hl, if_neg h6, PS.collect, if_pos h3]; rfl
          rw [er] at HZ HP HI
          exact sf_V2_5 s _ c w HZ i1 i2 n1 n2 b1 b2 (fun w => HP w (fun i hi hne => rfl)) (fun w => HI w (fun i hi hne => rfl)) rfl hc' s6 s6' rfl rfl rfl rfl rfl rfl rfl rfl
        · have er : s.seqByte c = { s with inter := s.inter.setIfInBounds s.nin.toNat c, nin := s.nin + 1, st := 5 } := by rw [PS.seqByte, if_neg hc, if_pos hl, if_neg h6, PS.collect, if_neg h3]; rfl
          rw [er] at HZ HP HI
          have hC : ({ s with inter := s.inter.setIfInBounds s.nin.toNat c, nin := s.nin + 1, st := 5 } : PS).cells[4 + s.nin.toNat]? = some (.int .u8 c) := by
            rw [PS.cI _ _ (by omega)]
            simp [Vector.getElem_setIfInBounds]
          exact sf_V3_5 s _ c w HZ i1 i2 n1 n2 b1 b2 (fun w => HP w (fun i hi hne => rfl)) (fun w => HI w (fun i hi hne => inter_set_ne' _ _ _ _ hi (by omega))) rfl hc' s6 s6' rfl rfl rfl rfl rfl (by omega) rfl hC rfl rfl
    · by_cases h56 : s.st = 5 ∨ s.st = 6
      · have er : s.seqByte c = { s with st := 6 } := by rw [PS.seqByte, if_neg hc, if_neg hl, if_pos h56]; rfl
        rw [er] at HZ HP HI
        exact sf_V1 s _ c w HZ i1 i2 n1 n2 b1 b2 (fun w => HP w (fun i hi hne => rfl)) (fun w => HI w (fun i hi hne => rfl)) rfl hc' rfl rfl rfl rfl rfl rfl rfl rfl
      · have h6 : ¬ s.st = 6 := by omega
        have s6 : (s.st == 6) = false := by simpa using h6
        have s6' : (s.st != 6) = true := by simpa using h6
        by_cases h60 : 60 ≤ c
        · by_cases h3 : s.st = 3
          · by_cases hn3 : s.nin = 3
            · have er : s.seqByte c = { s with dis := true, st := 4 } := by rw [PS.seqByte, if_neg hc, if_neg hl, if_neg h56, if_pos h60, if_pos h3, PS.collect, if_pos hn3]; rfl
              rw [er] at HZ HP HI
              exact sf_V2_4 s _ c w HZ i1 i2 n1 n2 b1 b2 (fun w => HP w (fun i hi hne => rfl)) (fun w => HI w (fun i hi hne => rfl)) rfl hc' s6 s6' rfl rfl rfl rfl rfl rfl rfl rfl
            · have er : s.seqByte c = { s with inter := s.inter.setIfInBounds s.nin.toNat c, nin := s.nin + 1, st := 4 } := by rw [PS.seqByte, if_neg hc, if_neg hl, if_neg h56, if_pos h60, if_pos h3, PS.collect, if_neg hn3]; rfl
              rw [er] at HZ HP HI
              have hC : ({ s with inter := s.inter.setIfInBounds s.nin.toNat c, nin := s.nin + 1, st := 4 } : PS).cells[4 + s.nin.toNat]? = some (.int .u8 c) := by
                rw [PS.cI _ _ (by omega)]
                simp [Vector.getElem_setIfInBounds]
              exact sf_V3_4 s _ c w HZ i1 i2 n1 n2 b1 b2 (fun w => HP w (fun i hi hne => rfl)) (fun w => HI w (fun i hi hne => inter_set_ne' _ _ _ _ hi (by omega))) rfl hc' s6 s6' rfl rfl rfl rfl rfl (by omega) rfl hC rfl rfl
          · have er : s.seqByte c = { s with st := 6 } := by rw [PS.seqByte, if_neg hc, if_neg hl, if_neg h56, if_pos h60, if_neg h3]; rfl
            rw [er] at HZ HP HI
            exact sf_V1 s _ c w HZ i1 i2 n1 n2 b1 b2 (fun w => HP w (fun i hi hne => rfl)) (fun w => HI w (fun i hi hne => rfl)) rfl hc' rfl rfl rfl rfl rfl rfl rfl rfl
        · have er0 : s.seqByte c = (s.at 4).paramByte c := by rw [PS.seqByte, if_neg hc, if_neg hl, if_neg h56, if_neg h60]
          by_cases hp : s.pb = 63
          · have er : s.seqByte c = { s with dis := true, st := 4 } := by rw [er0, PS.paramByte, if_pos (show (s.at 4).pb = 63 from hp)]; rfl
            rw [er] at HZ HP HI
            exact sf_V2_4 s _ c w HZ i1 i2 n1 n2 b1 b2 (fun w => HP w (fun i hi hne => rfl)) (fun w => HI w (fun i hi hne => rfl)) rfl hc' s6 s6' rfl rfl rfl rfl rfl rfl rfl rfl
          have hp4 : ¬ (s.at 4).pb = 63 := hp
          by_cases h59 : c = 59
          · subst h59
            by_cases hk : (s.at 4).bump.endOk = true
            · have er : s.seqByte 59 = (s.at 4).bump.filed := by rw [er0, PS.paramByte, if_neg hp4, if_pos rfl, if_pos hk]
              rw [er] at HZ HP HI
              have hn : ¬ s.np = 23 := by intro e; simp [PS.endOk, PS.bump, PS.at, e] at hk
              have hcol : bits .andNot .u32 (s.at 4).bump.filed.col (2 ^ s.np.toNat % 4294967296) = bits .andNot .u32 s.col (2 ^ s.np.toNat % 4294967296) := by
                show bits .andNot .u32 (if s.inc then bits .or .u32 s.col (2 ^ s.np.toNat % 4294967296) else s.col) _ = _
                split
                · exact clear_or _ _
                · rfl
              have HP' := fun w => HP w (fun i hi hne => params_set_ne _ _ _ _ hi (by show ¬ i = s.np.toNat; omega))
              have HI' := fun w => HI w (fun i hi hne => rfl)
              by_cases hl63 : s.pb < 63
              · exact sf_V5l s _ 59 w HZ i1 i2 n1 n2 b1 b2 HP' HI' rfl hc' s6 s6' rfl rfl rfl hcol (by omega) (by simp; omega) rfl rfl hl63 (by show (s.pb + 1) % 256 = s.pb + 1; omega) rfl
              · exact sf_V5h s _ 59 w HZ i1 i2 n1 n2 b1 b2 HP' HI' rfl hc' s6 s6' rfl rfl rfl hcol (by omega) (by simp; omega) rfl rfl (by omega) rfl rfl
            · have er : s.seqByte 59 = { s with st := 4, pb := (s.pb + 1) % 256, dis := true } := by rw [er0, PS.paramByte, if_neg hp4, if_pos rfl, if_neg hk]; rfl
              rw [er] at HZ HP HI
              have HP' := fun w => HP w (fun i hi hne => rfl)
              have HI' := fun w => HI w (fun i hi hne => rfl)
              by_cases hl63 : s.pb < 63
              · exact sf_V6l s _ 59 w HZ i1 i2 n1 n2 b1 b2 HP' HI' rfl hc' s6 s6' rfl rfl rfl rfl rfl rfl hl63 (by show (s.pb + 1) % 256 = s.pb + 1; omega) rfl
              · exact sf_V6h s _ 59 w HZ i1 i2 n1 n2 b1 b2 HP' HI' rfl hc' s6 s6' rfl rfl rfl rfl rfl rfl (by omega) rfl rfl
          by_cases h58 : c = 58
          · subst h58
            have er : s.seqByte 58 = { s with st := 4, pb := (s.pb + 1) % 256, inc := true } := by rw [er0, PS.paramByte, if_neg hp4, if_neg (by decide), if_pos rfl]; rfl
            rw [er] at HZ HP HI
            exact sf_V7 s _ 58 w HZ i1 i2 n1 n2 b1 b2 (fun w => HP w (fun i hi hne => rfl)) (fun w => HI w (fun i hi hne => rfl)) rfl hc' h6 rfl rfl rfl rfl rfl rfl hp rfl (fun x y => ⟨x, y⟩)
          cases hi : s.inc
          · have hi4 : ¬ (s.at 4).inc = true := by show ¬ s.inc = true; simp [hi]
            have hcn : (s.at 4).cur = s.cur := rfl
            by_cases hb : 2147483647 < nextCur s.cur c
            · have er : s.seqByte c = { s with st := 4, pb := (s.pb + 1) % 256, ovf := true, cur := 2147483647 } := by
                rw [er0, PS.paramByte, if_neg hp4, if_neg h59, if_neg h58, if_neg hi4, hcn, if_pos hb]; rfl
              rw [er] at HZ HP HI
              exact sf_V7 s _ c w HZ i1 i2 n1 n2 b1 b2 (fun w => HP w (fun i hi hne => rfl)) (fun w => HI w (fun i hi hne => rfl)) rfl hc' h6 rfl rfl rfl rfl rfl rfl hp rfl (fun x y => by show -1 ≤ (2147483647 : Int) ∧ (2147483647 : Int) ≤ 2147483647; omega)
            · have er : s.seqByte c = { s with st := 4, pb := (s.pb + 1) % 256, cur := nextCur s.cur c } := by
                rw [er0, PS.paramByte, if_neg hp4, if_neg h59, if_neg h58, if_neg hi4, hcn, if_neg hb]; rfl
              rw [er] at HZ HP HI
              refine sf_V7 s _ c w HZ i1 i2 n1 n2 b1 b2 (fun w => HP w (fun i hi hne => rfl)) (fun w => HI w (fun i hi hne => rfl)) rfl hc' h6 rfl rfl rfl rfl rfl rfl hp rfl (fun x y => ?_)
              show -1 ≤ nextCur s.cur c ∧ nextCur s.cur c ≤ 2147483647
              by_cases hneg : s.cur < 0
              · rw [nextCur_neg hneg (by omega) (by omega)]; omega
              · have := nextCur_in (by omega) y (show 48 ≤ c by omega) (show c ≤ 57 by omega)
                omega
          · have er : s.seqByte c = { s with st := 4, pb := (s.pb + 1) % 256 } := by
              rw [er0, PS.paramByte, if_neg hp4, if_neg h59, if_neg h58, if_pos (show (s.at 4).inc = true from hi)]; rfl
            rw [er] at HZ HP HI
            exact sf_V7 s _ c w HZ i1 i2 n1 n2 b1 b2 (fun w => HP w (fun i hi hne => rfl)) (fun w => HI w (fun i hi hne => rfl)) rfl hc' h6 rfl rfl rfl rfl rfl rfl hp rfl (fun x y => ⟨x, y⟩)

theorem own : ownKnob Try.prog.godebug = none := by kernel_rfl
theorem laidOut : laidOutB Try.prog = true := by kernel_rfl

set_option maxRecDepth 100000 in
theorem seqFrame_lifted (os : Os) (started : os.Started) (H : Type) (enc : TypeId × Value → H) :
    ReturnsInHanded {} Try.checked os 6 .any (Rows.fnSequenceByteFrameSpec.pre6 enc Try.prog Try.f6 Rows.fnSequenceByteFrameRow.domain false) (Rows.fnSequenceByteFrameSpec.post enc Try.prog Try.f6 false true false false) := by
  refine returnsInHanded_of_change (C := Try.checked) own started (by kernel_rfl) Try.func6
    (ChangeSpec.witness6 (enc := enc) (C := Try.checked) false ⟨#[], #[.agg #[.int .u8 0, .bool false, .bool false, .int .u8 0, .int .u8 0, .int .u8 0, .int .u8 0, .int .u8 0, .int .i32 0, .int .i32 0, .int .i32 0, .int .i32 0, .int .i32 0, .int .i32 0, .int .i32 0, .int .i32 0, .int .i32 0, .int .i32 0, .int .i32 0, .int .i32 0, .int .i32 0, .int .i32 0, .int .i32 0, .int .i32 0, .int .i32 0, .int .i32 0, .int .i32 0, .int .i32 0, .int .i32 0, .int .i32 0, .int .i32 0, .int .u8 0, .int .u32 0, .int .u8 0, .int .i64 0, .bool false, .bool false], .int .u8 0], []⟩ 8 (by kernel_rfl) (by kernel_rfl) (by kernel_rfl) (by kernel_rfl)) ?_
  intro W base args ds gs before hval0 hW hcnd _
  have hval : ∀ (j : Nat) t v, Try.f6.params[j]? = some t → args[j]? = some v → Value.okWide Try.prog W .any base t v := hval0
  have hW' := hW
  obtain ⟨p, q, hA0, hV, rfl, hfz, hnd⟩ := hW
  have hA : DataW.TrodAll enc Try.prog W 0 (fun _ => true) true Try.f6.params.toList args.toList ds p := hA0
  rw [Try.params6] at hA hval
  obtain ⟨v0, vs0, d0, ds0, p0, q0, hargs, rfl, rfl, h0, r0⟩ := trodAll_cons hA
  obtain ⟨v1, vs1, d1, ds1, p1, q1, rfl, rfl, rfl, h1, r1⟩ := trodAll_cons r0
  obtain ⟨rfl, rfl, rfl⟩ := trodAll_nil r1
  obtain rfl : args = #[v0, v1] := by cases args; simp_all
  obtain ⟨rfl, rfl⟩ := trodVars_none hV
  have k0 := h0
  have lt0 : ∀ x ∈ p0, x.block < W.heap.size := by obtain ⟨m, hm⟩ := k0; exact DataW.trod_lt m _ _ _ hm
  obtain ⟨s, rfl, hs⟩ := open28 (hval 0 28 v0 rfl rfl) h0
  obtain ⟨a1, rfl, rfl, rfl, w1⟩ := open_int Try.underlying5 (hval 1 5 v1 rfl rfl) h1
  clear hA0 hval0
  refine (seqFrame_any s a1 W (u8_bd hs.nin).1 (u8_bd hs.np).1 (u8_bd hs.pb).1 (u8_bd hs.pb).2).mono fun e W' ⟨he, bel⟩ => ?_
  subst he
  exact ⟨_, rfl, _, _, _, [], _, [], hW', trodAll_mk1 (shut_bool Try.underlying4 _), (trodAll_cons_mk (Below.trod laidOut (by kernel_rfl) (of_decide_eq_true (by kernel_rfl)) k0 bel lt0) (trodAll_cons_mk (shut_int Try.underlying5 w1) trodAll_mk0)), rfl, bel.frame _, fun h => by cases h⟩

theorem seqFrame_holds : Rows.FnSequenceByteFrameSaid :=
  OpenClaim.holds_of_wide 6 Try.f6 rfl rfl rfl rfl rfl rfl rfl ⟨rfl, rfl, rfl, rfl, rfl⟩ rfl rfl rfl rfl rfl (by kernel_rfl) Try.func6 (by kernel_rfl)
    (of_decide_eq_true (by kernel_rfl)) (by unfold Func.isWrapper; first | (rw [if_pos (by decide +kernel)]; kernel_rfl) | (rw [if_neg (by decide +kernel)]; exact ⟨rfl, rfl⟩))
    (fun os started H enc _ => seqFrame_lifted os started H enc)
#print axioms seqFrame_holds
end Go.Proofs.Qxb6603776a
