import Derived.Test.Qxb6603776aPS
import Derived.ProofKit
import Derived.OpenShut
import Derived.Below
namespace Go.Proofs.Qxb6603776a
open Go.ChangeShapes Go.WideShapes Go.ChangeAt Go.RowKit
set_option linter.unusedSimpArgs false

def boolOf : Value → Bool | .bool b => b | _ => false
def PS.of (cs : Array Value) : PS :=
  { st := intOf (cs.getD 0 undef), dis := boolOf (cs.getD 1 undef), frn := boolOf (cs.getD 2 undef), fin := intOf (cs.getD 3 undef), inter := Vector.ofFn fun i => intOf (cs.getD (4 + i.val) undef),
    nin := intOf (cs.getD 7 undef), params := Vector.ofFn fun i => intOf (cs.getD (8 + i.val) undef), np := intOf (cs.getD 31 undef), col := intOf (cs.getD 32 undef), pb := intOf (cs.getD 33 undef),
    cur := intOf (cs.getD 34 undef), inc := boolOf (cs.getD 35 undef), ovf := boolOf (cs.getD 36 undef) }
structure PS.ok (s : PS) : Prop where
  st : (Lit.int .u8 s.st).wf = true
  fin : (Lit.int .u8 s.fin).wf = true
  nin : (Lit.int .u8 s.nin).wf = true
  np : (Lit.int .u8 s.np).wf = true
  col : (Lit.int .u32 s.col).wf = true
  pb : (Lit.int .u8 s.pb).wf = true
  cur : (Lit.int .i64 s.cur).wf = true
  inter : ∀ (i : Nat) (h : i < 3), (Lit.int .u8 s.inter[i]).wf = true
  params : ∀ (i : Nat) (h : i < 23), (Lit.int .i32 s.params[i]).wf = true

theorem cells24 : Try.prog.cellsOf 24 = 3 := by kernel_rfl
theorem cells25 : Try.prog.cellsOf 25 = 23 := by kernel_rfl
theorem cells28 : Try.prog.cellsOf 28 = 37 := by kernel_rfl
theorem cells5 : Try.prog.cellsOf 5 = 1 := by kernel_rfl
theorem cells21 : Try.prog.cellsOf 21 = 1 := by kernel_rfl
theorem cells26 : Try.prog.cellsOf 26 = 1 := by kernel_rfl
theorem cells2 : Try.prog.cellsOf 2 = 1 := by kernel_rfl
theorem cells4 : Try.prog.cellsOf 4 = 1 := by kernel_rfl

theorem take1 {l : List Value} {k : Nat} {v : Value} (h : (l.drop k).take 1 = [v]) : l[k]? = some v := by
  have := congrArg (·[0]?) h
  simpa [List.getElem?_take] using this

section
variable {H : Type} {enc : TypeId × Value → H} {W : World} {base : Nat} {spare : Nat → Bool} {held : Bool}
theorem open28 {r : Reach} {b0 : Nat} {v : Value} {d : DataW H} {p : List MemPlace} (hv : Value.okWide Try.prog W r b0 28 v) (h : DataW.Trod enc Try.prog W base spare held 28 v d p) :
    ∃ s : PS, v = .agg s.cells ∧ s.ok := by
  obtain ⟨cs, rfl, hsz⟩ := okWide_struct Try.underlying28 hv
  rw [cells28] at hsz
  obtain ⟨fuel, hf⟩ := h
  have hcs : (Value.agg cs).cells.toList = cs.toList := rfl
  rw [hcs] at hf
  obtain ⟨xs, n, _, _, hl, hlen, hg⟩ := DataW.trod_struct Try.underlying28 hf
  have key : ∀ (i : Nat) (f : Field), _ → ∃ y, DataW.trod enc Try.prog W base spare held n f.type ((cs.toList.drop f.offset).take (Try.prog.cellsOf f.type)) = some y := fun i f hfi => by
    have h1 := hg i f hfi
    have hi : i < xs.length := by rw [hlen]; exact (Array.getElem?_eq_some_iff.1 hfi).1
    exact ⟨xs[i], by rw [h1]; exact List.getElem?_eq_getElem hi⟩
  clear hg hlen hl
  obtain ⟨y0, t0⟩ := key 0 ⟨"State", 5, 0, false, "", "", 0⟩ rfl
  simp only at t0
  rw [cells5] at t0
  obtain ⟨v0, e0, _, w0⟩ := DataW.trod_int Try.underlying5 t0
  have c0 := take1 e0
  obtain ⟨y1, t1⟩ := key 1 ⟨"Discard", 4, 1, false, "", "", 1⟩ rfl
  simp only at t1
  rw [cells4] at t1
  obtain ⟨v1, e1, _⟩ := DataW.trod_bool Try.underlying4 t1
  have c1 := take1 e1
  obtain ⟨y2, t2⟩ := key 2 ⟨"Foreign", 4, 2, false, "", "", 2⟩ rfl
  simp only at t2
  rw [cells4] at t2
  obtain ⟨v2, e2, _⟩ := DataW.trod_bool Try.underlying4 t2
  have c2 := take1 e2
  obtain ⟨y3, t3⟩ := key 3 ⟨"Final", 5, 3, false, "", "", 3⟩ rfl
  simp only at t3
  rw [cells5] at t3
  obtain ⟨v3, e3, _, w3⟩ := DataW.trod_int Try.underlying5 t3
  have c3 := take1 e3
  obtain ⟨y4, t4⟩ := key 4 ⟨"Inter", 24, 4, false, "", "", 4⟩ rfl
  simp only at t4
  rw [cells24] at t4
  obtain ⟨z4, m4, _, _, _, l4, a4⟩ := DataW.trod_array Try.underlying24 t4
  have c4 : ∀ i, i < 3 → ∃ q, cs.toList[4 + i]? = some (.int .u8 q) ∧ (Lit.int .u8 q).wf = true := fun i hi => by
    have b := a4 i hi
    rw [List.getElem?_eq_getElem (by omega), cells5] at b
    obtain ⟨q, eq, _, wq⟩ := DataW.trod_int Try.underlying5 b
    rw [List.drop_take, List.take_take, List.drop_drop, Nat.min_eq_left (by omega), Nat.mul_one] at eq
    exact ⟨q, take1 eq, wq⟩
  obtain ⟨y5, t5⟩ := key 5 ⟨"Ninter", 5, 7, false, "", "", 7⟩ rfl
  simp only at t5
  rw [cells5] at t5
  obtain ⟨v7, e7, _, w7⟩ := DataW.trod_int Try.underlying5 t5
  have c7 := take1 e7
  obtain ⟨y6, t6⟩ := key 6 ⟨"Params", 25, 8, false, "", "", 8⟩ rfl
  simp only at t6
  rw [cells25] at t6
  obtain ⟨z6, m6, _, _, _, l6, a6⟩ := DataW.trod_array Try.underlying25 t6
  have c8 : ∀ i, i < 23 → ∃ q, cs.toList[8 + i]? = some (.int .i32 q) ∧ (Lit.int .i32 q).wf = true := fun i hi => by
    have b := a6 i hi
    rw [List.getElem?_eq_getElem (by omega), cells21] at b
    obtain ⟨q, eq, _, wq⟩ := DataW.trod_int Try.underlying21 b
    rw [List.drop_take, List.take_take, List.drop_drop, Nat.min_eq_left (by omega), Nat.mul_one] at eq
    exact ⟨q, take1 eq, wq⟩
  obtain ⟨y7, t7⟩ := key 7 ⟨"Nparam", 5, 31, false, "", "", 100⟩ rfl
  simp only at t7
  rw [cells5] at t7
  obtain ⟨v31, e31, _, w31⟩ := DataW.trod_int Try.underlying5 t7
  have c31 := take1 e31
  obtain ⟨y8, t8⟩ := key 8 ⟨"Colons", 26, 32, false, "", "", 104⟩ rfl
  simp only at t8
  rw [cells26] at t8
  obtain ⟨v32, e32, _, w32⟩ := DataW.trod_int Try.underlying26 t8
  have c32 := take1 e32
  obtain ⟨y9, t9⟩ := key 9 ⟨"ParamBytes", 5, 33, false, "", "", 108⟩ rfl
  simp only at t9
  rw [cells5] at t9
  obtain ⟨v33, e33, _, w33⟩ := DataW.trod_int Try.underlying5 t9
  have c33 := take1 e33
  obtain ⟨y10, t10⟩ := key 10 ⟨"Cur", 2, 34, false, "", "", 112⟩ rfl
  simp only at t10
  rw [cells2] at t10
  obtain ⟨v34, e34, _, w34⟩ := DataW.trod_int Try.underlying2 t10
  have c34 := take1 e34
  obtain ⟨y11, t11⟩ := key 11 ⟨"InColon", 4, 35, false, "", "", 120⟩ rfl
  simp only at t11
  rw [cells4] at t11
  obtain ⟨v35, e35, _⟩ := DataW.trod_bool Try.underlying4 t11
  have c35 := take1 e35
  obtain ⟨y12, t12⟩ := key 12 ⟨"Overflow", 4, 36, false, "", "", 121⟩ rfl
  simp only at t12
  rw [cells4] at t12
  obtain ⟨v36, e36, _⟩ := DataW.trod_bool Try.underlying4 t12
  have c36 := take1 e36
  simp only [Array.getElem?_toList] at c0 c1 c2 c3 c4 c7 c8 c31 c32 c33 c34 c35 c36
  have d : ∀ {k : Nat} {x : Value}, cs[k]? = some x → cs.getD k undef = x := fun h => by simp [h]
  refine ⟨PS.of cs, ?_, ?_⟩
  · congr 1
    apply Array.ext_getElem?
    intro i
    by_cases hi : 37 ≤ i
    · rw [Array.getElem?_eq_none (by omega), Array.getElem?_eq_none (by rw [PS.cells_size]; omega)]
    by_cases q0 : i = 0
    · subst q0; rw [PS.c0, c0, PS.of, d c0]; rfl
    by_cases q1 : i = 1
    · subst q1; rw [PS.c1, c1, PS.of, d c1]; rfl
    by_cases q2 : i = 2
    · subst q2; rw [PS.c2, c2, PS.of, d c2]; rfl
    by_cases q3 : i = 3
    · subst q3; rw [PS.c3, c3, PS.of, d c3]; rfl
    by_cases q6 : i < 7
    · obtain ⟨j, rfl⟩ : ∃ j, i = 4 + j := ⟨i - 4, by omega⟩
      obtain ⟨q, eq, _⟩ := c4 j (by omega)
      rw [PS.cI _ j (by omega), eq]
      simp [PS.of, eq, intOf]
    by_cases q7 : i = 7
    · subst q7; rw [PS.c7, c7, PS.of, d c7]; rfl
    by_cases q30 : i < 31
    · obtain ⟨j, rfl⟩ : ∃ j, i = 8 + j := ⟨i - 8, by omega⟩
      obtain ⟨q, eq, _⟩ := c8 j (by omega)
      rw [PS.cP _ j (by omega), eq]
      simp [PS.of, eq, intOf]
    by_cases q31 : i = 31
    · subst q31; rw [PS.c31, c31, PS.of, d c31]; rfl
    by_cases q32 : i = 32
    · subst q32; rw [PS.c32, c32, PS.of, d c32]; rfl
    by_cases q33 : i = 33
    · subst q33; rw [PS.c33, c33, PS.of, d c33]; rfl
    by_cases q34 : i = 34
    · subst q34; rw [PS.c34, c34, PS.of, d c34]; rfl
    by_cases q35 : i = 35
    · subst q35; rw [PS.c35, c35, PS.of, d c35]; rfl
    · obtain rfl : i = 36 := by omega
      rw [PS.c36, c36, PS.of, d c36]; rfl
  · refine ⟨?_, ?_, ?_, ?_, ?_, ?_, ?_, ?_, ?_⟩
    · rw [PS.of, d c0]; exact w0
    · rw [PS.of, d c3]; exact w3
    · rw [PS.of, d c7]; exact w7
    · rw [PS.of, d c31]; exact w31
    · rw [PS.of, d c32]; exact w32
    · rw [PS.of, d c33]; exact w33
    · rw [PS.of, d c34]; exact w34
    · intro j hj
      obtain ⟨q, eq, wq⟩ := c4 j hj
      simpa [PS.of, eq, intOf] using wq
    · intro j hj
      obtain ⟨q, eq, wq⟩ := c8 j hj
      simpa [PS.of, eq, intOf] using wq
end
theorem u8_bd {x : Int} (h : (Lit.int .u8 x).wf = true) : 0 ≤ x ∧ x ≤ 255 := by
  simp [Lit.wf, IntKind.min, IntKind.max, IntKind.signed, IntKind.bits] at h
  exact ⟨by omega, by omega⟩
end Go.Proofs.Qxb6603776a
