import Derived.Test.Qxb6603776aParamPre
namespace Go.Proofs.Qxb6603776a
open Go.RowKit
theorem ofInt_wrap_u32 (a : BitVec 32) : BitVec.ofInt 32 (IntKind.u32.wrap (a.toNat : Int)) = a := by
  have h : IntKind.u32.wrap (a.toNat : Int) = (a.toNat : Int) := by
    rw [IntKind.wrap_u32]
    have := a.isLt
    omega
  rw [h]
  simp
theorem clear_or (x y : Int) : bits .andNot .u32 (bits .or .u32 x y) y = bits .andNot .u32 x y := by
  have e : BitVec.ofInt IntKind.u32.bits (bits .or .u32 x y) = BitVec.ofInt 32 x ||| BitVec.ofInt 32 y := ofInt_wrap_u32 _
  unfold bits at *
  simp only at e ⊢
  rw [e]
  congr 3
  show (BitVec.ofInt 32 x ||| BitVec.ofInt 32 y) &&& ~~~BitVec.ofInt 32 y = BitVec.ofInt 32 x &&& ~~~BitVec.ofInt 32 y
  generalize BitVec.ofInt 32 x = a
  generalize BitVec.ofInt 32 y = b
  ext i hi
  simp
  cases a[i] <;> cases b[i] <;> rfl

theorem params_set_ne (v : Vector Int 23) (k i : Nat) (x : Int) (hi : i < 23) (h : ¬ i = k) : (v.setIfInBounds k x)[i] = v[i] := by
  rw [Vector.getElem_setIfInBounds, if_neg (fun e => h e.symm)]

/-- What a digit makes of the number under way. -/
theorem nextCur_neg {cur c : Int} (h : cur < 0) (c1 : 48 ≤ c) (c2 : c ≤ 57) : nextCur cur c = c - 48 := by rw [nextCur, if_pos h]; go_arith
theorem nextCur_in {cur c : Int} (h0 : 0 ≤ cur) (h : cur ≤ 2147483647) (c1 : 48 ≤ c) (c2 : c ≤ 57) : nextCur cur c = cur * 10 + (c - 48) := by
  rw [nextCur, if_neg (by omega)]; go_arith
end Go.Proofs.Qxb6603776a
