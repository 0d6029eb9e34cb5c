import Derived.Test.Qxb6603776aW4
import Derived.LoopTactic
import Derived.Deep.QuietTactic
import Derived.BigQuiet
import Derived.ChangeKeysEq
namespace Go.Proofs.Qxb6603776a
open Go.RowKit
set_option linter.unusedVariables false
set_option linter.unusedSimpArgs false

set_option maxHeartbeats 800000 in
theorem sameInter_any (a b : PS) (slot : Int) (w : World) (h : ∀ (i : Nat) (hi : i < 3), ¬ (i : Int) = slot → a.inter[i] = b.inter[i]) :
    Calls Try.prog 14 #[.agg a.cells, .agg b.cells, .int .i64 slot] w fun e w' => e = .returned (.bool true) ∧ Below w.heap.size w w' := by
  go_enter Try.func14, Try.ntmps14
  go_wp2
  go_loopw [7] (fun i wr => ∃ k n : Nat, k ≤ 3 ∧ i = .int .i64 k ∧ wr = ((w.alloc (.cells a.cells 28)).alloc (.cells b.cells 28)).drewN n) (fun i _ => 3 - (intOf i).toNat)
  case atStart => exact ⟨0, 0, by omega, rfl, rfl⟩
  case round =>
    obtain ⟨k, n, hk, rfl, rfl⟩ := hrel
    by_cases hlt : k < 3
    · have ca := PS.cI a k hlt
      have cb := PS.cI b k hlt
      by_cases hs : (k : Int) = slot
      · subst hs
        clear h
        go_wp2
        go_quiet (fail)
        go_wp2
        go_roundw
        case rel => exact ⟨k + 1, _, by omega, by go_num, rfl⟩
        case measure => simp [intOf]; omega
      · have hs' : ((k : Int) != slot) = true := by simpa using hs
        have he := h k hlt hs
        rw [← he] at cb
        clear h hs he
        go_wp2
        go_quiet (fail)
        go_wp2
        go_roundw
        case rel => exact ⟨k + 1, _, by omega, by go_num, rfl⟩
        case measure => simp [intOf]; omega
    · clear h
      go_wp2
      go_ret
      exact ⟨rfl, below_drewN (((Below.refl _ _).alloc (Nat.le_refl _) _).alloc (by simp) _) _⟩

set_option maxHeartbeats 800000 in
theorem sameParams_any (a b : PS) (slot : Int) (w : World) (h : ∀ (i : Nat) (hi : i < 23), ¬ (i : Int) = slot → a.params[i] = b.params[i]) :
    Calls Try.prog 18 #[.agg a.cells, .agg b.cells, .int .i64 slot] w fun e w' => e = .returned (.bool true) ∧ Below w.heap.size w w' := by
  go_enter Try.func18, Try.ntmps18
  go_wp2
  go_loopw [7] (fun i wr => ∃ k n : Nat, k ≤ 23 ∧ i = .int .i64 k ∧ wr = ((w.alloc (.cells a.cells 28)).alloc (.cells b.cells 28)).drewN n) (fun i _ => 23 - (intOf i).toNat)
  case atStart => exact ⟨0, 0, by omega, rfl, rfl⟩
  case round =>
    obtain ⟨k, n, hk, rfl, rfl⟩ := hrel
    by_cases hlt : k < 23
    · have ca := PS.cP a k hlt
      have cb := PS.cP b k hlt
      by_cases hs : (k : Int) = slot
      · subst hs
        clear h
        go_wp2
        go_quiet (fail)
        go_wp2
        go_roundw
        case rel => exact ⟨k + 1, _, by omega, by go_num, rfl⟩
        case measure => simp [intOf]; omega
      · have hs' : ((k : Int) != slot) = true := by simpa using hs
        have he := h k hlt hs
        rw [← he] at cb
        clear h hs he
        go_wp2
        go_quiet (fail)
        go_wp2
        go_roundw
        case rel => exact ⟨k + 1, _, by omega, by go_num, rfl⟩
        case measure => simp [intOf]; omega
    · clear h
      go_wp2
      go_ret
      exact ⟨rfl, below_drewN (((Below.refl _ _).alloc (Nat.le_refl _) _).alloc (by simp) _) _⟩

/-! ### '==' of a struct, of an array, with itself -/
theorem eqItems_refl {P : Program} (w : World) (d : Nat) (e : TypeId) (k : IntKind) (he : P.underlying e = some (.int k)) (xs : Array Value) :
    ∀ is : List Nat, (∀ i ∈ is, ∃ v, xs[i]? = some (.int k v)) → (Op.eqItems (d + 1) e 1 xs xs is).run P w = .ok true w
  | [], _ => by simp [Op.eqItems]
  | i :: is, h => by
    obtain ⟨v, hv⟩ := h i (by simp)
    have p : (part e xs (i * 1)).run P w = .ok (.int k v) w := by simp [part, isAgg, run_underlying he, hv]
    have q := run_equalIn_int (P := P) w d e k k v v he
    simp only [Op.eqItems, Sem.run_bind, p, q, Result.andThen_ok, beq_self_eq_true, Bool.not_true, Bool.false_eq_true, if_false]
    exact eqItems_refl w d e k he xs is fun j hj => h j (by simp [hj])
theorem cellsOf5 : Try.prog.cellsOf 5 = 1 := by kernel_rfl
theorem cellsOf21 : Try.prog.cellsOf 21 = 1 := by kernel_rfl
theorem info5 : ∃ i, Try.prog.info? 5 = some i := Option.isSome_iff_exists.1 (by kernel_rfl)
theorem info21 : ∃ i, Try.prog.info? 21 = some i := Option.isSome_iff_exists.1 (by kernel_rfl)
theorem eqIn24 (d : Nat) (s : PS) (w : World) : (Op.equalIn (d + 2) 24 (.agg s.interC) (.agg s.interC)).run Try.prog w = .ok true w := by
  obtain ⟨i, hi⟩ := info5
  rw [run_equalIn_array w (d + 1) _ _ Try.underlying24 hi, cellsOf5]
  refine eqItems_refl w d 5 .u8 Try.underlying5 _ _ fun j hj => ⟨s.inter[j]'(by simpa using hj), ?_⟩
  have hj : j < 3 := by simpa using hj
  simp [PS.interC, hj]
theorem eqIn25 (d : Nat) (s : PS) (w : World) : (Op.equalIn (d + 2) 25 (.agg s.paramsC) (.agg s.paramsC)).run Try.prog w = .ok true w := by
  obtain ⟨i, hi⟩ := info21
  rw [run_equalIn_array w (d + 1) _ _ Try.underlying25 hi, cellsOf21]
  refine eqItems_refl w d 21 .i32 Try.underlying21 _ _ fun j hj => ⟨s.params[j]'(by simpa using hj), ?_⟩
  have hj : j < 23 := by simpa using hj
  simp [PS.paramsC, hj]
theorem neq24 (s : PS) (w : World) : (binOp .neq 24 (.agg s.interC) (.agg s.interC)).run Try.prog w = .ok (.bool false) w := by
  rw [run_neq_struct, eqIn24 9998 s w]; rfl
theorem neq25 (s : PS) (w : World) : (binOp .neq 25 (.agg s.paramsC) (.agg s.paramsC)).run Try.prog w = .ok (.bool false) w := by
  rw [run_neq_struct, eqIn25 9998 s w]; rfl
theorem sz24 (w : World) : (sizeOf 24).run Try.prog w = .ok 3 w := by
  have h := size24
  cases hq : Try.prog.info? 24 with
  | none => simp [hq] at h
  | some i => simp [hq] at h; simp [sizeOf, typeInfo, hq, h]
theorem sz25 (w : World) : (sizeOf 25).run Try.prog w = .ok 23 w := by
  have h := size25
  cases hq : Try.prog.info? 25 with
  | none => simp [hq] at h
  | some i => simp [hq] at h; simp [sizeOf, typeInfo, hq, h]
theorem eq28 (s : PS) (w : World) : (binOp .eql 28 (.agg s.cells) (.agg s.cells)).run Try.prog w = .ok (.bool true) w := by
  have hu : Try.prog.underlying 28 = some (.struct (Try.prog.fieldsOf 28)) := by simp [Program.fieldsOf, Try.underlying28]
  have e24 : ∀ d, (Op.equalIn (d + 1 + 1) 24 (.agg (s.cells.extract 4 7)) (.agg (s.cells.extract 4 7))).run Try.prog w = .ok true w := fun d => by rw [PS.eI]; exact eqIn24 d s w
  have e25 : ∀ d, (Op.equalIn (d + 1 + 1) 25 (.agg (s.cells.extract 8 31)) (.agg (s.cells.extract 8 31))).run Try.prog w = .ok true w := fun d => by rw [PS.eP]; exact eqIn25 d s w
  rw [run_eql_struct, run_equalIn_struct w 9999 28 _ _ hu (by kernel_rfl)]
  simp only [Program.fieldsOf, Try.underlying28]
  have i5 := fun d a => run_equalIn_int (P := Try.prog) w d 5 .u8 .u8 a a Try.underlying5
  have i26 := fun d a => run_equalIn_int (P := Try.prog) w d 26 .u32 .u32 a a Try.underlying26
  have i2 := fun d a => run_equalIn_int (P := Try.prog) w d 2 .i64 .i64 a a Try.underlying2
  have i4 := fun d a => run_equalIn_bool' (P := Try.prog) w d 4 a a Try.underlying4
  simp [Op.eqFields, part, isAgg, run_underlying Try.underlying5, run_underlying Try.underlying4, run_underlying Try.underlying24, run_underlying Try.underlying25, run_underlying Try.underlying26, run_underlying Try.underlying2, sz24, sz25,
    PS.c0, PS.c1, PS.c2, PS.c3, PS.c7, PS.c31, PS.c32, PS.c33, PS.c34, PS.c35, PS.c36, e24, e25, i5, i26, i2, i4]
end Go.Proofs.Qxb6603776a
