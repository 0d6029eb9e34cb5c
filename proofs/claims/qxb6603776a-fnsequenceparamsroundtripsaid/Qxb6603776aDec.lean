import Derived.Test.Qxb6603776aPlainD
import Derived.Test.Qxb6603776aW8
namespace Go.Proofs.Qxb6603776a
open Go.RowKit
set_option linter.unusedVariables false
set_option linter.unusedSimpArgs false

/-- Ten bytes. -/
def row10 (z : Nat → Int) : Array Value := Array.ofFn fun i : Fin 10 => Value.int .u8 (z i.val)
theorem row10_size (z : Nat → Int) : (row10 z).size = 10 := by simp [row10]
theorem row10_get (z : Nat → Int) (i : Nat) (h : i < 10) : (row10 z)[i]? = some (.int .u8 (z i)) := by simp [row10, h]
theorem row10_set (z : Nat → Int) (i : Nat) (h : i < 10) (x : Int) : (row10 z).setIfInBounds i (.int .u8 x) = row10 (fun j => if j = i then x else z j) := by
  apply Array.ext
  · simp [row10]
  · intro j h1 h2
    have hj : j < 10 := by simpa [row10] using h2
    rw [Array.getElem_setIfInBounds (by simpa [row10] using hj)]
    by_cases e : i = j
    · subst e; simp [row10]
    · rw [if_neg e]; simp [row10, Ne.symm e]
theorem row10_zero : (#[.int .u8 0, .int .u8 0, .int .u8 0, .int .u8 0, .int .u8 0, .int .u8 0, .int .u8 0, .int .u8 0, .int .u8 0, .int .u8 0] : Array Value) = row10 (fun _ => 0) := by kernel_rfl
attribute [local go_sem] row10_zero row10_size

theorem isRow40 : ∃ d, Try.prog.underlying 40 = some d ∧ d.isRow = true := ⟨_, Try.underlying40, rfl⟩
theorem size40 : (Try.prog.info? 40).map (·.size) = some 10 := by kernel_rfl
theorem one10 (z : Nat → Int) : (row10 z).all (·.oneCell') = true := by kernel_rfl
section
variable {ops : Array Oper} {rest : List Oper} {op : Oper} {a : Act} {w : World} {Q : Exit → Act → World → Prop}
/-- The ten bytes, by value. -/
theorem wl_load10 (hgd : op.guard = none) (x : Operand) (ho : op.op = .load 40 x) (g : Nat) (hx : a.eval x = .pointer (some ⟨g, 0, none⟩)) (z : Nat → Int) (t : TypeId)
    (hg : w.heap[g]? = some (.cells (row10 z) t (0, 0))) (h : wpList Try.prog ops Q rest (a.put op.dst (.agg (row10 z))) w) : wpList Try.prog ops Q (op :: rest) a w := by
  obtain ⟨d, hu, hd⟩ := isRow40
  exact wpList_load_row hgd 40 x ho g hx t (row10 z) (0, 0) d hg hu (by cases d <;> simp_all [TypeDesc.isRow]) (by rw [size40, row10_size]) h
theorem wl_store10 (hgd : op.guard = none) (x y : Operand) (ho : op.op = .store 40 x y) (g : Nat) (hx : a.eval x = .pointer (some ⟨g, 0, none⟩)) (z : Nat → Int) (hy : a.eval y = .agg (row10 z))
    (c : Array Value) (t : TypeId) (hg : w.heap[g]? = some (.cells c t (0, 0))) (hc : c.size = 10)
    (h : wpList Try.prog ops Q rest (a.put op.dst undef) (w.setRow g (row10 z))) : wpList Try.prog ops Q (op :: rest) a w := by
  refine wpList_plain hgd fun K hK => ?_
  unfold Oper.wp execOp
  simp only [ho, hx, hy, Instr.storeAt, Instr.sureAddr, Sem.run_bind, run_storeVar_row w g t 40 c (row10 z) hg (by rw [size40, row10_size]) (by rw [hc, row10_size]) (one10 z), Sem.run_pure, Result.andThen_ok]
  exact hK _ _ h
end
theorem results_10 {fn : Func} {p u : Tmp} (h : fn.results = #[.cell p 40, .tmp u]) (tmps : Array Value) (w : World) (g : Nat) (t : TypeId) (z : Nat → Int) (v : Value)
    (hp : tmps.getD p undef = .pointer (some ⟨g, 0, none⟩)) (hv : tmps.getD u undef = v) (hg : w.heap[g]? = some (.cells (row10 z) t (0, 0))) :
    (results fn tmps).run Try.prog w = .ok (.tuple #[.agg (row10 z), v]) w := by
  obtain ⟨d, hu, hd⟩ := isRow40
  rw [results_cell_tmp h, hp, hv]
  simp [asAddr, run_loadVar_row w g t 40 (row10 z) (0, 0) d hg hu (by cases d <;> simp_all [TypeDesc.isRow]) (by rw [size40, row10_size])]

def revOf (v n : Nat) : Nat → Int := fun i => if i < n then ((48 + v / 10 ^ i % 10 : Nat) : Int) else 0
theorem revOf_succ (v n : Nat) : (fun j => if j = n then ((48 + v / 10 ^ n % 10 : Nat) : Int) else revOf v n j) = revOf v (n + 1) := by
  funext j
  unfold revOf
  by_cases h : j = n
  · subst h; simp
  · by_cases h2 : j < n
    · simp [h, h2, show j < n + 1 by omega]
    · simp [h, h2, show ¬ j < n + 1 by omega]

theorem decimal_any (v : Nat) (w : World) (hv : v ≤ 2147483647) :
    Calls Try.prog 17 #[.int .i32 (v : Int)] w fun e w' => ∃ m : Nat, 1 ≤ m ∧ m ≤ 10 ∧ v < 10 ^ m ∧ (∃ z : Nat → Int, (∀ i, i < m → z i = digOf v m i) ∧ e = .returned (.tuple #[.agg (row10 z), .int .i64 m])) ∧ Below w.heap.size w w' := by
  go_enter Try.func17, Try.ntmps17
  go_wp2
  go_loopw [5, 6] (fun a b wr => ∃ n : Nat, n ≤ 10 ∧ a = .int .i64 n ∧ b = .int .i32 ((v / 10 ^ n : Nat) : Int) ∧ wr = (w.alloc (.cells (row10 fun _ => 0) 40)).alloc (.cells (row10 (revOf v n)) 40)) (fun a b _ => 10 - (intOf a).toNat)
  case atStart => exact ⟨0, by omega, rfl, by simp, rfl⟩
  case round =>
    obtain ⟨n, hn, rfl, rfl, rfl⟩ := hrel
    have hu : v / 10 ^ n ≤ v := Nat.div_le_self _ _
    have h10 : n = 10 → v / 10 ^ n = 0 := fun e => by subst e; exact Nat.div_eq_of_lt (by omega)
    have hdd : v / 10 ^ (n + 1) = v / 10 ^ n / 10 := by rw [Nat.pow_succ, Nat.div_div_eq_div_mul]
    generalize hU : v / 10 ^ n = u at *
    by_cases hc : n = 0 ∨ 0 < u
    · have hn9 : n < 10 := by omega
      have hS := fun x => row10_set (revOf v n) n hn9 x
      obtain ⟨o, hG⟩ : ∃ o, (row10 (revOf v n))[n]? = some o := ⟨_, row10_get _ n hn9⟩
      have hR : (fun j => if j = n then 48 + (u : Int) % 10 else revOf v n j) = revOf v (n + 1) := by
        rw [← revOf_succ, hU]
        rfl
      have hQ : Hid ((u : Int) / 10 = ((v / 10 ^ (n + 1) : Nat) : Int)) := by show _ = _; rw [hdd]; rfl
      have hR' : Hid ((fun j => if j = n then 48 + (u : Int) % 10 else revOf v n j) = revOf v (n + 1)) := hR
      clear hdd hR h10
      by_cases h0 : n = 0
      · have hb : ((n : Int) == 0) = true := by simp [h0]
        have HC : Hid (n = 0) := h0
        clear hc h0
        go_wp2
        go_roundw
        case rel => exact ⟨n + 1, by omega, by go_num, by rw [hQ.out], by rw [hR'.out]⟩
        case measure => simp [intOf]; omega
      · have hb : ((n : Int) == 0) = false := by simp [h0]
        have hc : 0 < u := by omega
        clear h0
        go_wp2
        go_roundw
        case rel => exact ⟨n + 1, by omega, by go_num, by rw [hQ.out], by rw [hR'.out]⟩
        case measure => simp [intOf]; omega
    · have hn0 : ¬ n = 0 := by omega
      have hu0 : u = 0 := by omega
      subst hu0
      clear hdd hu h10
      go_wp2
      go_loopw [8] (fun a wr => ∃ i : Nat, i ≤ n ∧ a = .int .i64 i ∧ ∃ z : Nat → Int, (∀ j, j < i → z j = digOf v n j) ∧ wr = ((w.alloc (.cells (row10 fun _ => 0) 40)).alloc (.cells (row10 (revOf v n)) 40)).alloc (.cells (row10 z) 40)) (fun a _ => 10 - (intOf a).toNat)
      case atStart => exact ⟨0, by omega, rfl, fun _ => 0, fun j h => absurd h (Nat.not_lt_zero _), rfl⟩
      case round =>
        obtain ⟨i, hi, rfl, z, hz, rfl⟩ := hrel
        by_cases hlt : i < n
        · have hS := fun x => row10_set z i (by omega) x
          obtain ⟨o, hG⟩ : ∃ o, (row10 z)[i]? = some o := ⟨_, row10_get _ i (by omega)⟩
          have hR := row10_get (revOf v n) (n - 1 - i) (by omega)
          have hD : Hid (revOf v n (n - 1 - i) = digOf v n i) := by
            show _ = _
            unfold revOf digOf
            rw [if_pos (by omega)]
          have hZ : Hid (∀ j, j < i → z j = digOf v n j) := hz
          clear hz
          go_wp2
          go_roundw
          case rel => exact ⟨i + 1, by omega, by go_num, _, fun j hj => by
            by_cases e : j = i
            · subst e; rw [if_pos rfl]; exact hD.out
            · rw [if_neg e]; exact hZ.out j (by omega), rfl⟩
          case measure => simp [intOf]; omega
        · obtain rfl : i = n := by omega
          have hb3 : Below w.heap.size w (((w.alloc (.cells (row10 fun _ => 0) 40)).alloc (.cells (row10 (revOf v i)) 40)).alloc (.cells (row10 z) 40)) := (((Below.refl _ _).alloc (Nat.le_refl _) _).alloc (by simp) _).alloc (by simp; omega) _
          have hg1 : (((w.alloc (.cells (row10 fun _ => 0) 40)).alloc (.cells (row10 (revOf v i)) 40)).alloc (.cells (row10 z) 40)).heap[w.heap.size]? = some (.cells (row10 fun _ => 0) 40) := (Below.heap_alloc _ _ _ (by simp; omega)).trans (heap_alloc2_old w _ _)
          have hg2 : (((w.alloc (.cells (row10 fun _ => 0) 40)).alloc (.cells (row10 (revOf v i)) 40)).alloc (.cells (row10 z) 40)).heap[w.heap.size + 1 + 1]? = some (.cells (row10 z) 40) := by
            have := heap_alloc_last ((w.alloc (.cells (row10 fun _ => 0) 40)).alloc (.cells (row10 (revOf v i)) 40)) (.cells (row10 z) 40)
            simpa using this
          have HZ : Hid (∀ j, j < i → z j = digOf v i j) := hz
          have HU : Hid (v / 10 ^ i = 0) := hU
          have HL : v < 10 ^ i := (Nat.div_eq_zero_iff.mp hU).resolve_left (Nat.pos_iff_ne_zero.mp (Nat.pow_pos (by omega)))
          clear hz hU
          go_wp2_with (first
            | ((with_reducible refine wl_load10 rfl _ rfl _ ?hx z 40 hg2 ?_); (case hx => rfl))
            | ((with_reducible refine wl_store10 rfl _ _ rfl _ ?hx z ?hy _ 40 hg1 (row10_size _) ?_); (case hx => rfl); (case hy => rfl)))
          refine bodyPost_ret (v := .tuple #[.agg (row10 z), .int .i64 i]) ?_ rfl ⟨i, by omega, hn, HL, ⟨z, HZ.out, rfl⟩, below_setRow hb3 (Nat.le_refl _)⟩
          exact results_10 Try.results17 _ _ w.heap.size 40 z _ rfl rfl (setRow_heap _ _ _ _ 40 _ hg1)
end Go.Proofs.Qxb6603776a
