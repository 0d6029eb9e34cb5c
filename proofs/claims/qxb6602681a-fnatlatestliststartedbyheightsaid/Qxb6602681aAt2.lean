import Derived.Test.Qxb6602681aAt1
namespace Go.Proofs.Qxb6602681a
open Go.RowKit
set_option linter.unusedVariables false
set_option linter.unusedSimpArgs false

/-- The list of pairs that ZZAt makes: where it lies, what it holds. -/
def Pairs (w : World) (g n : Nat) (F : Nat → Int) (A : Nat → Option Addr) (L C : Nat → Nat) : Prop :=
  g < w.heap.size ∧ ∀ i, i < n → w.cell? ⟨g, i * 2, none⟩ = some (.int .i64 (F i)) ∧ w.cell? ⟨g, i * 2 + 1, none⟩ = some (.slice (A i) (L i) (C i))
theorem Pairs.later {w w' : World} {g n : Nat} {F : Nat → Int} {A : Nat → Option Addr} {L C : Nat → Nat} (h : Pairs w g n F A L C) (hb : Below w.heap.size w w') : Pairs w' g n F A L C :=
  ⟨Nat.lt_of_lt_of_le h.1 hb.size, fun i hi => ⟨(hb.cell (p := ⟨g, i * 2, none⟩) h.1).trans (h.2 i hi).1, (hb.cell (p := ⟨g, i * 2 + 1, none⟩) h.1).trans (h.2 i hi).2⟩⟩

theorem info33 : (Try.prog.info? 33).map (·.size) = some 2 := by kernel_rfl
theorem row33 : ∃ d, Try.prog.underlying 33 = some d ∧ d.isRow = true := ⟨_, Try.underlying33, rfl⟩
theorem Pairs.range {w : World} {g n : Nat} {F : Nat → Int} {A : Nat → Option Addr} {L C : Nat → Nat} (h : Pairs w g n F A L C) {k : Nat} (hk : k + 1 < n) :
    w.rangeAt g (2 + k * 2) [.int .i64 (F (k + 1)), .slice (A (k + 1)) (L (k + 1)) (C (k + 1))] := by
  obtain ⟨h1, h2⟩ := h.2 (k + 1) hk
  have e1 : (k + 1) * 2 = 2 + k * 2 := by omega
  rw [e1] at h1 h2
  intro j v hv
  match j with
  | 0 => simp at hv; subst hv; exact h1
  | 1 => simp at hv; subst hv; exact h2
  | j + 2 => simp at hv
section
variable {ops : Array Oper} {rest : List Oper} {op : Oper} {a : Act} {w : World} {Q : Exit → Act → World → Prop}
theorem wl_load33 (hgd : op.guard = none) (x : Operand) (ho : op.op = .load 33 x) (b o : Nat) (hx : a.eval x = .pointer (some ⟨b, o, none⟩)) (u v : Value) (hc : w.rangeAt b o [u, v])
    (h : wpList Try.prog ops Q rest (a.put op.dst (.agg #[u, v])) w) : wpList Try.prog ops Q (op :: rest) a w := by
  obtain ⟨d, hu, hd⟩ := row33
  exact wpList_load_mid hgd 33 x ho b o hx [u, v] d hc hu hd (by rw [info33]; rfl) h
end

/-- Which list 'at' answers. -/
def AtIs (n : Nat) (F : Nat → Int) (A : Nat → Option Addr) (L C : Nat → Nat) (h : Int) (e : Ending) : Prop :=
  ∃ kk, kk < n ∧ e = .returned (.slice (A kk) (L kk) (C kk)) ∧ (∀ j, 1 ≤ j → j ≤ kk → F j ≤ h) ∧ (kk + 1 < n → h < F (kk + 1))

theorem at_one (g : Nat) (F : Nat → Int) (A : Nat → Option Addr) (L C : Nat → Nat) (h : Int) (w : World) (hp : Pairs w g 1 F A L C) :
    Calls Try.prog 14 #[.slice (some ⟨g, 0, none⟩) 1 1, .int .i64 h] w fun e w' => AtIs 1 F A L C h e ∧ Below w.heap.size w w' := by
  have hc0 := (hp.2 0 (by omega)).2
  simp only [Nat.zero_mul, Nat.zero_add] at hc0
  clear hp
  go_enter Try.func14, Try.ntmps14
  go_wp2
  go_loop [5, 15] (fun l i => l = .slice (A 0) (L 0) (C 0) ∧ i = .int .i64 0) (fun _ i => 0)
  case atStart => exact ⟨rfl, rfl⟩
  case round =>
    obtain ⟨rfl, rfl⟩ := hrel
    go_wp2
    go_ret
    exact ⟨⟨0, by omega, rfl, fun j h1 h2 => by omega, fun h => by omega⟩, Below.refl _ _⟩

theorem at_any (g n : Nat) (F : Nat → Int) (A : Nat → Option Addr) (L C : Nat → Nat) (h : Int) (w : World) (hn : 1 < n) (hm : n ≤ 16384) (hp : Pairs w g n F A L C) :
    Calls Try.prog 14 #[.slice (some ⟨g, 0, none⟩) n n, .int .i64 h] w fun e w' => AtIs n F A L C h e ∧ Below w.heap.size w w' := by
  have HP : Hid (Pairs w g n F A L C) := hp
  have hc0 := (hp.2 0 (by omega)).2
  simp only [Nat.zero_mul, Nat.zero_add] at hc0
  have hn1 : ¬ n = 1 := by omega
  clear hp
  go_enter Try.func14, Try.ntmps14
  go_wp2
  go_loopw [5, 15] (fun l i wr => ∃ k : Nat, k + 1 ≤ n ∧ l = .slice (A k) (L k) (C k) ∧ i = .int .i64 k ∧ Below w.heap.size w wr ∧ Hid (∀ j, 1 ≤ j → j ≤ k → F j ≤ h)) (fun _ i _ => n - (intOf i).toNat)
  case atStart => exact ⟨0, by omega, rfl, rfl, Below.refl _ _, fun j h1 h2 => by omega⟩
  case round =>
    obtain ⟨k, hk, rfl, rfl, hB, HF⟩ := hrel
    by_cases hlt : k + 1 < n
    · have hP := HP.out.later hB
      have hR := hP.range hlt
      clear hP
      by_cases hh : F (k + 1) ≤ h
      · go_wp2_with (first
          | ((with_reducible refine wl_load33 rfl _ rfl _ _ ?hx _ _ hR ?_); (case hx => rfl)))
        go_roundw
        case rel => exact ⟨k + 1, by omega, rfl, by go_num, hB.alloc hB.size _, fun j h1 h2 => by
          by_cases e : j = k + 1
          · subst e; exact hh
          · exact HF.out j h1 (by omega)⟩
        case measure => simp [intOf]; omega
      · go_wp2_with (first
          | ((with_reducible refine wl_load33 rfl _ rfl _ _ ?hx _ _ hR ?_); (case hx => rfl)))
        go_ret
        exact ⟨⟨k, by omega, rfl, HF.out, fun _ => by omega⟩, hB.alloc hB.size _⟩
    · go_wp2
      go_ret
      exact ⟨⟨k, by omega, rfl, HF.out, fun h => by omega⟩, hB⟩
end Go.Proofs.Qxb6602681a
