import Derived.Test.Qxb6602681aRows
import Derived.WalkKit
import Derived.WalkSpells
import Derived.Outline
import Derived.Below
import Derived.Handy
import Derived.StillTactics
namespace Go.Proofs.Qxb6602681a
open Go.RowKit
set_option linter.unusedVariables false
set_option linter.unusedSimpArgs false

def crit (typ height lo hi cTyp cHeight cEpoch : Int) (F G : Bool) : Bool :=
  (typ == 0 || typ == cTyp) && (height == 0 || height == cHeight) && decide (lo ≤ cEpoch) && decide (cEpoch ≤ hi) && F && G

theorem mixed : Try.prog.follows .mixedOrders = true := by kernel_rfl
theorem region_still {P : Program} {id : Nat} {Q : Exit → Act → World → Prop} {a : Act} {w : World} {l : List Oper} (hm : P.follows .mixedOrders = true) (hB : Region.lexB .any l.toArray = true)
    (h : wpStill P l.toArray w.drew (fun a' => Q .normal a' w.drew) l a) : (Code.region id l.toArray true).wp P Q a w :=
  wp_region_still_lit hm hB h
theorem wpStill_gen {P : Program} {l : List Oper} {w : World} {Q : Act → Prop} {rest : List Oper} {a : Act} (h : ∀ ops : Array Oper, ops = l.toArray → wpStill P ops w Q rest a) : wpStill P l.toArray w Q rest a := h _ rfl

/-- The set of processes that a rule names: nil (every process), or a slice of which the process is an index. -/
def Named (w : World) (v : Value) (p : Int) (F : Bool) : Prop :=
  (v = .slice none 0 0 ∧ F = true) ∨ ∃ b o l m : Nat, v = .slice (some ⟨b, o, none⟩) l m ∧ 0 ≤ p ∧ p < l ∧ b < w.heap.size ∧ w.cell? ⟨b, o + p.toNat, none⟩ = some (.bool F)

set_option maxRecDepth 100000 in
set_option maxHeartbeats 4000000 in
theorem matches_any (typ height lo hi fp tp cTyp cHeight cEpoch : Int) (w : World) (g : Nat) (from_ to_ : Value) (F G : Bool)
    (k0 : w.cell? ⟨g, 0, none⟩ = some (.int .i64 typ)) (k1 : w.cell? ⟨g, 1, none⟩ = some (.int .i64 height)) (k2 : w.cell? ⟨g, 2, none⟩ = some (.int .i64 lo)) (k3 : w.cell? ⟨g, 3, none⟩ = some (.int .i64 hi))
    (k4 : w.cell? ⟨g, 4, none⟩ = some from_) (k5 : w.cell? ⟨g, 5, none⟩ = some to_) (hg : g < w.heap.size)
    (hF : Named w from_ fp F) (hG : Named w to_ tp G) (R : Bool) (hR : Hid (R = crit typ height lo hi cTyp cHeight cEpoch F G)) :
    Calls Try.prog 15 #[.pointer (some ⟨g, 0, none⟩), .int .i64 fp, .int .i64 tp, .agg #[.int .i64 cTyp, .int .i64 cHeight, .int .i64 cEpoch]] w
      fun e w' => e = .returned (.bool R) ∧ Below w.heap.size w w' := by
  have ns := fun (w : World) a n c => Lib.run_eql_slice_nil (P := Try.prog) w 28 4 a n c 0 0 Try.underlying28
  have HF : Hid (Named w from_ fp F) := hF
  have HG : Hid (Named w to_ tp G) := hG
  clear hF hG
  go_enter Try.func15, Try.ntmps15
  go_wp2
  simp only [List.append_eq, List.cons_append, List.nil_append]
  refine region_still mixed (by as_aux_lemma => kernel_rfl) ?_
  refine wpStill_gen fun ops hops => ?_
  obtain ⟨o5, e5, d5⟩ : ∃ o, ops[5]? = some o ∧ o.dst = some 14 := ⟨_, by rw [hops]; rfl, rfl⟩
  obtain ⟨o14, e14, d14⟩ : ∃ o, ops[14]? = some o ∧ o.dst = some 23 := ⟨_, by rw [hops]; rfl, rfl⟩
  obtain ⟨o20, e20, d20⟩ : ∃ o, ops[20]? = some o ∧ o.dst = some 29 := ⟨_, by rw [hops]; rfl, rfl⟩
  obtain ⟨o30, e30, d30⟩ : ∃ o, ops[30]? = some o ∧ o.dst = some 39 := ⟨_, by rw [hops]; rfl, rfl⟩
  obtain ⟨o39, e39, d39⟩ : ∃ o, ops[39]? = some o ∧ o.dst = some 48 := ⟨_, by rw [hops]; rfl, rfl⟩
  obtain ⟨o48, e48, d48⟩ : ∃ o, ops[48]? = some o ∧ o.dst = some 57 := ⟨_, by rw [hops]; rfl, rfl⟩
  obtain ⟨o54, e54, d54⟩ : ∃ o, ops[54]? = some o ∧ o.dst = some 63 := ⟨_, by rw [hops]; rfl, rfl⟩
  obtain ⟨o64, e64, d64⟩ : ∃ o, ops[64]? = some o ∧ o.dst = some 73 := ⟨_, by rw [hops]; rfl, rfl⟩
  obtain ⟨o70, e70, d70⟩ : ∃ o, ops[70]? = some o ∧ o.dst = some 79 := ⟨_, by rw [hops]; rfl, rfl⟩
  clear hops
  iterate 6 still_step
  rcases Bool.eq_false_or_eq_true (typ == 0) with t0 | t0
  · skip
    iterate 9 still_step
    iterate 6 still_step
    rcases Bool.eq_false_or_eq_true (height == 0) with h0 | h0
    · skip
      iterate 10 still_step
      iterate 9 still_step
      rcases Bool.eq_false_or_eq_true (decide (lo ≤ cEpoch)) with l0 | l0
      · skip
        iterate 9 still_step
        rcases Bool.eq_false_or_eq_true (decide (cEpoch ≤ hi)) with u0 | u0
        · skip
          rcases HF.out with ⟨rfl, rfl⟩ | ⟨b1, o1, l1, m1, rfl, q1, q2, q3, q4⟩
          · clear HF
            iterate 16 still_step
            rcases HG.out with ⟨rfl, rfl⟩ | ⟨b2, o2, l2, m2, rfl, p1, p2, p3, p4⟩
            · skip
              iterate 16 still_step
              refine wpStill_nil ?_
              go_wp2
              go_ret
              exact ⟨by rw [hR.out]; simp [crit, t0, h0, l0, u0], ((Below.refl _ _).alloc (Nat.le_refl _) _).drew⟩
            · clear HG
              iterate 16 still_step
              refine wpStill_nil ?_
              go_wp2
              go_ret
              exact ⟨by rw [hR.out]; simp [crit, t0, h0, l0, u0], ((Below.refl _ _).alloc (Nat.le_refl _) _).drew⟩
          · clear HF
            iterate 16 still_step
            cases F
            · clear HG
              iterate 16 still_step
              refine wpStill_nil ?_
              go_wp2
              go_ret
              exact ⟨by rw [hR.out]; simp [crit, t0, h0, l0, u0], ((Below.refl _ _).alloc (Nat.le_refl _) _).drew⟩
            · clear q4
              rcases HG.out with ⟨rfl, rfl⟩ | ⟨b2, o2, l2, m2, rfl, p1, p2, p3, p4⟩
              · skip
                iterate 16 still_step
                refine wpStill_nil ?_
                go_wp2
                go_ret
                exact ⟨by rw [hR.out]; simp [crit, t0, h0, l0, u0], ((Below.refl _ _).alloc (Nat.le_refl _) _).drew⟩
              · clear HG
                iterate 16 still_step
                refine wpStill_nil ?_
                go_wp2
                go_ret
                exact ⟨by rw [hR.out]; simp [crit, t0, h0, l0, u0], ((Below.refl _ _).alloc (Nat.le_refl _) _).drew⟩
        · clear HF HG
          iterate 32 still_step
          refine wpStill_nil ?_
          go_wp2
          go_ret
          exact ⟨by rw [hR.out]; simp [crit, t0, h0, l0, u0], ((Below.refl _ _).alloc (Nat.le_refl _) _).drew⟩
      · clear HF HG
        iterate 41 still_step
        refine wpStill_nil ?_
        go_wp2
        go_ret
        exact ⟨by rw [hR.out]; simp [crit, t0, h0, l0], ((Below.refl _ _).alloc (Nat.le_refl _) _).drew⟩
    · skip
      iterate 10 still_step
      rcases Bool.eq_false_or_eq_true (height == cHeight) with h1 | h1
      · skip
        iterate 9 still_step
        rcases Bool.eq_false_or_eq_true (decide (lo ≤ cEpoch)) with l0 | l0
        · skip
          iterate 9 still_step
          rcases Bool.eq_false_or_eq_true (decide (cEpoch ≤ hi)) with u0 | u0
          · skip
            rcases HF.out with ⟨rfl, rfl⟩ | ⟨b1, o1, l1, m1, rfl, q1, q2, q3, q4⟩
            · clear HF
              iterate 16 still_step
              rcases HG.out with ⟨rfl, rfl⟩ | ⟨b2, o2, l2, m2, rfl, p1, p2, p3, p4⟩
              · skip
                iterate 16 still_step
                refine wpStill_nil ?_
                go_wp2
                go_ret
                exact ⟨by rw [hR.out]; simp [crit, t0, h0, h1, l0, u0], ((Below.refl _ _).alloc (Nat.le_refl _) _).drew⟩
              · clear HG
                iterate 16 still_step
                refine wpStill_nil ?_
                go_wp2
                go_ret
                exact ⟨by rw [hR.out]; simp [crit, t0, h0, h1, l0, u0], ((Below.refl _ _).alloc (Nat.le_refl _) _).drew⟩
            · clear HF
              iterate 16 still_step
              cases F
              · clear HG
                iterate 16 still_step
                refine wpStill_nil ?_
                go_wp2
                go_ret
                exact ⟨by rw [hR.out]; simp [crit, t0, h0, h1, l0, u0], ((Below.refl _ _).alloc (Nat.le_refl _) _).drew⟩
              · clear q4
                rcases HG.out with ⟨rfl, rfl⟩ | ⟨b2, o2, l2, m2, rfl, p1, p2, p3, p4⟩
                · skip
                  iterate 16 still_step
                  refine wpStill_nil ?_
                  go_wp2
                  go_ret
                  exact ⟨by rw [hR.out]; simp [crit, t0, h0, h1, l0, u0], ((Below.refl _ _).alloc (Nat.le_refl _) _).drew⟩
                · clear HG
                  iterate 16 still_step
                  refine wpStill_nil ?_
                  go_wp2
                  go_ret
                  exact ⟨by rw [hR.out]; simp [crit, t0, h0, h1, l0, u0], ((Below.refl _ _).alloc (Nat.le_refl _) _).drew⟩
          · clear HF HG
            iterate 32 still_step
            refine wpStill_nil ?_
            go_wp2
            go_ret
            exact ⟨by rw [hR.out]; simp [crit, t0, h0, h1, l0, u0], ((Below.refl _ _).alloc (Nat.le_refl _) _).drew⟩
        · clear HF HG
          iterate 41 still_step
          refine wpStill_nil ?_
          go_wp2
          go_ret
          exact ⟨by rw [hR.out]; simp [crit, t0, h0, h1, l0], ((Below.refl _ _).alloc (Nat.le_refl _) _).drew⟩
      · clear HF HG
        iterate 50 still_step
        refine wpStill_nil ?_
        go_wp2
        go_ret
        exact ⟨by rw [hR.out]; simp [crit, t0, h0, h1], ((Below.refl _ _).alloc (Nat.le_refl _) _).drew⟩
  · skip
    iterate 9 still_step
    rcases Bool.eq_false_or_eq_true (typ == cTyp) with t1 | t1
    · skip
      iterate 6 still_step
      rcases Bool.eq_false_or_eq_true (height == 0) with h0 | h0
      · skip
        iterate 10 still_step
        iterate 9 still_step
        rcases Bool.eq_false_or_eq_true (decide (lo ≤ cEpoch)) with l0 | l0
        · skip
          iterate 9 still_step
          rcases Bool.eq_false_or_eq_true (decide (cEpoch ≤ hi)) with u0 | u0
          · skip
            rcases HF.out with ⟨rfl, rfl⟩ | ⟨b1, o1, l1, m1, rfl, q1, q2, q3, q4⟩
            · clear HF
              iterate 16 still_step
              rcases HG.out with ⟨rfl, rfl⟩ | ⟨b2, o2, l2, m2, rfl, p1, p2, p3, p4⟩
              · skip
                iterate 16 still_step
                refine wpStill_nil ?_
                go_wp2
                go_ret
                exact ⟨by rw [hR.out]; simp [crit, t0, t1, h0, l0, u0], ((Below.refl _ _).alloc (Nat.le_refl _) _).drew⟩
              · clear HG
                iterate 16 still_step
                refine wpStill_nil ?_
                go_wp2
                go_ret
                exact ⟨by rw [hR.out]; simp [crit, t0, t1, h0, l0, u0], ((Below.refl _ _).alloc (Nat.le_refl _) _).drew⟩
            · clear HF
              iterate 16 still_step
              cases F
              · clear HG
                iterate 16 still_step
                refine wpStill_nil ?_
                go_wp2
                go_ret
                exact ⟨by rw [hR.out]; simp [crit, t0, t1, h0, l0, u0], ((Below.refl _ _).alloc (Nat.le_refl _) _).drew⟩
              · clear q4
                rcases HG.out with ⟨rfl, rfl⟩ | ⟨b2, o2, l2, m2, rfl, p1, p2, p3, p4⟩
                · skip
                  iterate 16 still_step
                  refine wpStill_nil ?_
                  go_wp2
                  go_ret
                  exact ⟨by rw [hR.out]; simp [crit, t0, t1, h0, l0, u0], ((Below.refl _ _).alloc (Nat.le_refl _) _).drew⟩
                · clear HG
                  iterate 16 still_step
                  refine wpStill_nil ?_
                  go_wp2
                  go_ret
                  exact ⟨by rw [hR.out]; simp [crit, t0, t1, h0, l0, u0], ((Below.refl _ _).alloc (Nat.le_refl _) _).drew⟩
          · clear HF HG
            iterate 32 still_step
            refine wpStill_nil ?_
            go_wp2
            go_ret
            exact ⟨by rw [hR.out]; simp [crit, t0, t1, h0, l0, u0], ((Below.refl _ _).alloc (Nat.le_refl _) _).drew⟩
        · clear HF HG
          iterate 41 still_step
          refine wpStill_nil ?_
          go_wp2
          go_ret
          exact ⟨by rw [hR.out]; simp [crit, t0, t1, h0, l0], ((Below.refl _ _).alloc (Nat.le_refl _) _).drew⟩
      · skip
        iterate 10 still_step
        rcases Bool.eq_false_or_eq_true (height == cHeight) with h1 | h1
        · skip
          iterate 9 still_step
          rcases Bool.eq_false_or_eq_true (decide (lo ≤ cEpoch)) with l0 | l0
          · skip
            iterate 9 still_step
            rcases Bool.eq_false_or_eq_true (decide (cEpoch ≤ hi)) with u0 | u0
            · skip
              rcases HF.out with ⟨rfl, rfl⟩ | ⟨b1, o1, l1, m1, rfl, q1, q2, q3, q4⟩
              · clear HF
                iterate 16 still_step
                rcases HG.out with ⟨rfl, rfl⟩ | ⟨b2, o2, l2, m2, rfl, p1, p2, p3, p4⟩
                · skip
                  iterate 16 still_step
                  refine wpStill_nil ?_
                  go_wp2
                  go_ret
                  exact ⟨by rw [hR.out]; simp [crit, t0, t1, h0, h1, l0, u0], ((Below.refl _ _).alloc (Nat.le_refl _) _).drew⟩
                · clear HG
                  iterate 16 still_step
                  refine wpStill_nil ?_
                  go_wp2
                  go_ret
                  exact ⟨by rw [hR.out]; simp [crit, t0, t1, h0, h1, l0, u0], ((Below.refl _ _).alloc (Nat.le_refl _) _).drew⟩
              · clear HF
                iterate 16 still_step
                cases F
                · clear HG
                  iterate 16 still_step
                  refine wpStill_nil ?_
                  go_wp2
                  go_ret
                  exact ⟨by rw [hR.out]; simp [crit, t0, t1, h0, h1, l0, u0], ((Below.refl _ _).alloc (Nat.le_refl _) _).drew⟩
                · clear q4
                  rcases HG.out with ⟨rfl, rfl⟩ | ⟨b2, o2, l2, m2, rfl, p1, p2, p3, p4⟩
                  · skip
                    iterate 16 still_step
                    refine wpStill_nil ?_
                    go_wp2
                    go_ret
                    exact ⟨by rw [hR.out]; simp [crit, t0, t1, h0, h1, l0, u0], ((Below.refl _ _).alloc (Nat.le_refl _) _).drew⟩
                  · clear HG
                    iterate 16 still_step
                    refine wpStill_nil ?_
                    go_wp2
                    go_ret
                    exact ⟨by rw [hR.out]; simp [crit, t0, t1, h0, h1, l0, u0], ((Below.refl _ _).alloc (Nat.le_refl _) _).drew⟩
            · clear HF HG
              iterate 32 still_step
              refine wpStill_nil ?_
              go_wp2
              go_ret
              exact ⟨by rw [hR.out]; simp [crit, t0, t1, h0, h1, l0, u0], ((Below.refl _ _).alloc (Nat.le_refl _) _).drew⟩
          · clear HF HG
            iterate 41 still_step
            refine wpStill_nil ?_
            go_wp2
            go_ret
            exact ⟨by rw [hR.out]; simp [crit, t0, t1, h0, h1, l0], ((Below.refl _ _).alloc (Nat.le_refl _) _).drew⟩
        · clear HF HG
          iterate 50 still_step
          refine wpStill_nil ?_
          go_wp2
          go_ret
          exact ⟨by rw [hR.out]; simp [crit, t0, t1, h0, h1], ((Below.refl _ _).alloc (Nat.le_refl _) _).drew⟩
    · clear HF HG
      iterate 66 still_step
      refine wpStill_nil ?_
      go_wp2
      go_ret
      exact ⟨by rw [hR.out]; simp [crit, t0, t1], ((Below.refl _ _).alloc (Nat.le_refl _) _).drew⟩
end Go.Proofs.Qxb6602681a
