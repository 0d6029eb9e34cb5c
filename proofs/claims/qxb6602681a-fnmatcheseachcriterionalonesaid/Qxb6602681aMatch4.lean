import Derived.Test.Qxb6602681aMatch2
namespace Go.Proofs.Qxb6602681a
open Go.RowKit
set_option linter.unusedVariables false
set_option linter.unusedSimpArgs false

theorem Named.nil (w : World) (p : Int) : Named w (.slice none 0 0) p true := .inl ⟨rfl, rfl⟩
theorem info4 : (Try.prog.info? 4).map (fun i => (i.zero, i.size, i.bytes)) = some (some (.bool false), 1, 1) := by kernel_rfl
theorem size4 : (Try.prog.info? 4).map (·.size) = some 1 := by kernel_rfl

def tB (typ cTyp : Int) : Bool := typ == 0 || typ == cTyp
def eB (lo hi e : Int) : Bool := decide (lo ≤ e) && decide (e ≤ hi)

/-- The seven calls, all of one set of arguments: 'v1', 'v2' the two sets as the calls get them. -/
structure Seven (B : Nat) (w1 : World) (typ height lo hi fp tp cTyp cHeight cEpoch : Int) (v1 v2 : Value) (W T H E F G : Bool) : Prop where
  h1 : ∀ w, Below B w1 w → Calls Try.prog 12 #[.int .i64 typ, .int .i64 height, .int .i64 lo, .int .i64 hi, v1, v2, .int .i64 fp, .int .i64 tp, .int .i64 cTyp, .int .i64 cHeight, .int .i64 cEpoch] w fun e w' => e = .returned (.bool W) ∧ Below w.heap.size w w'
  h2 : ∀ w, Below B w1 w → Calls Try.prog 12 #[.int .i64 typ, .int .i64 0, .int .i64 (-9223372036854775808), .int .i64 9223372036854775807, .slice none 0 0, .slice none 0 0, .int .i64 fp, .int .i64 tp, .int .i64 cTyp, .int .i64 cHeight, .int .i64 cEpoch] w fun e w' => e = .returned (.bool T) ∧ Below w.heap.size w w'
  h3 : ∀ w, Below B w1 w → Calls Try.prog 12 #[.int .i64 0, .int .i64 height, .int .i64 (-9223372036854775808), .int .i64 9223372036854775807, .slice none 0 0, .slice none 0 0, .int .i64 fp, .int .i64 tp, .int .i64 cTyp, .int .i64 cHeight, .int .i64 cEpoch] w fun e w' => e = .returned (.bool H) ∧ Below w.heap.size w w'
  h4 : ∀ w, Below B w1 w → Calls Try.prog 12 #[.int .i64 0, .int .i64 0, .int .i64 lo, .int .i64 hi, .slice none 0 0, .slice none 0 0, .int .i64 fp, .int .i64 tp, .int .i64 cTyp, .int .i64 cHeight, .int .i64 cEpoch] w fun e w' => e = .returned (.bool E) ∧ Below w.heap.size w w'
  h5 : ∀ w, Below B w1 w → Calls Try.prog 12 #[.int .i64 0, .int .i64 0, .int .i64 (-9223372036854775808), .int .i64 9223372036854775807, v1, .slice none 0 0, .int .i64 fp, .int .i64 tp, .int .i64 cTyp, .int .i64 cHeight, .int .i64 cEpoch] w fun e w' => e = .returned (.bool F) ∧ Below w.heap.size w w'
  h6 : ∀ w, Below B w1 w → Calls Try.prog 12 #[.int .i64 0, .int .i64 0, .int .i64 (-9223372036854775808), .int .i64 9223372036854775807, .slice none 0 0, v2, .int .i64 fp, .int .i64 tp, .int .i64 cTyp, .int .i64 cHeight, .int .i64 cEpoch] w fun e w' => e = .returned (.bool G) ∧ Below w.heap.size w w'
  h7 : ∀ w, Below B w1 w → Calls Try.prog 12 #[.int .i64 0, .int .i64 0, .int .i64 (-9223372036854775808), .int .i64 9223372036854775807, .slice none 0 0, .slice none 0 0, .int .i64 fp, .int .i64 tp, .int .i64 cTyp, .int .i64 cHeight, .int .i64 cEpoch] w fun e w' => e = .returned (.bool true) ∧ Below w.heap.size w w'
  all : Hid (W = (T && H && E && F && G))

theorem seven (w1 : World) (typ height lo hi fp tp cTyp cHeight cEpoch : Int) (v1 v2 : Value) (F G : Bool) (hF : Named w1 v1 fp F) (hG : Named w1 v2 tp G) (e1 : -9223372036854775808 ≤ cEpoch) (e2 : cEpoch ≤ 9223372036854775807) :
    ∃ W T H E, Seven w1.heap.size w1 typ height lo hi fp tp cTyp cHeight cEpoch v1 v2 W T H E F G := by
  have hn := Named.nil w1
  refine ⟨crit typ height lo hi cTyp cHeight cEpoch F G, tB typ cTyp, tB height cHeight, eB lo hi cEpoch, ?_, ?_, ?_, ?_, ?_, ?_, ?_, ?_⟩
  · intro w hb; exact zm_any _ _ _ _ _ _ _ _ _ w _ _ _ _ (hF.old hb) (hG.old hb)
  · intro w hb; have := zm_any typ 0 (-9223372036854775808) 9223372036854775807 fp tp cTyp cHeight cEpoch w _ _ _ _ (Named.nil w fp) (Named.nil w tp); simpa [crit, tB, e1, e2] using this
  · intro w hb; have := zm_any 0 height (-9223372036854775808) 9223372036854775807 fp tp cTyp cHeight cEpoch w _ _ _ _ (Named.nil w fp) (Named.nil w tp); simpa [crit, tB, e1, e2] using this
  · intro w hb; have := zm_any 0 0 lo hi fp tp cTyp cHeight cEpoch w _ _ _ _ (Named.nil w fp) (Named.nil w tp); simpa [crit, eB] using this
  · intro w hb; have := zm_any 0 0 (-9223372036854775808) 9223372036854775807 fp tp cTyp cHeight cEpoch w _ _ _ _ (hF.old hb) (Named.nil w tp); simpa [crit, tB, e1, e2] using this
  · intro w hb; have := zm_any 0 0 (-9223372036854775808) 9223372036854775807 fp tp cTyp cHeight cEpoch w _ _ _ _ (Named.nil w fp) (hG.old hb); simpa [crit, tB, e1, e2] using this
  · intro w hb; have := zm_any 0 0 (-9223372036854775808) 9223372036854775807 fp tp cTyp cHeight cEpoch w _ _ _ _ (Named.nil w fp) (Named.nil w tp); simpa [crit, tB, e1, e2] using this
  · show _ = _
    simp [crit, tB, eB, Bool.and_assoc]
end Go.Proofs.Qxb6602681a
