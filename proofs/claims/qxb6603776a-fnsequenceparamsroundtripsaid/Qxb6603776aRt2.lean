import Derived.Test.Qxb6603776aRt1
namespace Go.Proofs.Qxb6603776a
open Go.RowKit
set_option linter.unusedVariables false
set_option linter.unusedSimpArgs false

theorem info21' : (Try.prog.info? 21).map (fun i => (i.zero, i.size, i.bytes)) = some (some (.int .i32 0), 1, 4) := by kernel_rfl

/-- What stands in the memory while the bytes are fed. -/
structure RtAt (w : World) (C : Array Value) (gp : Nat) (p : PS) (wr : World) : Prop where
  bel : Below w.heap.size w wr
  row : wr.heap[w.heap.size]? = some (.cells C 21)
  p : wr.heap[gp]? = some (.cells p.cells 29)
  lo : w.heap.size + 2 ≤ gp
theorem RtAt.drop {w wr w2 : World} {C : Array Value} {gp : Nat} {p : PS} (h : RtAt w C gp p wr) (hb : Below wr.heap.size wr w2) : RtAt w C gp p w2 :=
  ⟨h.bel.trans (hb.mono h.bel.size), (hb.block _ (heap_lt h.row)).trans h.row, (hb.block _ (heap_lt h.p)).trans h.p, h.lo⟩
theorem RtAt.drew {w wr : World} {C : Array Value} {gp : Nat} {p : PS} (h : RtAt w C gp p wr) : RtAt w C gp p wr.drew := ⟨h.bel.drew, h.row, h.p, h.lo⟩
theorem RtAt.put {w wr : World} {C : Array Value} {gp : Nat} {p : PS} (h : RtAt w C gp p wr) (r : PS) : RtAt w C gp r (wr.setRow gp r.cells) := by
  have h4 := h.lo
  exact ⟨below_setRow h.bel (by omega), (setRow_other wr gp _ _ (by omega)).trans h.row, setRow_heap wr gp _ _ 29 _ h.p, h.lo⟩
theorem RtAt.new {w wr : World} {C : Array Value} {gp : Nat} {p : PS} (h : RtAt w C gp p wr) (O : Obj) : RtAt w C gp p (wr.alloc O) :=
  h.drop ((Below.refl _ _).alloc (Nat.le_refl _) O)
theorem RtAt.cell {w wr : World} {C : Array Value} {gp q : Nat} {p : PS} (h : RtAt w C gp p wr) {x : Int} (hc : C[q]? = some (.int .i32 x)) : wr.cell? ⟨w.heap.size, q, none⟩ = some (.int .i32 x) := by
  rw [cell_of_row _ _ _ _ _ _ h.row]; exact hc
theorem RtAt.start {w w1 : World} {C : Array Value} {O : Obj} {p : PS} (hb1 : Below ((w.alloc (.cells C 21)).alloc O).heap.size ((w.alloc (.cells C 21)).alloc O) w1) :
    RtAt w C w1.heap.size p (w1.alloc (.cells p.cells 29)) := by
  have hz := hb1.size
  simp at hz
  refine ⟨?_, ?_, ?_, by omega⟩
  · exact ((((Below.refl _ _).alloc (Nat.le_refl _) _).alloc (by simp) _).trans (hb1.mono (by simp; omega))).alloc (by omega) _
  · rw [Below.heap_alloc _ _ _ (by omega), hb1.block _ (by simp; omega)]
    exact heap_alloc2_old w _ _
  · exact heap_alloc_last w1 _
/-- .. and while a number's digits are. -/
structure RtDig (w : World) (C : Array Value) (gp : Nat) (p : PS) (gd : Nat) (d : Nat → Int) (wr : World) : Prop where
  fst : RtAt w C gp p wr
  dig : wr.heap[gd]? = some (.cells (row10 d) 40)
  hi : gp < gd
theorem RtDig.start {w wr w3 : World} {C : Array Value} {gp : Nat} {p : PS} (h : RtAt w C gp p wr) (hb : Below wr.heap.size wr w3) (d : Nat → Int) : RtDig w C gp p w3.heap.size d (w3.alloc (.cells (row10 d) 40)) :=
  ⟨(h.drop hb).new _, heap_alloc_last w3 _, heap_lt (h.drop hb).p⟩
theorem RtDig.drop {w wr w2 : World} {C : Array Value} {gp gd : Nat} {d : Nat → Int} {p : PS} (h : RtDig w C gp p gd d wr) (hb : Below wr.drew.heap.size wr.drew w2) : RtDig w C gp p gd d w2 :=
  ⟨h.fst.drew.drop hb, (hb.block _ (heap_lt h.dig)).trans h.dig, h.hi⟩
theorem RtDig.put {w wr : World} {C : Array Value} {gp gd : Nat} {d : Nat → Int} {p : PS} (h : RtDig w C gp p gd d wr) (r : PS) : RtDig w C gp r gd d (wr.setRow gp r.cells) := by
  have h4 := h.hi
  exact ⟨h.fst.put r, (setRow_other wr gp _ _ (by omega)).trans h.dig, h4⟩
theorem RtDig.cell {w wr : World} {C : Array Value} {gp gd : Nat} {d : Nat → Int} {p : PS} (h : RtDig w C gp p gd d wr) {t : Nat} (ht : t < 10) : wr.cell? ⟨gd, t, none⟩ = some (.int .u8 (d t)) := by
  rw [cell_of_row _ _ _ _ _ _ h.dig]; exact row10_get d t ht

section
variable {ops : Array Oper} {rest : List Oper} {op : Oper} {a : Act} {w : World} {Q : Exit → Act → World → Prop}
theorem wl_put10 (hgd : op.guard = none) (x y : Operand) (ho : op.op = .store 40 x y) (g : Nat) (hx : a.eval x = .pointer (some ⟨g, 0, none⟩)) (z : Nat → Int) (hy : a.eval y = .agg (row10 z))
    (c : Array Value) (W : World) (hW : w = W.alloc (.cells c 40)) (hw : g = W.heap.size) (hc : c.size = 10)
    (h : wpList Try.prog ops Q rest (a.put op.dst undef) (W.alloc (.cells (row10 z) 40))) : wpList Try.prog ops Q (op :: rest) a w := by
  subst hw hW
  refine wpList_plain hgd fun K hK => ?_
  unfold Oper.wp execOp
  simp only [ho, hx, hy, Sem.run_bind, run_storeAt_new W 40 c (row10 z) (by rw [size40, row10_size]) (by rw [hc, row10_size]) (one10 z), Sem.run_pure, Result.andThen_ok]
  exact hK _ _ h
end

theorem rt_first (w : World) : Calls Try.prog 11 #[.agg ({ PS.zero with st := 1 } : PS).cells, .int .u8 91] w fun e w' => e = .returned (.tuple #[.agg ({ PS.zero with st := 3, cur := -1 } : PS).cells, .int .u8 0]) ∧ Below w.heap.size w w' := by
  have h := ZZEscapeByte_any { PS.zero with st := 1 } 91 w (by decide) (by decide)
  have e1 : ({ PS.zero with st := 1 } : PS).escByte 91 = { PS.zero with st := 3, cur := -1 } := rfl
  have e2 : ({ PS.zero with st := 1 } : PS).escKind 91 = 0 := rfl
  rw [e1, e2] at h
  exact h
theorem RtAt.three {w wr : World} {C : Array Value} {gp : Nat} (h : RtAt w C gp { PS.zero with st := 3, cur := -1 } wr) : wr.cell? ⟨gp, 0, none⟩ = some (.int .u8 3) := (cells_of h.p).1
theorem parOf_none (z : Nat → Int) : parOf z 0 = PS.zero.params := by
  apply Vector.ext
  intro i hi
  simp [parOf, PS.zero]
/-- Fed one more byte the Parser is p', and nothing is told. -/
def Feeds (p : PS) (c : Int) (p' : PS) : Prop := ∀ w : World, Calls Try.prog 16 #[.agg p.cells, .int .u8 c] w fun e w' => e = .returned (.tuple #[.agg p'.cells, .int .u8 0]) ∧ Below w.heap.size w w'
theorem rt_start0 (z : Nat → Int) (L : Nat) : RT PS.zero.inter 0 z L 0 0 (-1) { PS.zero with st := 3, cur := -1 } := by
  refine ⟨.inl ⟨3, ?_, by omega, by omega⟩, .inl rfl⟩
  unfold rtp
  rw [parOf_none]
  rfl
theorem rt_startM (z : Nat → Int) (L : Nat) (mk : Int) (m1 : 60 ≤ mk) (m2 : mk ≤ 63) : ∃ p', RT (PS.zero.inter.setIfInBounds 0 mk) 1 z L 0 0 (-1) p' ∧ Feeds { PS.zero with st := 3, cur := -1 } mk p' := by
  refine ⟨({ PS.zero with st := 3, cur := -1 } : PS).seqByte mk, ?_, fun w => ?_⟩
  · refine ⟨.inl ⟨4, ?_, by omega, by omega⟩, .inr ?_⟩
    · rw [PS.seqByte, if_neg (by omega), if_neg (by omega), if_neg (by simp), if_pos m1, if_pos rfl, PS.collect, if_neg (by simp [PS.zero])]
      unfold rtp
      rw [parOf_none]
      simp [PS.at, PS.zero]
    · rw [PS.seqByte, if_neg (by omega), if_neg (by omega), if_neg (by simp), if_pos m1, if_pos rfl]
      rfl
  · have h := ZZSequenceByte_any { PS.zero with st := 3, cur := -1 } mk w (by decide) (by decide) (by decide) (by decide) (by decide) (by decide)
    rw [seqKind_low _ _ (by omega)] at h
    exact h
theorem RT.feeds {I : Vector Int 3} {N : Int} {z : Nat → Int} {L np n : Nat} {cur : Int} {p : PS} (h : RT I N z L np n cur p) (hN0 : 0 ≤ N) (hN1 : N ≤ 3) (c : Int) (hc : c < 64) : Feeds p c (p.seqByte c) := fun w => by
  obtain ⟨a, b, c1, d, e⟩ := h.bd
  have h := ZZSequenceByte_any p c w (by omega) (by omega) a (by omega) c1 d
  rw [seqKind_low _ _ hc] at h
  exact h
theorem rt_semi {I : Vector Int 3} {N : Int} {z : Nat → Int} {L np n : Nat} {p : PS} (h : RT I N z L np n (z np) p) (hN0 : 0 ≤ N) (hN1 : N ≤ 3) (hL : np + 1 < L) (hz : -1 ≤ z np ∧ z np ≤ 2147483647) :
    ∃ p', RT I N z L (np + 1) (n + 1) (-1) p' ∧ Feeds p 59 p' := ⟨_, h.semi hL hz.1 hz.2, h.feeds hN0 hN1 _ (by decide)⟩
/-- The number under way, t digits in. -/
def curOf (d : Nat → Int) (t : Nat) : Int := if t = 0 then -1 else numOf d 0 t
theorem numOf_part (d : Nat → Int) (v m : Nat) (hd : ∀ i, i < m → d i = digOf v m i) (hv : v < 10 ^ m) (k : Nat) (hk : k ≤ m) : numOf d 0 k = ((v / 10 ^ (m - k) : Nat) : Int) :=
  numOf_digs v m d 0 (fun i hi => by rw [Nat.zero_add]; exact hd i hi) (Nat.div_eq_of_lt hv) k hk
theorem rt_digit {I : Vector Int 3} {N : Int} {z : Nat → Int} {L np n t v m : Nat} {d : Nat → Int} {p : PS} (h : RT I N z L np n (curOf d t) p) (hN0 : 0 ≤ N) (hN1 : N ≤ 3) (hd : ∀ i, i < m → d i = digOf v m i) (hv : v < 10 ^ m) (hv2 : v ≤ 2147483647) (ht : t < m) :
    ∃ p', RT I N z L np (n + 1) (curOf d (t + 1)) p' ∧ Feeds p (d t) p' := by
  have hb := digOf_bd v m t
  rw [← hd t ht] at hb
  have e0 := numOf_part d v m hd hv t (by omega)
  have e1 := numOf_part d v m hd hv (t + 1) (by omega)
  have b0 : v / 10 ^ (m - t) ≤ v := Nat.div_le_self _ _
  have b1 : v / 10 ^ (m - (t + 1)) ≤ v := Nat.div_le_self _ _
  refine ⟨_, h.digit (nx := curOf d (t + 1)) hb.1 hb.2 ?_ ?_, h.feeds hN0 hN1 _ (by omega)⟩
  · unfold curOf
    rw [if_neg (Nat.succ_ne_zero t)]
    by_cases h0 : t = 0
    · subst h0
      rw [if_pos rfl, nextCur_neg (by decide) hb.1 hb.2]
      simp [numOf]
    · rw [if_neg h0, nextCur_in (by rw [e0]; exact Int.natCast_nonneg _) (by omega) hb.1 hb.2]
      simp [numOf]
  · unfold curOf
    rw [if_neg (Nat.succ_ne_zero t), e1]
    omega
theorem curOf_all (d : Nat → Int) (v m : Nat) (hd : ∀ i, i < m → d i = digOf v m i) (hv : v < 10 ^ m) (hm : 1 ≤ m) : curOf d m = (v : Int) := by
  unfold curOf
  rw [if_neg (by omega), numOf_part d v m hd hv m (Nat.le_refl _)]
  simp
/-- What the Parser is at the head of a round of the outer loop. -/
def RtHead (I : Vector Int 3) (N : Int) (z : Nat → Int) (L q n : Nat) (p : PS) : Prop := (q = 0 ∧ n = 0 ∧ RT I N z L 0 0 (-1) p) ∨ (∃ r, q = r + 1 ∧ RT I N z L r n (z r) p)
theorem rt_final {I : Vector Int 3} {N : Int} {z : Nat → Int} {np n : Nat} {f : Int} {p : PS} (h : RT I N z (np + 1) np n (z np) p) (hN0 : 0 ≤ N) (hN1 : N ≤ 3) (f1 : 64 ≤ f) (hz : -1 ≤ z np ∧ z np ≤ 2147483647) :
    ∃ (r : PS) (kk : Int), (∀ w : World, Calls Try.prog 16 #[.agg p.cells, .int .u8 f] w fun e w' => e = .returned (.tuple #[.agg r.cells, .int .u8 kk]) ∧ Below w.heap.size w w') ∧
    ((23 < np + 1 ∨ 63 < n) → kk = 0 ∧ r.st = 0 ∧ r.fin = 0) ∧ (¬ (23 < np + 1 ∨ 63 < n) → kk = 4 ∧ r = ⟨0, false, false, f, I, N, parOf z (np + 1), ((np + 1 : Nat) : Int), 0, n, -1, false, false⟩) := by
  obtain ⟨a, b, c1, d, e⟩ := h.bd
  refine ⟨_, _, fun w => ZZSequenceByte_any p f w (by omega) (by omega) a (by omega) c1 d, fun hb => h.last_no f1 hb, fun hb => h.last_ok f1 (by omega) (by omega) hz.1 hz.2⟩
end Go.Proofs.Qxb6603776a
