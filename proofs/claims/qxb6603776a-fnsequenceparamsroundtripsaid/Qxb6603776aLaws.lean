import Derived.Test.Qxb6603776aPS
import Derived.Deep.MidRow
import Derived.Deep.WholeRow
import Derived.Outline
import Derived.Below
import Derived.StillTailTactics
namespace Go.Proofs.Qxb6603776a
open Go.RowKit

theorem three (l : List Int) (h : l.length = 3) : ∃ a b c, l = [a, b, c] := by
  match l, h with
  | [a, b, c], _ => exact ⟨a, b, c, rfl⟩
theorem twentythree (l : List Int) (h : l.length = 23) : ∃ p0 p1 p2 p3 p4 p5 p6 p7 p8 p9 p10 p11 p12 p13 p14 p15 p16 p17 p18 p19 p20 p21 p22, l = [p0, p1, p2, p3, p4, p5, p6, p7, p8, p9, p10, p11, p12, p13, p14, p15, p16, p17, p18, p19, p20, p21, p22] := by
  match l, h with
  | [p0, p1, p2, p3, p4, p5, p6, p7, p8, p9, p10, p11, p12, p13, p14, p15, p16, p17, p18, p19, p20, p21, p22], _ => exact ⟨p0, p1, p2, p3, p4, p5, p6, p7, p8, p9, p10, p11, p12, p13, p14, p15, p16, p17, p18, p19, p20, p21, p22, rfl⟩

theorem build28 (s : PS) (w : World) : (Instr.build 28 #[(0, .int .u8 s.st), (1, .bool s.dis), (2, .bool s.frn), (3, .int .u8 s.fin), (4, .agg s.interC), (5, .int .u8 s.nin), (6, .agg s.paramsC), (7, .int .u8 s.np), (8, .int .u32 s.col), (9, .int .u8 s.pb), (10, .int .i64 s.cur), (11, .bool s.inc), (12, .bool s.ovf)]).run Try.prog w = .ok (.agg s.cells) w := by
  rcases s with ⟨st, dis, frn, fin, ⟨⟨il⟩, hi⟩, nin, ⟨⟨pl⟩, hp⟩, np, col, pb, cur, inc, ovf⟩
  obtain ⟨i0, i1, i2, rfl⟩ := three il hi
  obtain ⟨p0, p1, p2, p3, p4, p5, p6, p7, p8, p9, p10, p11, p12, p13, p14, p15, p16, p17, p18, p19, p20, p21, p22, rfl⟩ := twentythree pl hp
  kernel_rfl
theorem size28 : (Try.prog.info? 28).map (·.size) = some 37 := by kernel_rfl

theorem build29 (s : PS) (w : World) : (Instr.build 29 #[(0, .int .u8 s.st), (1, .bool s.dis), (2, .bool s.frn), (3, .int .u8 s.fin), (4, .agg s.interC), (5, .int .u8 s.nin), (6, .agg s.paramsC), (7, .int .u8 s.np), (8, .int .u32 s.col), (9, .int .u8 s.pb), (10, .int .i64 s.cur), (11, .bool s.inc), (12, .bool s.ovf)]).run Try.prog w = .ok (.agg s.cells) w := by
  rcases s with ⟨st, dis, frn, fin, ⟨⟨il⟩, hi⟩, nin, ⟨⟨pl⟩, hp⟩, np, col, pb, cur, inc, ovf⟩
  obtain ⟨i0, i1, i2, rfl⟩ := three il hi
  obtain ⟨p0, p1, p2, p3, p4, p5, p6, p7, p8, p9, p10, p11, p12, p13, p14, p15, p16, p17, p18, p19, p20, p21, p22, rfl⟩ := twentythree pl hp
  kernel_rfl
theorem size29 : (Try.prog.info? 29).map (·.size) = some 37 := by kernel_rfl

theorem build49 (s : PS) (w : World) : (Instr.build 49 #[(0, .int .u8 s.st), (1, .bool s.dis), (2, .bool s.frn), (3, .int .u8 s.fin), (4, .agg s.interC), (5, .int .u8 s.nin), (6, .agg s.paramsC), (7, .int .u8 s.np), (8, .int .u32 s.col), (9, .int .u8 s.pb), (10, .int .i64 s.cur), (11, .bool s.inc), (12, .bool s.ovf)]).run Try.prog w = .ok (.agg s.cells) w := by
  rcases s with ⟨st, dis, frn, fin, ⟨⟨il⟩, hi⟩, nin, ⟨⟨pl⟩, hp⟩, np, col, pb, cur, inc, ovf⟩
  obtain ⟨i0, i1, i2, rfl⟩ := three il hi
  obtain ⟨p0, p1, p2, p3, p4, p5, p6, p7, p8, p9, p10, p11, p12, p13, p14, p15, p16, p17, p18, p19, p20, p21, p22, rfl⟩ := twentythree pl hp
  kernel_rfl
theorem size49 : (Try.prog.info? 49).map (·.size) = some 37 := by kernel_rfl

theorem size24 : (Try.prog.info? 24).map (·.size) = some 3 := by kernel_rfl
theorem size25 : (Try.prog.info? 25).map (·.size) = some 23 := by kernel_rfl
theorem one_cells (s : PS) : s.cells.all (·.oneCell') = true := by
  rcases s with ⟨st, dis, frn, fin, ⟨⟨il⟩, hi⟩, nin, ⟨⟨pl⟩, hp⟩, np, col, pb, cur, inc, ovf⟩
  obtain ⟨i0, i1, i2, rfl⟩ := three il hi
  obtain ⟨p0, p1, p2, p3, p4, p5, p6, p7, p8, p9, p10, p11, p12, p13, p14, p15, p16, p17, p18, p19, p20, p21, p22, rfl⟩ := twentythree pl hp
  kernel_rfl

section
variable {ops : Array Oper} {rest : List Oper} {op : Oper} {a : Act} {w : World} {Q : Exit → Act → World → Prop}

/-- The three intermediate bytes, by value. -/
theorem wl_load24 (hgd : op.guard = none) (x : Operand) (ho : op.op = .load 24 x) (g : Nat) (hx : a.eval x = .pointer (some ⟨g, 4, none⟩)) (s : PS) (t : TypeId)
    (hg : w.heap[g]? = some (.cells s.cells t (0, 0))) (h : wpList Try.prog ops Q rest (a.put op.dst (.agg s.interC)) w) : wpList Try.prog ops Q (op :: rest) a w := by
  have hr := World.rangeAt_of_block hg 4 3
  rw [show 4 + 3 = 7 from rfl, PS.eI] at hr
  exact wpList_load_mid hgd 24 x ho g 4 hx _ _ hr Try.underlying24 rfl (by rw [size24]; simp [PS.interC_size]) (by simpa using h)
theorem wl_load25 (hgd : op.guard = none) (x : Operand) (ho : op.op = .load 25 x) (g : Nat) (hx : a.eval x = .pointer (some ⟨g, 8, none⟩)) (s : PS) (t : TypeId)
    (hg : w.heap[g]? = some (.cells s.cells t (0, 0))) (h : wpList Try.prog ops Q rest (a.put op.dst (.agg s.paramsC)) w) : wpList Try.prog ops Q (op :: rest) a w := by
  have hr := World.rangeAt_of_block hg 8 23
  rw [show 8 + 23 = 31 from rfl, PS.eP] at hr
  exact wpList_load_mid hgd 25 x ho g 8 hx _ _ hr Try.underlying25 rfl (by rw [size25]; simp [PS.paramsC_size]) (by simpa using h)
theorem isRow28 : ∃ d, Try.prog.underlying 28 = some d ∧ d.isRow = true := ⟨_, Try.underlying28, rfl⟩
theorem isRow29 : ∃ d, Try.prog.underlying 29 = some d ∧ d.isRow = true := ⟨_, Try.underlying29, rfl⟩
theorem isRow49 : ∃ d, Try.prog.underlying 49 = some d ∧ d.isRow = true := ⟨_, Try.underlying49, rfl⟩
/-- The whole struct, by value. -/
theorem wl_load (T : TypeId) (hT : ∃ d, Try.prog.underlying T = some d ∧ d.isRow = true) (hi : (Try.prog.info? T).map (·.size) = some 37)
    (hgd : op.guard = none) (x : Operand) (ho : op.op = .load T x) (g : Nat) (hx : a.eval x = .pointer (some ⟨g, 0, none⟩)) (s : PS) (t : TypeId)
    (hg : w.heap[g]? = some (.cells s.cells t (0, 0))) (h : wpList Try.prog ops Q rest (a.put op.dst (.agg s.cells)) w) : wpList Try.prog ops Q (op :: rest) a w := by
  obtain ⟨d, hu, hd⟩ := hT
  exact wpList_load_row hgd T x ho g hx t s.cells (0, 0) d hg hu (by cases d <;> simp_all [TypeDesc.isRow]) (by rw [hi, PS.cells_size]) h
/-- The whole struct into the block that was made last. -/
theorem wl_store (T : TypeId) (hi : (Try.prog.info? T).map (·.size) = some 37)
    (hgd : op.guard = none) (x y : Operand) (ho : op.op = .store T x y) (g : Nat) (hx : a.eval x = .pointer (some ⟨g, 0, none⟩)) (s : PS) (hy : a.eval y = .agg s.cells)
    (c : Array Value) (W : World) (hW : w = W.alloc (.cells c T)) (hw : g = W.heap.size) (hc : c.size = 37)
    (h : wpList Try.prog ops Q rest (a.put op.dst undef) (W.alloc (.cells s.cells T))) : wpList Try.prog ops Q (op :: rest) a w := by
  subst hw hW
  refine wpList_plain hgd fun K hK => ?_
  unfold Oper.wp execOp
  simp only [ho, hx, hy, Sem.run_bind, run_storeAt_new W T c s.cells (by rw [hi, PS.cells_size]) (by rw [hc, PS.cells_size]) (one_cells s), Sem.run_pure, Result.andThen_ok]
  exact hK _ _ h
theorem wl_build (T : TypeId) (parts : Array (Nat × Operand)) (hgd : op.guard = none) (ho : op.op = .build T parts) (s : PS)
    (hb : ∀ w, (Instr.build T #[(0, .int .u8 s.st), (1, .bool s.dis), (2, .bool s.frn), (3, .int .u8 s.fin), (4, .agg s.interC), (5, .int .u8 s.nin), (6, .agg s.paramsC), (7, .int .u8 s.np), (8, .int .u32 s.col), (9, .int .u8 s.pb), (10, .int .i64 s.cur), (11, .bool s.inc), (12, .bool s.ovf)]).run Try.prog w = .ok (.agg s.cells) w)
    (hp : parts.toList.map (fun p => (p.1, a.eval p.2)) = [(0, .int .u8 s.st), (1, .bool s.dis), (2, .bool s.frn), (3, .int .u8 s.fin), (4, .agg s.interC), (5, .int .u8 s.nin), (6, .agg s.paramsC), (7, .int .u8 s.np), (8, .int .u32 s.col), (9, .int .u8 s.pb), (10, .int .i64 s.cur), (11, .bool s.inc), (12, .bool s.ovf)])
    (h : wpList Try.prog ops Q rest (a.put op.dst (.agg s.cells)) w) : wpList Try.prog ops Q (op :: rest) a w := by
  refine wpList_plain hgd fun K hK => ?_
  have hp' := congrArg List.toArray hp
  rw [← List.map_toArray] at hp'
  simp only [Array.toArray_toList] at hp'
  unfold Oper.wp execOp
  simp only [ho, hp', Sem.run_bind, hb, Sem.run_pure, Result.andThen_ok]
  exact hK _ _ h

/-! In a region that draws its order: operations that only read. -/
variable {QS : Act → Prop}
theorem ws_step (hgd : op.guard = none) (v : Value) (hv : (execOp a.eval op).run Try.prog w = .ok (.value v) w) (h : wpStill Try.prog ops w QS rest (a.put op.dst v)) : wpStill Try.prog ops w QS (op :: rest) a := by
  unfold wpStill
  rw [if_pos (by simp [Region.wanted, hgd])]
  unfold Oper.still
  rw [hv]
  exact ⟨rfl, h⟩
theorem ws_load24 (hgd : op.guard = none) (x : Operand) (ho : op.op = .load 24 x) (g : Nat) (hx : a.eval x = .pointer (some ⟨g, 4, none⟩)) (s : PS) (t : TypeId)
    (hg : w.heap[g]? = some (.cells s.cells t (0, 0))) (h : wpStill Try.prog ops w QS rest (a.put op.dst (.agg s.interC))) : wpStill Try.prog ops w QS (op :: rest) a := by
  have hr := World.rangeAt_of_block hg 4 3
  rw [show 4 + 3 = 7 from rfl, PS.eI] at hr
  refine ws_step hgd _ ?_ h
  have := run_loadAt_mid (P := Try.prog) w g 4 24 _ _ hr Try.underlying24 rfl (by rw [size24]; simp [PS.interC_size])
  unfold execOp
  simp only [ho, hx, Sem.run_bind, this, Sem.run_pure, Result.andThen_ok, Array.toArray_toList]
theorem ws_load25 (hgd : op.guard = none) (x : Operand) (ho : op.op = .load 25 x) (g : Nat) (hx : a.eval x = .pointer (some ⟨g, 8, none⟩)) (s : PS) (t : TypeId)
    (hg : w.heap[g]? = some (.cells s.cells t (0, 0))) (h : wpStill Try.prog ops w QS rest (a.put op.dst (.agg s.paramsC))) : wpStill Try.prog ops w QS (op :: rest) a := by
  have hr := World.rangeAt_of_block hg 8 23
  rw [show 8 + 23 = 31 from rfl, PS.eP] at hr
  refine ws_step hgd _ ?_ h
  have := run_loadAt_mid (P := Try.prog) w g 8 25 _ _ hr Try.underlying25 rfl (by rw [size25]; simp [PS.paramsC_size])
  unfold execOp
  simp only [ho, hx, Sem.run_bind, this, Sem.run_pure, Result.andThen_ok, Array.toArray_toList]
theorem ws_build (T : TypeId) (parts : Array (Nat × Operand)) (hgd : op.guard = none) (ho : op.op = .build T parts) (s : PS)
    (hb : ∀ w, (Instr.build T #[(0, .int .u8 s.st), (1, .bool s.dis), (2, .bool s.frn), (3, .int .u8 s.fin), (4, .agg s.interC), (5, .int .u8 s.nin), (6, .agg s.paramsC), (7, .int .u8 s.np), (8, .int .u32 s.col), (9, .int .u8 s.pb), (10, .int .i64 s.cur), (11, .bool s.inc), (12, .bool s.ovf)]).run Try.prog w = .ok (.agg s.cells) w)
    (hp : parts.toList.map (fun p => (p.1, a.eval p.2)) = [(0, .int .u8 s.st), (1, .bool s.dis), (2, .bool s.frn), (3, .int .u8 s.fin), (4, .agg s.interC), (5, .int .u8 s.nin), (6, .agg s.paramsC), (7, .int .u8 s.np), (8, .int .u32 s.col), (9, .int .u8 s.pb), (10, .int .i64 s.cur), (11, .bool s.inc), (12, .bool s.ovf)])
    (h : wpStill Try.prog ops w QS rest (a.put op.dst (.agg s.cells))) : wpStill Try.prog ops w QS (op :: rest) a := by
  refine ws_step hgd _ ?_ h
  have hp' := congrArg List.toArray hp
  rw [← List.map_toArray] at hp'
  simp only [Array.toArray_toList] at hp'
  unfold execOp
  simp only [ho, hp', Sem.run_bind, hb, Sem.run_pure, Result.andThen_ok]
end
theorem region_still_tail {P : Program} {id : Nat} {Q : Exit → Act → World → Prop} {a : Act} {w : World} {l : List Oper} (n : Nat) (hm : P.follows .mixedOrders = true) (hB : Region.lexTailB .any l.toArray n = true)
    (h : wpStill P l.toArray w.drew (fun a' => wpList P l.toArray Q (l.drop n) a' w.drew) (l.take n) a) : (Code.region id l.toArray true).wp P Q a w :=
  wp_region_still_tail n hm hB h
end Go.Proofs.Qxb6603776a
