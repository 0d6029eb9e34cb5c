import Derived.Test.Qxb6603776aRows
import Derived.WalkKit
import Derived.WalkSpells
namespace Go.Proofs.Qxb6603776a
set_option linter.unusedSimpArgs false

/-- A Parser's fields (PState, ZZFields, Parser: one lay-out of 37 cells). -/
structure PS where
  st : Int
  dis : Bool
  frn : Bool
  fin : Int
  inter : Vector Int 3
  nin : Int
  params : Vector Int 23
  np : Int
  col : Int
  pb : Int
  cur : Int
  inc : Bool
  ovf : Bool

def PS.interC (s : PS) : Array Value := (s.inter.map (Value.int .u8)).toArray
def PS.paramsC (s : PS) : Array Value := (s.params.map (Value.int .i32)).toArray
/-- The 37 cells. -/
def PS.cells (s : PS) : Array Value :=
  #[.int .u8 s.st, .bool s.dis, .bool s.frn, .int .u8 s.fin] ++ s.interC ++ #[.int .u8 s.nin] ++ s.paramsC ++
    #[.int .u8 s.np, .int .u32 s.col, .int .u8 s.pb, .int .i64 s.cur, .bool s.inc, .bool s.ovf]

theorem PS.interC_size (s : PS) : s.interC.size = 3 := by simp [PS.interC]
theorem PS.paramsC_size (s : PS) : s.paramsC.size = 23 := by simp [PS.paramsC]
theorem PS.cells_size (s : PS) : s.cells.size = 37 := by simp [PS.cells, PS.interC, PS.paramsC]

theorem PS.c0 (s : PS) : s.cells[0]? = some (.int .u8 s.st) := by simp [PS.cells, Array.getElem?_append, Array.getElem_append, PS.interC_size, PS.paramsC_size, Array.getElem_push]
theorem PS.c1 (s : PS) : s.cells[1]? = some (.bool s.dis) := by simp [PS.cells, Array.getElem?_append, Array.getElem_append, PS.interC_size, PS.paramsC_size, Array.getElem_push]
theorem PS.c2 (s : PS) : s.cells[2]? = some (.bool s.frn) := by simp [PS.cells, Array.getElem?_append, Array.getElem_append, PS.interC_size, PS.paramsC_size, Array.getElem_push]
theorem PS.c3 (s : PS) : s.cells[3]? = some (.int .u8 s.fin) := by simp [PS.cells, Array.getElem?_append, Array.getElem_append, PS.interC_size, PS.paramsC_size, Array.getElem_push]
theorem PS.c7 (s : PS) : s.cells[7]? = some (.int .u8 s.nin) := by simp [PS.cells, Array.getElem?_append, Array.getElem_append, PS.interC_size, PS.paramsC_size, Array.getElem_push]
theorem PS.c31 (s : PS) : s.cells[31]? = some (.int .u8 s.np) := by simp [PS.cells, Array.getElem?_append, Array.getElem_append, PS.interC_size, PS.paramsC_size, Array.getElem_push]
theorem PS.c32 (s : PS) : s.cells[32]? = some (.int .u32 s.col) := by simp [PS.cells, Array.getElem?_append, Array.getElem_append, PS.interC_size, PS.paramsC_size, Array.getElem_push]
theorem PS.c33 (s : PS) : s.cells[33]? = some (.int .u8 s.pb) := by simp [PS.cells, Array.getElem?_append, Array.getElem_append, PS.interC_size, PS.paramsC_size, Array.getElem_push]
theorem PS.c34 (s : PS) : s.cells[34]? = some (.int .i64 s.cur) := by simp [PS.cells, Array.getElem?_append, Array.getElem_append, PS.interC_size, PS.paramsC_size, Array.getElem_push]
theorem PS.c35 (s : PS) : s.cells[35]? = some (.bool s.inc) := by simp [PS.cells, Array.getElem?_append, Array.getElem_append, PS.interC_size, PS.paramsC_size, Array.getElem_push]
theorem PS.c36 (s : PS) : s.cells[36]? = some (.bool s.ovf) := by simp [PS.cells, Array.getElem?_append, Array.getElem_append, PS.interC_size, PS.paramsC_size, Array.getElem_push]
theorem PS.cI (s : PS) (i : Nat) (h : i < 3) : s.cells[4 + i]? = some (.int .u8 (s.inter[i])) := by
  rw [PS.cells, Array.getElem?_append, if_pos (by simp [PS.interC_size, PS.paramsC_size]; omega), Array.getElem?_append, if_pos (by simp [PS.interC_size]; omega), Array.getElem?_append, if_pos (by simp [PS.interC_size]; omega), Array.getElem?_append, if_neg (by simp)]
  simp [PS.interC, h]
theorem PS.cP (s : PS) (i : Nat) (h : i < 23) : s.cells[8 + i]? = some (.int .i32 (s.params[i])) := by
  rw [PS.cells, Array.getElem?_append, if_pos (by simp [PS.interC_size, PS.paramsC_size]; omega), Array.getElem?_append, if_neg (by simp [PS.interC_size])]
  simp [PS.interC_size]
  simp [PS.paramsC, h]
theorem PS.s0 (s : PS) (x : Int) : s.cells.setIfInBounds 0 (.int .u8 x) = ({ s with st := x } : PS).cells := by
  simp [PS.cells, Array.setIfInBounds, Array.set_append, Array.set_push, PS.interC_size, PS.paramsC_size, PS.interC, PS.paramsC]
theorem PS.s1 (s : PS) (x : Bool) : s.cells.setIfInBounds 1 (.bool x) = ({ s with dis := x } : PS).cells := by
  simp [PS.cells, Array.setIfInBounds, Array.set_append, Array.set_push, PS.interC_size, PS.paramsC_size, PS.interC, PS.paramsC]
theorem PS.s2 (s : PS) (x : Bool) : s.cells.setIfInBounds 2 (.bool x) = ({ s with frn := x } : PS).cells := by
  simp [PS.cells, Array.setIfInBounds, Array.set_append, Array.set_push, PS.interC_size, PS.paramsC_size, PS.interC, PS.paramsC]
theorem PS.s3 (s : PS) (x : Int) : s.cells.setIfInBounds 3 (.int .u8 x) = ({ s with fin := x } : PS).cells := by
  simp [PS.cells, Array.setIfInBounds, Array.set_append, Array.set_push, PS.interC_size, PS.paramsC_size, PS.interC, PS.paramsC]
theorem PS.s7 (s : PS) (x : Int) : s.cells.setIfInBounds 7 (.int .u8 x) = ({ s with nin := x } : PS).cells := by
  simp [PS.cells, Array.setIfInBounds, Array.set_append, Array.set_push, PS.interC_size, PS.paramsC_size, PS.interC, PS.paramsC]
theorem PS.s31 (s : PS) (x : Int) : s.cells.setIfInBounds 31 (.int .u8 x) = ({ s with np := x } : PS).cells := by
  simp [PS.cells, Array.setIfInBounds, Array.set_append, Array.set_push, PS.interC_size, PS.paramsC_size, PS.interC, PS.paramsC]
theorem PS.s32 (s : PS) (x : Int) : s.cells.setIfInBounds 32 (.int .u32 x) = ({ s with col := x } : PS).cells := by
  simp [PS.cells, Array.setIfInBounds, Array.set_append, Array.set_push, PS.interC_size, PS.paramsC_size, PS.interC, PS.paramsC]
theorem PS.s33 (s : PS) (x : Int) : s.cells.setIfInBounds 33 (.int .u8 x) = ({ s with pb := x } : PS).cells := by
  simp [PS.cells, Array.setIfInBounds, Array.set_append, Array.set_push, PS.interC_size, PS.paramsC_size, PS.interC, PS.paramsC]
theorem PS.s34 (s : PS) (x : Int) : s.cells.setIfInBounds 34 (.int .i64 x) = ({ s with cur := x } : PS).cells := by
  simp [PS.cells, Array.setIfInBounds, Array.set_append, Array.set_push, PS.interC_size, PS.paramsC_size, PS.interC, PS.paramsC]
theorem PS.s35 (s : PS) (x : Bool) : s.cells.setIfInBounds 35 (.bool x) = ({ s with inc := x } : PS).cells := by
  simp [PS.cells, Array.setIfInBounds, Array.set_append, Array.set_push, PS.interC_size, PS.paramsC_size, PS.interC, PS.paramsC]
theorem PS.s36 (s : PS) (x : Bool) : s.cells.setIfInBounds 36 (.bool x) = ({ s with ovf := x } : PS).cells := by
  simp [PS.cells, Array.setIfInBounds, Array.set_append, Array.set_push, PS.interC_size, PS.paramsC_size, PS.interC, PS.paramsC]
theorem PS.sI (s : PS) (i : Nat) (h : i < 3) (x : Int) : s.cells.setIfInBounds (4 + i) (.int .u8 x) = ({ s with inter := s.inter.setIfInBounds i x } : PS).cells := by
  have h1 : 4 + i < 37 := by omega
  have h2 : i < 4 := by omega
  simp [PS.cells, Array.setIfInBounds, Array.set_append, Array.set_push, PS.interC_size, PS.paramsC_size, PS.interC, PS.paramsC, h, h1, h2, Vector.setIfInBounds]
theorem PS.sP (s : PS) (i : Nat) (h : i < 23) (x : Int) : s.cells.setIfInBounds (8 + i) (.int .i32 x) = ({ s with params := s.params.setIfInBounds i x } : PS).cells := by
  have h1 : 8 + i < 37 := by omega
  have h2 : ¬ 8 + i < 4 := by omega
  have h3 : ¬ 8 + i - 4 < 4 := by omega
  have h4 : 8 + i - 4 - 4 = i := by omega
  simp [PS.cells, Array.setIfInBounds, Array.set_append, Array.set_push, PS.interC_size, PS.paramsC_size, PS.interC, PS.paramsC, h, h1, h2, h3, h4, Vector.setIfInBounds]
theorem PS.eI (s : PS) : s.cells.extract 4 7 = s.interC := by
  simp [PS.cells, Array.extract_append, PS.interC_size, PS.paramsC_size]
theorem PS.eP (s : PS) : s.cells.extract 8 31 = s.paramsC := by
  simp [PS.cells, Array.extract_append, PS.interC_size, PS.paramsC_size]
  rw [Array.extract_eq_self_of_le (by simp [PS.paramsC_size]), Array.extract_empty_of_stop_le_start (by omega)]
  simp
end Go.Proofs.Qxb6603776a
