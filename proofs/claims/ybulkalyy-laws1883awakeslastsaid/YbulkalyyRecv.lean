import Derived.Test.YbulkalyyTurn
namespace Go.Proofs.Ybulkalyy
open Go.ChangeShapes Go.WideShapes Go.ChangeAt Go.RowKit Go.Conc

theorem put_same {a : Act} {d : Option Tmp} {i : Nat} {v : Value} (hd : d = some i) (h : i < a.tmps.size) : (a.put d v).eval (.tmp i) = v := by
  subst hd; simp [Act.put, Act.eval, h]
theorem put_ne {a : Act} {d : Option Tmp} {i j : Nat} {v u : Value} (hd : d = some i) (h : i ≠ j) (hu : a.eval (.tmp j) = u) : (a.put d v).eval (.tmp j) = u := by
  subst hd hu; simp [Act.put, Act.eval, Array.getD_eq_getD_getElem?, Array.getElem?_setIfInBounds_ne h]
theorem put_lt {a : Act} {d : Option Tmp} {v : Value} {n : Nat} (h : n < a.tmps.size) : n < (a.put d v).tmps.size := by
  cases d <;> simpa [Act.put] using h

section
variable {P : Program} {w : World} {ev : Operand → Value}
theorem run_move' {o : Oper} {x : Operand} {v : Value} (ho : o.op = .move x) (h : ev x = v) : (execOp ev o).run P w = .ok (.value v) w := by
  subst h; simp [execOp, ho]
theorem run_assign' {o : Oper} {x : Operand} {v : Value} (ho : o.op = .assign x) (h : ev x = v) : (execOp ev o).run P w = .ok (.value v) w := by
  subst h; simp [execOp, ho]
end
set_option maxHeartbeats 400000 in
theorem run_nil' {w : World} {ev : Operand → Value} {o : Oper} {x : Operand} {a : Addr} (ho : o.op = .nilCheck x) (h : ev x = .pointer (some a)) : (execOp ev o).run Yba.prog w = .ok (.value (.pointer (some a))) w := by
  simp [execOp, ho, h, go_sem]
theorem run_field' {w : World} {ev : Operand → Value} {o : Oper} {x : Operand} {cb : Nat} (ho : o.op = .fieldAddr 51 x 7) (h : ev x = .pointer (some ⟨cb, 0, none⟩)) : (execOp ev o).run Yba.prog w = .ok (.value (.pointer (some ⟨cb, 15, none⟩))) w := by
  simp [execOp, ho, h, go_sem]
theorem run_load48 {w : World} {ev : Operand → Value} {o : Oper} {x : Operand} {a : Addr} {v : Value} (ho : o.op = .load 48 x) (h : ev x = .pointer (some a)) (hv : w.cell? a = some v) : (execOp ev o).run Yba.prog w = .ok (.value v) w := by
  simp [execOp, ho, h, hv, go_sem]
theorem run_load54 {w : World} {ev : Operand → Value} {o : Oper} {x : Operand} {a : Addr} {v : Value} (ho : o.op = .load 54 x) (h : ev x = .pointer (some a)) (hv : w.cell? a = some v) : (execOp ev o).run Yba.prog w = .ok (.value v) w := by
  simp [execOp, ho, h, hv, go_sem]
theorem run_index' {w : World} {ev : Operand → Value} {o : Oper} {x y : Operand} {wb n cap j : Nat} (ho : o.op = .indexAddr 48 x y) (h : ev x = .slice (some ⟨wb, 0, none⟩) n cap) (hy : ev y = .int .i64 j) (hj : j < n) : (execOp ev o).run Yba.prog w = .ok (.value (.pointer (some ⟨wb, j, none⟩))) w := by
  simp [execOp, ho, h, hy, go_sem, hj]
end Go.Proofs.Ybulkalyy
