/-
  '[]plan.Item{item}' as one operation: a new row of 27 cells.
-/
import Derived.Test.Qxb6623500aLead
import Derived.Great.Walk
import Derived.Great.BuildSlice
namespace Go.Proofs.Qxb6623500a
open Go.ChangeShapes Go.WideShapes Go.ChangeAt Go.RowKit
set_option linter.unusedVariables false      -- a walk need not use every bound

theorem info41 : ∃ i z, Try.prog.info? 41 = some i ∧ i.size = 27 ∧ i.zero = some z ∧ z.cells.size = 27 := ⟨_, _, rfl, rfl, rfl, rfl⟩

theorem run_bs26 (w : World) (v : Value) (h : v.cells.size = 27) : (Instr.buildSlice 26 1 #[(0, v)]).run Try.prog w = .ok (.slice (some ⟨w.heap.size, 0, none⟩) 1 1) (w.alloc (.cells v.cells 41)) := by
  obtain ⟨i, z, hi, hs, hz, hzs⟩ := info41
  refine run_buildSlice w 26 41 1 _ v.cells i z Try.underlying26 hi hz (by rw [hs]; omega) (by rw [hs]; omega) ?_
  rw [hs]
  have := Great.fill_whole (s := 27) (by omega) [v] ((Array.range (1 * 27)).map (z.cells[· % z.cells.size]!)) (fun u hu => by simp at hu; subst hu; exact h) (by simp)
  simpa using this

theorem wp_bs26 {d : Option Tmp} {x : Operand} {ty : TypeId} {pos : String} {after : Array Edge} {a : Act} {w : World} {K : Act → World → Prop} {Q : Exit → Act → World → Prop} (h : (a.eval x).cells.size = 27) :
    Oper.wp Try.prog ⟨d, .buildSlice 26 1 #[(0, x)], ty, pos, after, none⟩ a w K Q = K (a.put d (.slice (some ⟨w.heap.size, 0, none⟩) 1 1)) (w.alloc (.cells (a.eval x).cells 41)) := by
  unfold Oper.wp execOp
  simp only [Sem.run_bind, List.map_toArray, List.map_cons, List.map_nil, run_bs26 w _ h, Result.andThen_ok]
  rfl
end Go.Proofs.Qxb6623500a
