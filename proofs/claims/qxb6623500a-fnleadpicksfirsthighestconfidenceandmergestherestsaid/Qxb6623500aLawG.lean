/-
  THE LAW: the last loop, one round: the item and the plan's item are loaded and compared.
-/
import Derived.Test.Qxb6623500aLawD
import Derived.Test.Qxb6623500aLawF
namespace Go.Proofs.Qxb6623500a
open Go.ChangeShapes Go.WideShapes Go.ChangeAt Go.RowKit
set_option linter.unusedVariables false      -- a walk need not use every bound

/-- the body of the first loop of a statement (sequences and blocks are looked into, no branch is) -/
def loopIn : Code → Option Code
  | .block _ c => loopIn c
  | .seq a b => (loopIn a).or (loopIn b)
  | .loop c => some c
  | _ => none

set_option maxRecDepth 100000 in
set_option maxHeartbeats 4000000 in
theorem neq36 (s : ByteArray) (w : World) : (binOp .neq 36 (.agg #[.string s, .int .i64 0, .int .i64 0, .int .i64 0, .int .i64 0, .string ⟨#[]⟩, .int .i64 0, .string ⟨#[]⟩, .string ⟨#[]⟩, .string ⟨#[]⟩, .string ⟨#[]⟩, .string ⟨#[]⟩, .bool false, .string ⟨#[]⟩, .string ⟨#[]⟩, .string ⟨#[]⟩, .string ⟨#[]⟩, .string ⟨#[]⟩, .string ⟨#[]⟩, .string ⟨#[]⟩]) (.agg #[.string s, .int .i64 0, .int .i64 0, .int .i64 0, .int .i64 0, .string ⟨#[]⟩, .int .i64 0, .string ⟨#[]⟩, .string ⟨#[]⟩, .string ⟨#[]⟩, .string ⟨#[]⟩, .string ⟨#[]⟩, .bool false, .string ⟨#[]⟩, .string ⟨#[]⟩, .string ⟨#[]⟩, .string ⟨#[]⟩, .string ⟨#[]⟩, .string ⟨#[]⟩, .string ⟨#[]⟩])).run Try.prog w = .ok (.bool false) w := by
  simp [go_sem]

theorem wp_loop_ghost_k {P : Program} {Q : Exit → Act → World → Prop} {a : Act} {w : World} {c : Code} (I : Nat → Act → World → Prop) (n₀ : Nat) (h₀ : I n₀ a w)
    (round : ∀ n a w, I n a w → ∀ K : Act → World → Prop, (∀ a' w', (∃ n', n' < n ∧ I n' a' w') → K a' w') → c.wp P (Exit.then K Q) a w) : (Code.loop c).wp P Q a w :=
  wp_loop_ghost I n₀ h₀ (fun n a w h => round n a w h _ (fun _ _ h => h))

theorem neq36' (s : ByteArray) (w : World) : (binOp .neq 36 (.agg (finding s).toArray) (.agg (finding s).toArray)).run Try.prog w = .ok (.bool false) w := neq36 s w

/-! ### Operations behind a guard that says yes -/
section
variable {ops : Array Oper} {rest : List Oper} {o : Oper} {a : Act} {w : World} {Q : Exit → Act → World → Prop}
theorem wpList_wanted {P : Program} (hw : Region.wanted o (yielded ops a.tmps) = true) (h : ∀ K : Act → World → Prop, (∀ a w, wpList P ops Q rest a w → K a w) → o.wp P a w K Q) : wpList P ops Q (o :: rest) a w :=
  wpList_step fun K hK => by rw [if_pos hw]; exact h K hK
theorem wpList_load36_g (hw : Region.wanted o (yielded ops a.tmps) = true) (x : Operand) (ho : o.op = .load 36 x) (b f : Nat) (hx : a.eval x = .pointer (some ⟨b, f, none⟩)) (s : ByteArray) (hc : w.rangeAt b f (finding s))
    (h : wpList Try.prog ops Q rest (a.put o.dst (.agg (finding s).toArray)) w) : wpList Try.prog ops Q (o :: rest) a w :=
  wpList_wanted hw fun _ hK => wp_load_mid 36 x ho b f hx (finding s) _ hc Try.underlying36 rfl (by kernel_rfl) (hK _ _ h)
theorem wpList_build36_g (hw : Region.wanted o (yielded ops a.tmps) = true) (x : Operand) (ho : o.op = .build 36 #[(0, x)]) (s : ByteArray) (hx : a.eval x = .string s)
    (h : wpList Try.prog ops Q rest (a.put o.dst (.agg (finding s).toArray)) w) : wpList Try.prog ops Q (o :: rest) a w := by
  refine wpList_wanted hw fun K hK => ?_
  have hb : Try.prog.built 36 ((#[(0, x)] : Array (Nat × Operand)).map fun (i, x) => (i, a.eval x)).toList = some (finding s).toArray := by
    simp only [List.map_toArray, List.map_cons, List.map_nil, hx]
    exact built36 s
  refine wp_build 36 _ ho (by rw [hb]; rfl) ?_
  rw [hb]
  exact hK _ _ h
theorem wpList_neq36_g (hw : Region.wanted o (yielded ops a.tmps) = true) (x y : Operand) (t : TypeId) (ho : o.op = .binOp .neq 36 x y t) (s : ByteArray) (hx : a.eval x = .agg (finding s).toArray) (hy : a.eval y = .agg (finding s).toArray)
    (h : wpList Try.prog ops Q rest (a.put o.dst (.bool false)) w) : wpList Try.prog ops Q (o :: rest) a w := by
  refine wpList_wanted hw fun K hK => ?_
  have hg : Try.prog.eqGuardType Try.prog.depth 36 = false := by kernel_rfl
  unfold Oper.wp execOp
  simp only [ho, hx, hy, Sem.run_bind, run_eqGuard_agg w _ 36 x y _ _ hg, neq36' s w, Result.andThen_ok, Sem.run_pure]
  exact hK _ _ h
end

theorem heap_alloc2 (w : World) (A B : Obj) : (w.alloc A).heap.size = w.heap.size + 1 := by simp
theorem alloc2_setRow (w : World) (A : Obj) (old cs : Array Value) (t : TypeId) : ((w.alloc A).alloc (.cells old t)).setRow (w.heap.size + 1) cs = (w.alloc A).alloc (.cells cs t) := by
  have := alloc_setRow (w.alloc A) old cs t
  rwa [show (w.alloc A).heap.size = w.heap.size + 1 by simp] at this
theorem rangeAt_alloc1 {w : World} {b o : Nat} {cs : List Value} {ob : Obj} (h : w.rangeAt b o cs) : (w.alloc ob).rangeAt b o cs := World.rangeAt_alloc h ob
theorem cell_alloc2 {w : World} {x : Addr} {v : Value} (h : w.cell? x = some v) (A B : Obj) : ((w.alloc A).alloc B).cell? x = some v := by
  have hb := World.block_lt_of_cell? w _ h
  exact (World.cell?_alloc_lt _ _ _ (by simp; omega)).trans ((World.cell?_alloc_lt _ _ _ hb).trans h)
theorem below_draws {B : Nat} {a w : World} (h : Below B a w) (n : Nat) : Below B a (w.drewN n) := ⟨h.os, h.tape, h.output, h.size, h.block⟩
theorem SAt.below {w w' : World} {x : Option Addr} {n : Nat} {s : Nat → ByteArray} (h : SAt w x n s) (hb : Below w.heap.size w w') : SAt w' x n s := by
  intro j hj
  obtain ⟨b, off, e, hc⟩ := h j hj
  exact ⟨b, off, e, (hb.cell (World.block_lt_of_cell? w _ hc)).trans hc⟩
theorem sat_of {w : World} {B : Nat} {x : Option Addr} {n : Nat} {s : Nat → ByteArray} (h : Strs w B x n s) : SAt w x n s := by
  intro j hj
  obtain ⟨b, off, e, _, hc⟩ := h j hj
  exact ⟨b, off, e, hc⟩
end Go.Proofs.Qxb6623500a
