/-
  THE LAW's BODY IN CHUNKS: a body is a sequence of statements; 'cutSeq n c Y': its first n statements, then Y; 'seqDrop n c': what stands behind them. A frame of 380 slots, written out.
-/
import Derived.Test.Qxb6623500aRows
import Derived.WalkKit
import Derived.ProofKit
import Derived.OpenShut
namespace Go.Proofs.Qxb6623500a
open Go.RowKit

def seqDrop : Nat → Code → Code
  | 0, c => c
  | n + 1, .seq _ y => seqDrop n y
  | _ + 1, c => c
def cutSeq : Nat → Code → Code → Code
  | 0, _, Y => Y
  | n + 1, .seq x y, Y => .seq x (cutSeq n y Y)
  | _ + 1, c, _ => c

theorem cut_drop (n : Nat) (c : Code) : cutSeq n c (seqDrop n c) = c := by
  induction n generalizing c with
  | zero => rfl
  | succ n ih => cases c <;> simp [cutSeq, seqDrop, ih]
theorem drop_drop (m n : Nat) (c : Code) : seqDrop n (seqDrop m c) = seqDrop (m + n) c := by
  induction m generalizing c with
  | zero => simp [seqDrop]
  | succ m ih =>
    rw [show m + 1 + n = (m + n) + 1 by omega]
    cases c <;> simp only [seqDrop] <;> first | exact ih _ | (cases n <;> rfl)

/-- g i, g (i + 1), .., n of them -/
def lst (g : Nat → Value) : Nat → Nat → List Value
  | 0, _ => []
  | n + 1, i => g i :: lst g n (i + 1)
theorem lst_length (g : Nat → Value) (n i : Nat) : (lst g n i).length = n := by
  induction n generalizing i with
  | zero => rfl
  | succ n ih => simp [lst, ih]
theorem lst_get (g : Nat → Value) (n i j : Nat) (h : j < n) : (lst g n i)[j]? = some (g (i + j)) := by
  induction n generalizing i j with
  | zero => omega
  | succ n ih =>
    cases j with
    | zero => simp [lst]
    | succ j => simp only [lst, List.getElem?_cons_succ]; rw [ih (i + 1) j (by omega)]; congr 2; omega
/-- A frame of n slots, written out. -/
theorem arr_lit (t : Array Value) (n : Nat) (h : t.size = n) : t = (lst (fun i => t.getD i undef) n 0).toArray := by
  apply Array.ext'
  apply List.ext_getElem?
  intro j
  by_cases hj : j < n
  · rw [show (lst (fun i => t.getD i undef) n 0).toArray.toList = lst (fun i => t.getD i undef) n 0 from rfl, lst_get _ _ _ _ hj]
    simp [Array.getD, show j < t.size by omega]
  · rw [List.getElem?_eq_none (by simp; omega), List.getElem?_eq_none (by simp [lst_length]; omega)]
end Go.Proofs.Qxb6623500a
