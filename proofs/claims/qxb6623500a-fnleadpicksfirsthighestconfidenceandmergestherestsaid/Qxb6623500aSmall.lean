/-
  ZZMakeItem (6), ZZMakeSet (8), zzCloneStrings (7), zzSameStrings (10); the plan's item as 27 cells; a frame that lets one block go.
-/
import Derived.Test.Qxb6623500aData
import Derived.Deep.LoopGhost
import Derived.WalkSpells
import Derived.Deep.QuietTactic
import Derived.BigQuiet
namespace Go.Proofs.Qxb6623500a
open Go.ChangeShapes Go.WideShapes Go.ChangeAt Go.RowKit

/-- one item of the plan -/
structure PI where
  id : ByteArray
  path : ByteArray
  anchor : ByteArray
  disp : ByteArray
  reason : ByteArray
  conf : Int
  mi : ByteArray
  sv : Value

/-- a finding that holds its path alone: 20 cells -/
def finding (path : ByteArray) : List Value :=
  [.string path, .int .i64 0, .int .i64 0, .int .i64 0, .int .i64 0, .string ⟨#[]⟩, .int .i64 0, .string ⟨#[]⟩, .string ⟨#[]⟩, .string ⟨#[]⟩, .string ⟨#[]⟩, .string ⟨#[]⟩, .bool false, .string ⟨#[]⟩, .string ⟨#[]⟩, .string ⟨#[]⟩, .string ⟨#[]⟩, .string ⟨#[]⟩, .string ⟨#[]⟩, .string ⟨#[]⟩]
/-- the item's 27 cells -/
def PI.cells (p : PI) : List Value :=
  .string p.id :: (finding p.path ++ [.string p.anchor, .string p.disp, .string p.reason, .int .i64 p.conf, .string p.mi, p.sv])
theorem built36 (s : ByteArray) : Try.prog.built 36 [(0, .string s)] = some (finding s).toArray := by kernel_rfl
theorem built41 (id path anchor disp reason mi : ByteArray) (conf : Int) (x : Option Addr) (n c : Nat) :
    Try.prog.built 41 [(0, .string id), (1, .agg (finding path).toArray), (2, .string anchor), (3, .string disp), (4, .string reason), (5, .int .i64 conf), (6, .string mi), (7, .slice x n c)]
      = some (PI.cells ⟨id, path, anchor, disp, reason, conf, mi, .slice x n c⟩).toArray := by kernel_rfl

theorem wpList_built {P : Program} {ops : Array Oper} {rest : List Oper} {o : Oper} {a : Act} {w : World} {Q : Exit → Act → World → Prop} (hg : o.guard = none) (t : TypeId) (parts : Array (Nat × Operand)) (ho : o.op = .build t parts) (cells : Array Value)
    (hf : P.built t (parts.map fun (i, x) => (i, a.eval x)).toList = some cells)
    (h : wpList P ops Q rest (a.put o.dst (.agg cells)) w) : wpList P ops Q (o :: rest) a w := by
  refine wpList_build hg t parts ho (by rw [hf]; rfl) ?_
  rw [hf]; exact h

theorem wpList_build36 {ops : Array Oper} {rest : List Oper} {o : Oper} {a : Act} {w : World} {Q : Exit → Act → World → Prop} (hg : o.guard = none) (x : Operand) (ho : o.op = .build 36 #[(0, x)]) (s : ByteArray) (hx : a.eval x = .string s)
    (h : wpList Try.prog ops Q rest (a.put o.dst (.agg (finding s).toArray)) w) : wpList Try.prog ops Q (o :: rest) a w := by
  refine wpList_built hg 36 _ ho _ ?_ h
  simp only [List.map_toArray, List.map_cons, List.map_nil, hx]
  exact built36 s
theorem wpList_build41 {ops : Array Oper} {rest : List Oper} {o : Oper} {a : Act} {w : World} {Q : Exit → Act → World → Prop} (hg : o.guard = none) (x0 x1 x2 x3 x4 x5 x6 x7 : Operand)
    (ho : o.op = .build 41 #[(0, x0), (1, x1), (2, x2), (3, x3), (4, x4), (5, x5), (6, x6), (7, x7)]) (id path anchor disp reason mi : ByteArray) (conf : Int) (x : Option Addr) (n c : Nat)
    (h0 : a.eval x0 = .string id) (h1 : a.eval x1 = .agg (finding path).toArray) (h2 : a.eval x2 = .string anchor) (h3 : a.eval x3 = .string disp) (h4 : a.eval x4 = .string reason) (h5 : a.eval x5 = .int .i64 conf) (h6 : a.eval x6 = .string mi) (h7 : a.eval x7 = .slice x n c)
    (h : wpList Try.prog ops Q rest (a.put o.dst (.agg (PI.cells ⟨id, path, anchor, disp, reason, conf, mi, .slice x n c⟩).toArray)) w) : wpList Try.prog ops Q (o :: rest) a w := by
  refine wpList_built hg 41 _ ho _ ?_ h
  simp only [List.map_toArray, List.map_cons, List.map_nil, h0, h1, h2, h3, h4, h5, h6, h7]
  exact built41 _ _ _ _ _ _ _ _ _ _

theorem alloc_setRow (w : World) (old cs : Array Value) (t : TypeId) : (w.alloc (.cells old t)).setRow w.heap.size cs = w.alloc (.cells cs t) := by
  unfold World.setRow World.alloc
  congr 1
  apply Array.ext'
  apply List.ext_getElem?
  intro j
  simp only [Array.getElem?_toList, Array.getElem?_modify, Array.getElem?_push]
  by_cases h : w.heap.size = j
  · subst h; simp
  · rw [if_neg h, if_neg (fun e => h e.symm), if_neg (fun e => h e.symm)]

theorem cells_len (p : PI) : p.cells.length = 27 := rfl
theorem cells_one (p : PI) (h : p.sv.oneCell' = true) : p.cells.toArray.all (·.oneCell') = true := by
  simp only [PI.cells, finding, List.all_toArray, List.cons_append, List.nil_append, List.all_cons, List.all_nil, h]
  rfl
set_option maxHeartbeats 1000000 in
theorem make6 (id path anchor disp reason mi : ByteArray) (conf : Int) (x : Option Addr) (n c : Nat) (w : World) :
    Calls Try.prog 6 #[.string id, .string path, .string anchor, .string disp, .string reason, .int .i64 conf, .string mi, .slice x n c] w fun e w' =>
      e = .returned (.agg (PI.cells ⟨id, path, anchor, disp, reason, conf, mi, .slice x n c⟩).toArray) ∧ w' = w.alloc (.cells (PI.cells ⟨id, path, anchor, disp, reason, conf, mi, .slice x n c⟩).toArray 41) := by
  have hone := cells_one ⟨id, path, anchor, disp, reason, conf, mi, .slice x n c⟩ rfl
  have hsz : (Try.prog.info? 41).map (·.size) = some (PI.cells ⟨id, path, anchor, disp, reason, conf, mi, .slice x n c⟩).toArray.size := by kernel_rfl
  have hsz' : (PI.cells ⟨id, path, anchor, disp, reason, conf, mi, .slice x n c⟩).toArray.size = 27 := rfl
  go_enter Try.func6, Try.ntmps6
  go_wp2_with (first
    | (refine wpList_build36 rfl _ rfl _ rfl ?_)
    | (refine wpList_build41 rfl _ _ _ _ _ _ _ _ rfl _ _ _ _ _ _ _ _ _ _ rfl rfl rfl rfl rfl rfl rfl rfl ?_; generalize hpc : PI.cells ⟨id, path, anchor, disp, reason, conf, mi, .slice x n c⟩ = pc at hone hsz hsz' ⊢)
    | (refine wpList_store_row rfl 41 (.tmp 16) (.tmp 26) rfl w.heap.size pc.toArray rfl rfl 41 _ (heap_alloc_new _ _) hsz (by rw [hsz']; rfl) hone ?_; rw [alloc_setRow]))
  exact bodyPost_ret (v := .agg pc.toArray) (results_cell_row rfl _ _ w.heap.size 41 _ _ _ rfl (heap_alloc_new _ _) Try.underlying41 rfl hsz) rfl ⟨by rw [hpc], by rw [hpc]⟩
set_option maxHeartbeats 1000000 in
theorem make8 (r : ByteArray) (w : World) :
    Calls Try.prog 8 #[.string r] w fun e w' => e = .returned (.agg #[.string r, .string ⟨#[]⟩, .slice none 0 0, .string ⟨#[]⟩, .slice none 0 0, .slice none 0 0]) ∧
      w' = w.alloc (.cells #[.string r, .string ⟨#[]⟩, .slice none 0 0, .string ⟨#[]⟩, .slice none 0 0, .slice none 0 0] 47) := by
  go_enter Try.func8, Try.ntmps8
  go_wp2
  exact bodyPost_ret (results_cell_row rfl _ _ w.heap.size 47 _ _ _ rfl (heap_alloc_new _ _) Try.underlying47 rfl (by kernel_rfl)) rfl ⟨rfl, rfl⟩

/-- n strings behind an address -/
def SAt (w : World) (x : Option Addr) (n : Nat) (s : Nat → ByteArray) : Prop :=
  ∀ j, j < n → ∃ b off, x = some ⟨b, off, none⟩ ∧ w.cell? ⟨b, off + j, none⟩ = some (.string (s j))
/-- .. in blocks from B on -/
def SFrom (w : World) (B : Nat) (x : Option Addr) (n : Nat) (s : Nat → ByteArray) : Prop :=
  ∀ j, j < n → ∃ b off, x = some ⟨b, off, none⟩ ∧ B ≤ b ∧ w.cell? ⟨b, off + j, none⟩ = some (.string (s j))

set_option maxHeartbeats 1000000 in
theorem clone7 (x : Option Addr) (n c : Nat) (s : Nat → ByteArray) (w : World) (hs : Strs w w.heap.size x n s) (hx : x = none → n = 0 ∧ c = 0) (hn : n ≤ 1048576) :
    Calls Try.prog 7 #[.slice x n c] w fun e w' => ∃ x', e = .returned (.slice x' n n) ∧ x'.isNone = x.isNone ∧ Below w.heap.size w w' ∧ SFrom w' w.heap.size x' n s := by
  have hnn : ∀ w, (binOp .eql 24 (.slice x n c) (.slice none 0 0)).run Try.prog w = .ok (.bool x.isNone) w := fun w => Lib.run_eql_slice_nil w 24 9 x n c 0 0 Try.underlying24
  cases x with
  | none =>
    obtain ⟨rfl, rfl⟩ := hx rfl
    go_enter Try.func7, Try.ntmps7
    go_wp2
    go_ret
    exact ⟨none, rfl, rfl, Below.refl _ _, fun j hj => by omega⟩
  | some ad =>
    have hmk := run_make_row' (P := Try.prog) 24 9 (.string ⟨#[]⟩) 16 Try.underlying24 (by kernel_rfl) rfl .i64 .i64 n (by omega) (by omega)
    go_enter Try.func7, Try.ntmps7
    go_wp2_with fail
    go_loopg [4] n (fun m i wr => ∃ k : Nat, k ≤ n ∧ m = n - k ∧ i = .int .i64 k ∧ Below w.heap.size w wr ∧ wr.rowIs w.heap.size 9 n (fun j => if j < k then .string (s j) else .string ⟨#[]⟩))
    case atStart => exact ⟨0, Nat.zero_le _, rfl, rfl, (Below.refl _ _).alloc (Nat.le_refl _) _, (World.rowIs_made _ _ _ _).congr (fun i hi => by simp)⟩
    case round =>
      obtain ⟨k, hk, hm, rfl, hb, hrow⟩ := hrel
      have A : Aside (gk = n - k ∧ wr.rowIs w.heap.size 9 n (fun j => if j < k then .string (s j) else .string ⟨#[]⟩)) := ⟨hm, hrow⟩
      by_cases hlt : k < n
      · obtain ⟨b, off, e, hlt', hc⟩ := (hs.below hb) k hlt
        cases e
        have hc1 := hrow.cell hlt
        have hf1 := hrow.frozen k
        clear hm hrow
        go_wp2
        go_roundg (n - (k + 1))
        case measure => rw [A.out.1]; omega
        case rel =>
          refine ⟨k + 1, by omega, rfl, by go_num, hb.setCell (Nat.le_refl _) _, (A.out.2.set k _).congr (fun j hj => ?_)⟩
          by_cases e : j = k
          · subst e; simp
          · simp only [e, if_false]
            by_cases l : j < k
            · rw [if_pos l, if_pos (by omega)]
            · rw [if_neg l, if_neg (by omega)]
      · clear hm hrow
        go_wp2
        go_ret
        refine ⟨some ⟨w.heap.size, 0, none⟩, rfl, rfl, hb, fun j hj => ⟨w.heap.size, 0, rfl, Nat.le_refl _, ?_⟩⟩
        have := A.out.2.cell hj
        rw [if_pos (by omega)] at this
        simpa using this

set_option maxHeartbeats 1000000 in
theorem same10 (x y : Option Addr) (n c d : Nat) (s : Nat → ByteArray) (w : World) (hx : SAt w x n s) (hy : SAt w y n s) (hxy : x.isNone = y.isNone) (hn : n ≤ 1048576) :
    Calls Try.prog 10 #[.slice x n c, .slice y n d] w fun e w' => e = .returned (.bool true) ∧ ∃ q, w' = w.drewN q := by
  have hn1 : ∀ w, (binOp .eql 24 (.slice x n c) (.slice none 0 0)).run Try.prog w = .ok (.bool x.isNone) w := fun w => Lib.run_eql_slice_nil w 24 9 x n c 0 0 Try.underlying24
  have hn2 : ∀ w, (binOp .eql 24 (.slice y n d) (.slice none 0 0)).run Try.prog w = .ok (.bool x.isNone) w := fun w => by rw [hxy]; exact Lib.run_eql_slice_nil w 24 9 y n d 0 0 Try.underlying24
  clear hxy
  generalize x.isNone = bx at hn1 hn2
  go_enter Try.func10, Try.ntmps10
  go_wp2_with fail
  go_loopg [5] n (fun m i wr => ∃ k q : Nat, k ≤ n ∧ m = n - k ∧ i = .int .i64 k ∧ wr = w.drewN q)
  case atStart => exact ⟨0, 0, Nat.zero_le _, rfl, rfl, rfl⟩
  case round =>
    obtain ⟨k, q, hk, hm, rfl, rfl⟩ := hrel
    have A : Aside (gk = n - k) := hm
    clear hm
    by_cases hlt : k < n
    · obtain ⟨b, off, rfl, hc⟩ := hx k hlt
      obtain ⟨b', off', rfl, hc'⟩ := hy k hlt
      have i1 : (k : Int) < (n : Int) := by omega
      have i0 : (0 : Int) ≤ (k : Int) := by omega
      go_wp2
      go_quiet (fail)
      go_wp2
      go_roundg (n - (k + 1))
      case measure => rw [A.out]; omega
      case rel => exact ⟨k + 1, _, by omega, rfl, by go_num, rfl⟩
    · go_wp2
      go_ret
      exact ⟨rfl, _, rfl⟩
end Go.Proofs.Qxb6623500a
