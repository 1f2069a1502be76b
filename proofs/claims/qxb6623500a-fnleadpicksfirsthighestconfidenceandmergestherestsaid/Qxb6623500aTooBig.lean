/-
  zzLeadAdd (12), zzLeadAddWords (11): they answer an int and a bool; zzLeadTooBig (5): it answers; nothing that was there has turned.
-/
import Derived.Test.Qxb6623500aData
import Derived.Deep.LoopGhost
import Derived.WalkSpells
namespace Go.Proofs.Qxb6623500a
open Go.ChangeShapes Go.WideShapes Go.ChangeAt Go.RowKit

theorem add12 (t n : Int) (w : World) : Calls Try.prog 12 #[.int .i64 t, .int .i64 n] w fun e w' => ∃ (t' : Int) (b : Bool), e = .returned (.tuple #[.int .i64 t', .bool b]) ∧ w' = w := by
  go_enter Try.func12, Try.ntmps12
  go_wp2
  all_goals
    go_ret2
    exact ⟨_, _, rfl, rfl⟩
theorem add11 (t n : Int) (w : World) : Calls Try.prog 11 #[.int .i64 t, .int .i64 n] w fun e w' => ∃ (t' : Int) (b : Bool), e = .returned (.tuple #[.int .i64 t', .bool b]) ∧ w' = w := by
  go_enter Try.func11, Try.ntmps11
  go_wp2
  all_goals
    go_ret2
    exact ⟨_, _, rfl, rfl⟩

set_option maxRecDepth 100000 in
set_option maxHeartbeats 8000000 in
theorem tooBig5 (x0 x1 x2 x3 : Option Addr) (n0 c0 n1 c1 n2 c2 n3 c3 : Nat) (Z : Nat → ZI) (R : Nat → ByteArray) (w : World) (hI : Items w w.heap.size x0 n0 Z) (hR : Strs w w.heap.size x3 n3 R)
    (m0 : n0 ≤ 1048576) (m3 : n3 ≤ 1048576) (ms : ∀ i, i < n0 → (Z i).sl ≤ 1048576) :
    Calls Try.prog 5 #[.slice x0 n0 c0, .slice x1 n1 c1, .slice x2 n2 c2, .slice x3 n3 c3] w fun e w' => ∃ b : Bool, e = .returned (.bool b) ∧ Below w.heap.size w w' := by
  go_enter Try.func5, Try.ntmps5
  go_wp2_with (first
    | (go_at_call 11; refine (add11 _ _ _).mono ?_; rintro e w ⟨t', b, rfl, rfl⟩; cases b)
    | (go_at_call 12; refine (add12 _ _ _).mono ?_; rintro e w ⟨t', b, rfl, rfl⟩; cases b))
  all_goals first
    | (go_ret; exact ⟨true, rfl, Below.refl _ _⟩)
    | skip
  go_loopg [9, 10, 11] n0 (fun m z o i wr => ∃ (k : Nat) (y : Int) (ob : Bool), k ≤ n0 ∧ m = n0 - k ∧ z = .int .i64 y ∧ o = .bool ob ∧ i = .int .i64 k ∧ Below w.heap.size w wr)
  case atStart => exact ⟨0, _, _, Nat.zero_le _, rfl, rfl, rfl, rfl, Below.refl _ _⟩
  case round =>
    obtain ⟨k, y, ob, hk, hm, rfl, rfl, rfl, hb⟩ := hrel
    have A : Aside (gk = n0 - k) := hm
    clear hm
    by_cases hlt : k < n0
    · obtain ⟨b, off, rfl, hz⟩ := (hI.below hb) k hlt
      obtain ⟨blt, e0, e1, e2, e3, e4, e5, e6, e7, hs, hbd⟩ := hz
      have hsl := ms k hlt
      clear ms
      have hs' := hs
      clear hs
      generalize (Z k).sa = sa at e7 hs'
      go_wp2_with (first
        | (go_at_call 11; refine (add11 _ _ _).mono ?_; rintro e w1 ⟨t', b, rfl, rfl⟩; cases b)
        | (go_at_call 12; refine (add12 _ _ _).mono ?_; rintro e w1 ⟨t', b, rfl, rfl⟩; cases b))
      all_goals first
        | (go_ret; exact ⟨true, rfl, hb.alloc hb.size _⟩)
        | skip
      go_loopg [9, 10, 13] ((Z k).sl) (fun m z o i wr' => ∃ (j : Nat) (y' : Int) (ob' : Bool), j ≤ (Z k).sl ∧ m = (Z k).sl - j ∧ z = .int .i64 y' ∧ o = .bool ob' ∧ i = .int .i64 j ∧ wr' = wr.alloc (.cells #[.string (Z k).id, .string (Z k).path, .string (Z k).anchor, .string (Z k).disp, .string (Z k).reason, .int .i64 (Z k).conf, .string (Z k).mi, .slice sa (Z k).sl (Z k).sc] 28))
      case atStart => exact ⟨0, _, _, Nat.zero_le _, rfl, rfl, rfl, rfl, rfl⟩
      case round =>
        obtain ⟨j, y', ob', hj, hmj, rfl, rfl, rfl, rfl⟩ := hrel
        have A' : Aside (gk = (Z k).sl - j) := hmj
        clear hmj
        by_cases hjl : j < (Z k).sl
        · obtain ⟨b', off', rfl, hb', hcs⟩ := hs' j hjl
          have hbs := hb.size
          have hcs' : ∀ o, (wr.alloc o).cell? ⟨b', off' + j, none⟩ = some (.string ((Z k).src j)) := fun o => (World.cell?_alloc_lt _ _ _ (show b' < wr.heap.size by omega)).trans hcs
          go_wp2_with (first
            | (go_at_call 12; refine (add12 _ _ _).mono ?_; rintro e w1 ⟨t', b, rfl, rfl⟩; cases b))
          all_goals first
            | (go_ret; exact ⟨true, rfl, hb.alloc hb.size _⟩)
            | skip
          go_roundg ((Z k).sl - (j + 1))
          case measure => rw [A'.out]; omega
          case rel => exact ⟨j + 1, _, _, by omega, rfl, rfl, rfl, by go_num, rfl⟩
        · go_wp2_with fail
          go_roundg (n0 - (k + 1))
          case measure => rw [A.out]; omega
          case rel => exact ⟨k + 1, _, _, by omega, rfl, rfl, rfl, by go_num, hb.alloc hb.size _⟩
    · go_wp2_with fail
      go_loopg [9, 10, 14] n3 (fun m z o i wr' => ∃ (j : Nat) (y' : Int) (ob' : Bool), j ≤ n3 ∧ m = n3 - j ∧ z = .int .i64 y' ∧ o = .bool ob' ∧ i = .int .i64 j ∧ wr' = wr)
      case atStart => exact ⟨0, _, _, Nat.zero_le _, rfl, rfl, rfl, rfl, rfl⟩
      case round =>
        obtain ⟨j, y', ob', hj, hmj, rfl, rfl, rfl, rfl⟩ := hrel
        have A' : Aside (gk = n3 - j) := hmj
        clear hmj
        by_cases hjl : j < n3
        · obtain ⟨b', off', rfl, _, hcs⟩ := (hR.below hb) j hjl
          go_wp2_with (first
            | (go_at_call 12; refine (add12 _ _ _).mono ?_; rintro e wr ⟨t', b, rfl, rfl⟩; cases b))
          all_goals first
            | (go_ret; exact ⟨true, rfl, hb⟩)
            | skip
          go_roundg (n3 - (j + 1))
          case measure => rw [A'.out]; omega
          case rel => exact ⟨j + 1, _, _, by omega, rfl, rfl, rfl, by go_num, rfl⟩
        · go_wp2_with fail
          go_ret
          exact ⟨false, rfl, hb⟩
end Go.Proofs.Qxb6623500a
