/-
  zzBytes (4): it answers; where it says true four lengths and each item's number of sources are at most 2^20; nothing turns.
-/
import Derived.Test.Qxb6623500aData
import Derived.Deep.LoopGhost
import Derived.WalkSpells
import Derived.Deep.QuietTactic
import Derived.BigQuiet
namespace Go.Proofs.Qxb6623500a
open Go.ChangeShapes Go.WideShapes Go.ChangeAt Go.RowKit

set_option maxRecDepth 100000 in
set_option maxHeartbeats 8000000 in
theorem bytes4 (x0 x1 x2 x3 : Option Addr) (n0 c0 n1 c1 n2 c2 n3 c3 : Nat) (Z : Nat → ZI) (R : Nat → ByteArray) (w : World) (hI : Items w w.heap.size x0 n0 Z) (hR : Strs w w.heap.size x3 n3 R)
    (m0 : n0 ≤ maxLen) (m1 : n1 ≤ maxLen) (m2 : n2 ≤ maxLen) (m3 : n3 ≤ maxLen) :
    Calls Try.prog 4 #[.slice x0 n0 c0, .slice x1 n1 c1, .slice x2 n2 c2, .slice x3 n3 c3] w fun e w' => ∃ b : Bool, e = .returned (.bool b) ∧ w' = w ∧
      (b = true → n0 ≤ 1048576 ∧ n1 ≤ 1048576 ∧ n2 ≤ 1048576 ∧ n3 ≤ 1048576 ∧ ∀ i, i < n0 → (Z i).sl ≤ 1048576) := by
  unfold maxLen at m0 m1 m2 m3
  by_cases h0 : n0 ≤ 1048576
  case neg =>
    go_enter Try.func4, Try.ntmps4
    go_wp2
    go_ret
    exact ⟨false, rfl, rfl, fun h => by cases h⟩
  have b0 : decide ((1048576 : Int) < (n0 : Int)) = false := by simp; omega
  go_enter Try.func4, Try.ntmps4
  go_wp2_with fail
  go_loopg [9, 10] n0 (fun m z i wr => ∃ (k : Nat) (y : Int), k ≤ n0 ∧ m = n0 - k ∧ 0 ≤ y ∧ y ≤ 1048576 ∧ z = .int .i64 y ∧ i = .int .i64 k ∧ wr = w ∧ ∀ j, j < k → (Z j).sl ≤ 1048576)
  case atStart => exact ⟨0, _, Nat.zero_le _, rfl, by omega, by omega, rfl, rfl, rfl, fun j hj => by omega⟩
  case round =>
    obtain ⟨k, y, hk, hm, y0, y1, rfl, rfl, rfl, hall⟩ := hrel
    have A : Aside (gk = n0 - k ∧ ∀ j, j < k → (Z j).sl ≤ 1048576) := ⟨hm, hall⟩
    clear hm hall
    by_cases hlt : k < n0
    · obtain ⟨b, off, rfl, hz⟩ := hI k hlt
      obtain ⟨blt, e0, e1, e2, e3, e4, e5, e6, e7, hs, hbd⟩ := hz
      unfold maxLen at hbd
      go_wp2_with fail
      all_goals first
        | (go_ret; exact ⟨false, rfl, rfl, fun h => by cases h⟩)
        | skip
      have hsl : (Z k).sl ≤ 1048576 := by omega
      go_loopg [9, 11] ((Z k).sl) (fun m z i wr' => ∃ (j : Nat) (y' : Int), j ≤ (Z k).sl ∧ m = (Z k).sl - j ∧ 0 ≤ y' ∧ y' ≤ 1048576 ∧ z = .int .i64 y' ∧ i = .int .i64 j ∧ wr' = wr)
      case atStart => exact ⟨0, _, Nat.zero_le _, rfl, by omega, by omega, rfl, rfl, rfl⟩
      case round =>
        obtain ⟨j, y', hj, hmj, y'0, y'1, rfl, rfl, rfl⟩ := hrel
        have A' : Aside (gk = (Z k).sl - j) := hmj
        clear hmj
        by_cases hjl : j < (Z k).sl
        · obtain ⟨b', off', es, _, hcs⟩ := hs j hjl
          rw [es] at e7
          go_wp2_with fail
          all_goals first
            | (go_ret; exact ⟨false, rfl, rfl, fun h => by cases h⟩)
            | skip
          go_roundg ((Z k).sl - (j + 1))
          case measure => rw [A'.out]; omega
          case rel => exact ⟨j + 1, _, by omega, rfl, by omega, by omega, rfl, by go_num, rfl⟩
        · go_wp2_with fail
          go_roundg (n0 - (k + 1))
          case measure => rw [A.out.1]; omega
          case rel =>
            refine ⟨k + 1, _, by omega, rfl, y'0, y'1, rfl, by go_num, rfl, fun j' hj' => ?_⟩
            by_cases c : j' < k
            · exact A.out.2 j' c
            · obtain rfl : j' = k := by omega
              exact hsl
    · go_wp2_with fail
      all_goals first
        | (go_ret; exact ⟨false, rfl, rfl, fun h => by cases h⟩)
        | skip
      go_loopg [9, 12] n3 (fun m z i wr' => ∃ (j : Nat) (y' : Int), j ≤ n3 ∧ m = n3 - j ∧ 0 ≤ y' ∧ y' ≤ 1048576 ∧ z = .int .i64 y' ∧ i = .int .i64 j ∧ wr' = wr)
      case atStart => exact ⟨0, _, Nat.zero_le _, rfl, by omega, by omega, rfl, rfl, rfl⟩
      case round =>
        obtain ⟨j, y', hj, hmj, y'0, y'1, rfl, rfl, rfl⟩ := hrel
        have A' : Aside (gk = n3 - j) := hmj
        clear hmj
        by_cases hjl : j < n3
        · obtain ⟨b', off', rfl, _, hcs⟩ := hR j hjl
          go_wp2_with fail
          all_goals first
            | (go_ret; exact ⟨false, rfl, rfl, fun h => by cases h⟩)
            | skip
          go_roundg (n3 - (j + 1))
          case measure => rw [A'.out]; omega
          case rel => exact ⟨j + 1, _, by omega, rfl, by omega, by omega, rfl, by go_num, rfl⟩
        · go_wp2_with fail
          go_ret
          exact ⟨true, rfl, rfl, fun _ => ⟨by omega, by omega, by omega, by omega, fun i hi => A.out.2 i (by omega)⟩⟩
end Go.Proofs.Qxb6623500a
