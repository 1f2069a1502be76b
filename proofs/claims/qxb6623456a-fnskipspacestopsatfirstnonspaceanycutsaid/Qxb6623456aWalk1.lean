/-
  THE WALKS: zzIsJSONSpace (6), skipSpace (7), ZZSkipSpace (5), zzBytes (4).
-/
import Derived.Test.Qxb6623456aRows
import Derived.Test.Qxb6623456aPlain
import Derived.WalkKit
import Derived.ProofKit
import Derived.OpenShut
import Derived.Below
import Derived.Deep.QuietTactic
import Derived.BigQuiet
import Derived.Deep.LoopGhost
import Derived.WalkSmall
namespace Go.Proofs.Qxb6623456a
open Go.ChangeShapes Go.WideShapes Go.ChangeAt Go.RowKit
open Plain

theorem space6 (c : Int) (w : World) : Calls Try.prog 6 #[.int .u8 c] w fun e w' => e = .returned (.bool (sp c)) ∧ w' = w := by
  by_cases h1 : c = 32
  · subst h1
    go_enter Try.func6, Try.ntmps6
    go_wp2
    go_ret
    exact ⟨rfl, rfl⟩
  by_cases h2 : c = 9
  · subst h2
    go_enter Try.func6, Try.ntmps6
    go_wp2
    go_ret
    exact ⟨rfl, rfl⟩
  by_cases h3 : c = 10
  · subst h3
    go_enter Try.func6, Try.ntmps6
    go_wp2
    go_ret
    exact ⟨rfl, rfl⟩
  by_cases h4 : c = 13
  · subst h4
    go_enter Try.func6, Try.ntmps6
    go_wp2
    go_ret
    exact ⟨rfl, rfl⟩
  have e : sp c = false := by simp [sp, h1, h2, h3, h4]
  rw [e]
  clear e
  go_enter Try.func6, Try.ntmps6
  go_wp2
  go_ret
  exact ⟨rfl, rfl⟩

/-- WHAT THE WALKS ARE TOLD OF THE TEXT: a slice of n bytes, the numbers zs, all of them in blocks below B. -/
def Text (w : World) (B : Nat) (x : Option Addr) (n : Nat) (zs : List Int) : Prop :=
  ∀ i, i < n → ∃ b off, x = some ⟨b, off, none⟩ ∧ b < B ∧ w.cell? ⟨b, off + i, none⟩ = some (.int .u8 (zs.getD i 0))

theorem Text.below {w w' : World} {B : Nat} {x : Option Addr} {n : Nat} {zs : List Int} (h : Text w B x n zs) (hb : Below B w w') : Text w' B x n zs := by
  intro i hi
  obtain ⟨b, off, e, hlt, hc⟩ := h i hi
  exact ⟨b, off, e, hlt, (hb.cell hlt).trans hc⟩

/-- what a round that steps on leaves of the reader's cells -/
theorem step_world {w wr : World} {rb p : Nat} {v : Value} (m : Nat) (d0 : wr.cell? ⟨rb, 0, none⟩ = some v) (d1 : wr.cell? ⟨rb, 1, none⟩ = some (.int .i64 p)) (g1 : wr.frozen? ⟨rb, 1, none⟩ = false) (hb : Below rb w wr) :
    ((wr.drewN m).setCell ⟨rb, 1, none⟩ (.int .i64 ((p : Int) + 1))).cell? ⟨rb, 0, none⟩ = some v ∧
    ((wr.drewN m).setCell ⟨rb, 1, none⟩ (.int .i64 ((p : Int) + 1))).cell? ⟨rb, 1, none⟩ = some (.int .i64 ((p + 1 : Nat) : Int)) ∧
    ((wr.drewN m).setCell ⟨rb, 1, none⟩ (.int .i64 ((p : Int) + 1))).frozen? ⟨rb, 1, none⟩ = false ∧
    Below rb w ((wr.drewN m).setCell ⟨rb, 1, none⟩ (.int .i64 ((p : Int) + 1))) := by
  refine ⟨?_, ?_, ?_, ?_⟩
  · refine (World.cell?_setCell_other _ _ _ _ ?_).trans d0; simp
  · rw [World.cell?_setCell_same _ _ _ (u := .int .i64 p) (by exact d1)]; rfl
  · rw [World.frozen?_setCell]; exact g1
  · exact (below_drewN hb m).setCell (Nat.le_refl _) _

theorem all_snoc {zs : List Int} {pos p : Nat} (h : ∀ i, pos ≤ i → i < p → sp (zs.getD i 0) = true) (e : sp (zs.getD p 0) = true) : ∀ i, pos ≤ i → i < p + 1 → sp (zs.getD i 0) = true := by
  intro i h1 h2
  by_cases c : i < p
  · exact h i h1 c
  · obtain rfl : i = p := by omega
    exact e
theorem sp_yes {zs : List Int} {p : Nat} (h : (zs[p]?.getD 0 == 32) = true ∨ (zs[p]?.getD 0 == 9) = true ∨ (zs[p]?.getD 0 == 10) = true ∨ (zs[p]?.getD 0 == 13) = true) : sp (zs.getD p 0) = true := by
  rw [List.getD_eq_getElem?_getD]
  unfold sp
  rcases h with h | h | h | h <;> simp [h]
theorem sp_no {zs : List Int} {p : Nat} (h1 : (zs[p]?.getD 0 == 32) = false) (h2 : (zs[p]?.getD 0 == 9) = false) (h3 : (zs[p]?.getD 0 == 10) = false) (h4 : (zs[p]?.getD 0 == 13) = false) : sp (zs.getD p 0) = false := by
  rw [List.getD_eq_getElem?_getD]
  unfold sp
  rw [h1, h2, h3, h4]; rfl

set_option maxHeartbeats 1000000 in
theorem skip7 (rb : Nat) (x : Option Addr) (n cap pos : Nat) (zs : List Int) (w : World) (hn : n ≤ 1048576) (hp : pos ≤ n) (ht : Text w rb x n zs)
    (c0 : w.cell? ⟨rb, 0, none⟩ = some (.slice x n cap)) (c1 : w.cell? ⟨rb, 1, none⟩ = some (.int .i64 pos)) (f1 : w.frozen? ⟨rb, 1, none⟩ = false) :
    Calls Try.prog 7 #[.pointer (some ⟨rb, 0, none⟩)] w fun e w' => e = .returned (.tuple #[]) ∧ ∃ q : Nat, IsSkip zs n pos q ∧ w'.cell? ⟨rb, 1, none⟩ = some (.int .i64 q) ∧ Below rb w w' := by
  go_enter Try.func7, Try.ntmps7
  go_wp2
  go_loopg [] (n - pos) (fun k wr => ∃ p : Nat, pos ≤ p ∧ p ≤ n ∧ k = n - p ∧ (∀ i, pos ≤ i → i < p → sp (zs.getD i 0) = true) ∧ wr.cell? ⟨rb, 0, none⟩ = some (.slice x n cap) ∧ wr.cell? ⟨rb, 1, none⟩ = some (.int .i64 p) ∧ wr.frozen? ⟨rb, 1, none⟩ = false ∧ Below rb w wr)
  case atStart => exact ⟨pos, Nat.le_refl _, hp, rfl, fun i h1 h2 => by omega, c0, c1, f1, Below.refl _ _⟩
  case round =>
    obtain ⟨p, h1, h2, hk, hall, d0, d1, g1, hb⟩ := hrel
    have A : Aside (∀ i, pos ≤ i → i < p → sp (zs.getD i 0) = true) := hall
    clear hall
    have HK : Aside (gk = n - p) := hk
    clear hk
    by_cases hlt : p < n
    · obtain ⟨b, off, ex, hbB, hc⟩ := (ht.below hb) p hlt
      subst ex
      go_wp2
      go_quiet (fail)
      go_wp2
      go_quiet (fail)
      go_wp2
      all_goals first
        | (go_roundg (n - (p + 1))
           case measure => rw [HK.out]; omega
           case rel =>
             obtain ⟨s0, s1, s2, s3⟩ := step_world _ d0 d1 g1 hb
             exact ⟨p + 1, by omega, by omega, rfl, all_snoc A.out (sp_yes (by first | exact Or.inl ‹_› | exact Or.inr (Or.inl ‹_›) | exact Or.inr (Or.inr (Or.inl ‹_›)) | exact Or.inr (Or.inr (Or.inr ‹_›)))), s0, s1, s2, s3⟩)
        | (first | go_end0 | (simp only [Exit.inBlock, Exit.then]; refine bodyPost_ret (results_none rfl _ _ _) rfl ?_) | refine bodyPost_ret (results_none rfl _ _ _) rfl ?_
           exact ⟨rfl, p, ⟨h1, h2, A.out, fun _ => sp_no ‹_› ‹_› ‹_› ‹_›⟩, d1, below_drewN hb _⟩)
    · go_wp2
      go_quiet (fail)
      go_wp2
      go_end0
      exact ⟨rfl, p, ⟨h1, h2, A.out, fun h => absurd h hlt⟩, d1, below_drewN hb _⟩

set_option maxHeartbeats 1000000 in
theorem skip5 (x : Option Addr) (n cap pos : Nat) (zs : List Int) (w : World) (hn : n ≤ 1048576) (hp : pos ≤ n) (ht : Text w w.heap.size x n zs) :
    Calls Try.prog 5 #[.slice x n cap, .int .i64 pos] w fun e w' => ∃ q : Nat, IsSkip zs n pos q ∧ e = .returned (.int .i64 q) ∧ Below w.heap.size w w' := by
  go_enter Try.func5, Try.ntmps5
  go_wp2_with fail
  go_at_call 7
  refine (skip7 w.heap.size x n cap pos zs _ hn hp (ht.below ((Below.refl _ _).alloc (Nat.le_refl _) _)) (by go_simp) (by go_simp) (by go_simp)).mono ?_
  rintro e w' ⟨rfl, q, hq, hc, hb⟩
  go_wp2
  go_ret
  exact ⟨q, hq, rfl, ((Below.refl _ _).alloc (Nat.le_refl _) _).trans hb⟩

theorem bytes4 (x : Option Addr) (n cap : Nat) (a1 a2 : Int) (w : World) (hn : n ≤ maxLen) :
    Calls Try.prog 4 #[.slice x n cap, .int .i64 a1, .int .i64 a2] w fun e w' => e = .returned (.bool (decide (n ≤ 1048576))) ∧ w' = w := by
  unfold maxLen at hn
  by_cases h : n ≤ 1048576
  · have e : decide (n ≤ 1048576) = true := by simpa using h
    rw [e]
    clear e
    go_enter Try.func4, Try.ntmps4
    go_wp2
    go_ret
    exact ⟨rfl, rfl⟩
  · have e : decide (n ≤ 1048576) = false := by simpa using h
    rw [e]
    clear e
    go_enter Try.func4, Try.ntmps4
    go_wp2
    go_ret
    exact ⟨rfl, rfl⟩
end Go.Proofs.Qxb6623456a
