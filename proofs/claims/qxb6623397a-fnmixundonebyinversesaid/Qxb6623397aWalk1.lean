/-
  THE WALKS: mix (9), ZZmix (6), zzInvOdd (8) at the two multipliers, zzUnXorShift (7) at the three shifts, zzUnmix (5).
-/
import Derived.Test.Qxb6623397aRows
import Derived.Test.Qxb6623397aPlain
import Derived.WalkKit
import Derived.ProofKit
import Derived.OpenShut
namespace Go.Proofs.Qxb6623397a
open Go.ChangeShapes Go.WideShapes Go.ChangeAt Go.RowKit
open Plain

theorem ret_u64 {a b : Int} (h : a = b) : Ending.returned (.int .u64 a) = .returned (.int .u64 b) := by rw [h]

theorem mix9 (X : Nat) (h : X < M) (w : World) :
    Calls Try.prog 9 #[.int .u64 (X : Int)] w fun e w' => e = .returned (.int .u64 (mixN X : Nat)) ∧ w' = w := by
  go_enter Try.func9, Try.ntmps9
  go_wp2
  go_ret
  exact ⟨ret_u64 (mix_spelt X h), rfl⟩

theorem mix6 (X : Nat) (h : X < M) (w : World) :
    Calls Try.prog 6 #[.int .u64 (X : Int)] w fun e w' => e = .returned (.int .u64 (mixN X : Nat)) ∧ w' = w := by
  go_enter Try.func6, Try.ntmps6
  go_wp2_with (go_at_call 9; refine (mix9 X h _).mono ?_; rintro e w' ⟨rfl, rfl⟩)
  go_ret
  exact ⟨rfl, rfl⟩

/-- One step of Newton's iteration, as the walk spells it. -/
def newt (c i : Int) : Int := IntKind.u64.wrap (i * IntKind.u64.wrap (2 - IntKind.u64.wrap (c * i)))
def invI (c : Int) : Int := newt c (newt c (newt c (newt c (newt c c))))
theorem inv8 (c : Int) (w : World) :
    Calls Try.prog 8 #[.int .u64 c] w fun e w' => e = .returned (.int .u64 (invI c)) ∧ w' = w := by
  go_enter Try.func8, Try.ntmps8
  go_wp2
  go_ret
  exact ⟨rfl, rfl⟩

theorem unsh31 (X : Nat) (h : X < M) (w : World) :
    Calls Try.prog 7 #[.int .u64 (X : Int), .int .u64 31] w fun e w' => e = .returned (.int .u64 (unsh 31 X : Nat)) ∧ w' = w := by
  have a1 : bits .xor .u64 (X : Int) ((X : Int) / 2147483648) = ((sh 31 X : Nat) : Int) := xor_div 31 X X 2147483648 h h rfl
  have a2 : bits .xor .u64 ((sh 31 X : Nat) : Int) ((X : Int) / 4611686018427387904) = ((unsh 31 X : Nat) : Int) := xor_div 62 _ X 4611686018427387904 (sh_lt h) h rfl
  go_enter Try.func7, Try.ntmps7
  go_wp2
  go_loop [5, 6] (fun x k => (k = .int .u64 31 ∧ x = .int .u64 (X : Int)) ∨ (k = .int .u64 62 ∧ x = .int .u64 (sh 31 X : Nat)) ∨ (k = .int .u64 93 ∧ x = .int .u64 (unsh 31 X : Nat))) (fun _ k => 93 - (intOf k).toNat)
  case atStart => exact Or.inl ⟨rfl, rfl⟩
  case round =>
    rcases hrel with ⟨rfl, rfl⟩ | ⟨rfl, rfl⟩ | ⟨rfl, rfl⟩
    · go_wp2
      go_round
      case rel => exact Or.inr (Or.inl ⟨rfl, rfl⟩)
      case measure => simp [intOf]
    · go_wp2
      go_round
      case rel => exact Or.inr (Or.inr ⟨rfl, rfl⟩)
      case measure => simp [intOf]
    · go_wp2
      go_ret
      exact ⟨rfl, rfl⟩

theorem unsh27 (X : Nat) (h : X < M) (w : World) :
    Calls Try.prog 7 #[.int .u64 (X : Int), .int .u64 27] w fun e w' => e = .returned (.int .u64 (unsh 27 X : Nat)) ∧ w' = w := by
  have a1 : bits .xor .u64 (X : Int) ((X : Int) / 134217728) = ((sh 27 X : Nat) : Int) := xor_div 27 X X 134217728 h h rfl
  have a2 : bits .xor .u64 ((sh 27 X : Nat) : Int) ((X : Int) / 18014398509481984) = ((unsh 27 X : Nat) : Int) := xor_div 54 _ X 18014398509481984 (sh_lt h) h rfl
  go_enter Try.func7, Try.ntmps7
  go_wp2
  go_loop [5, 6] (fun x k => (k = .int .u64 27 ∧ x = .int .u64 (X : Int)) ∨ (k = .int .u64 54 ∧ x = .int .u64 (sh 27 X : Nat)) ∨ (k = .int .u64 81 ∧ x = .int .u64 (unsh 27 X : Nat))) (fun _ k => 81 - (intOf k).toNat)
  case atStart => exact Or.inl ⟨rfl, rfl⟩
  case round =>
    rcases hrel with ⟨rfl, rfl⟩ | ⟨rfl, rfl⟩ | ⟨rfl, rfl⟩
    · go_wp2
      go_round
      case rel => exact Or.inr (Or.inl ⟨rfl, rfl⟩)
      case measure => simp [intOf]
    · go_wp2
      go_round
      case rel => exact Or.inr (Or.inr ⟨rfl, rfl⟩)
      case measure => simp [intOf]
    · go_wp2
      go_ret
      exact ⟨rfl, rfl⟩

theorem unsh30 (X : Nat) (h : X < M) (w : World) :
    Calls Try.prog 7 #[.int .u64 (X : Int), .int .u64 30] w fun e w' => e = .returned (.int .u64 (unsh 30 X : Nat)) ∧ w' = w := by
  have a1 : bits .xor .u64 (X : Int) ((X : Int) / 1073741824) = ((sh 30 X : Nat) : Int) := xor_div 30 X X 1073741824 h h rfl
  have a2 : bits .xor .u64 ((sh 30 X : Nat) : Int) ((X : Int) / 1152921504606846976) = ((unsh 30 X : Nat) : Int) := xor_div 60 _ X 1152921504606846976 (sh_lt h) h rfl
  go_enter Try.func7, Try.ntmps7
  go_wp2
  go_loop [5, 6] (fun x k => (k = .int .u64 30 ∧ x = .int .u64 (X : Int)) ∨ (k = .int .u64 60 ∧ x = .int .u64 (sh 30 X : Nat)) ∨ (k = .int .u64 90 ∧ x = .int .u64 (unsh 30 X : Nat))) (fun _ k => 90 - (intOf k).toNat)
  case atStart => exact Or.inl ⟨rfl, rfl⟩
  case round =>
    rcases hrel with ⟨rfl, rfl⟩ | ⟨rfl, rfl⟩ | ⟨rfl, rfl⟩
    · go_wp2
      go_round
      case rel => exact Or.inr (Or.inl ⟨rfl, rfl⟩)
      case measure => simp [intOf]
    · go_wp2
      go_round
      case rel => exact Or.inr (Or.inr ⟨rfl, rfl⟩)
      case measure => simp [intOf]
    · go_wp2
      go_ret
      exact ⟨rfl, rfl⟩

theorem mul1 (X : Nat) : IntKind.u64.wrap ((X : Int) * invI 10723151780598845931) = ((X * i2 % M : Nat) : Int) := by
  have e : invI 10723151780598845931 = ((3573116690164977347 : Nat) : Int) := by decide +kernel
  rw [e]; exact wrap_mul X 3573116690164977347
theorem mul2 (X : Nat) : IntKind.u64.wrap ((X : Int) * invI 13787848793156543929) = ((X * i1 % M : Nat) : Int) := by
  have e : invI 13787848793156543929 = ((10871156337175269513 : Nat) : Int) := by decide +kernel
  rw [e]; exact wrap_mul X 10871156337175269513

theorem unmix5 (X : Nat) (h : X < M) (w : World) :
    Calls Try.prog 5 #[.int .u64 (X : Int)] w fun e w' => e = .returned (.int .u64 (unmixN X : Nat)) ∧ w' = w := by
  unfold unmixN
  have m1 := mul1 (unsh 31 X)
  have h1 : unsh 31 X * i2 % M < M := mod_lt _
  generalize unsh 31 X * i2 % M = A at m1 h1 ⊢
  have m2 := mul2 (unsh 27 A)
  have h2 : unsh 27 A * i1 % M < M := mod_lt _
  generalize unsh 27 A * i1 % M = B at m2 h2 ⊢
  go_enter Try.func5, Try.ntmps5
  go_wp2_with fail
  go_at_call 7; refine (unsh31 _ h _).mono ?_; rintro e w' ⟨rfl, rfl⟩
  go_wp2_with fail
  go_at_call 8; refine (inv8 _ _).mono ?_; rintro e w' ⟨rfl, rfl⟩
  go_wp2_with fail
  go_at_call 7; refine (unsh27 _ h1 _).mono ?_; rintro e w' ⟨rfl, rfl⟩
  go_wp2_with fail
  go_at_call 8; refine (inv8 _ _).mono ?_; rintro e w' ⟨rfl, rfl⟩
  go_wp2_with fail
  go_at_call 7; refine (unsh30 _ h2 _).mono ?_; rintro e w' ⟨rfl, rfl⟩
  go_wp2
  go_ret
  exact ⟨rfl, rfl⟩

/-- A uint64 that fits its kind is a natural number below 2^64. -/
theorem nat_of_wf {a : Int} (h : (Lit.int .u64 a).wf = true) : ∃ X : Nat, a = (X : Int) ∧ X < M := by
  have hb := bounds_u64 h
  refine ⟨a.toNat, by omega, ?_⟩
  have e : M = 18446744073709551616 := rfl
  omega
end Go.Proofs.Qxb6623397a
