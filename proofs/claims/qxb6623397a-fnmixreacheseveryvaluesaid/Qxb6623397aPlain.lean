/-
  THE PLAIN LAW (no Go text in sight): the SplitMix64 finalizer on numbers below 2^64, and the inverse that the law's text works out.
-/
import Derived.Laws.Bits64
namespace Go.Proofs.Qxb6623397a.Plain

/-- x ^ x>>s, on natural numbers. -/
def sh (s x : Nat) : Nat := x ^^^ x / 2 ^ s
/-- y ^ y>>s ^ y>>2s. -/
def unsh (s y : Nat) : Nat := (y ^^^ y / 2 ^ s) ^^^ y / 2 ^ (2 * s)
def M : Nat := 18446744073709551616
def c1 : Nat := 13787848793156543929
def c2 : Nat := 10723151780598845931
def mixN (x : Nat) : Nat := sh 31 (sh 27 (sh 30 x * c1 % M) * c2 % M)
/-- the inverses of c1 and c2 modulo 2^64 -/
def i1 : Nat := 10871156337175269513
def i2 : Nat := 3573116690164977347
def unmixN (y : Nat) : Nat := unsh 30 (unsh 27 (unsh 31 y * i2 % M) * i1 % M)

theorem sh_lt {s x : Nat} (h : x < M) : sh s x < M := by
  have e : M = 2 ^ 64 := rfl
  unfold sh; rw [e] at *
  exact Nat.xor_lt_two_pow h (Nat.lt_of_le_of_lt (Nat.div_le_self _ _) h)
theorem unsh_lt {s x : Nat} (h : x < M) : unsh s x < M := by
  have e : M = 2 ^ 64 := rfl
  unfold unsh; rw [e] at *
  exact Nat.xor_lt_two_pow (Nat.xor_lt_two_pow h (Nat.lt_of_le_of_lt (Nat.div_le_self _ _) h)) (Nat.lt_of_le_of_lt (Nat.div_le_self _ _) h)

theorem unsh_sh {s x : Nat} (h : x < M) (hs : 22 ≤ s) : unsh s (sh s x) = x := by
  have e : M = 2 ^ 64 := rfl
  rw [e] at h
  apply Nat.eq_of_testBit_eq
  intro i
  have z : x.testBit (i + 2 * s + s) = false := Nat.testBit_lt_two_pow (Nat.lt_of_lt_of_le h (Nat.pow_le_pow_right (by omega) (by omega)))
  have e1 : i + s + s = i + 2 * s := by omega
  simp only [unsh, sh, Nat.testBit_xor, Nat.testBit_div_two_pow]
  simp only [z, e1]
  cases x.testBit i <;> cases x.testBit (i + s) <;> cases x.testBit (i + 2 * s) <;> rfl
theorem sh_unsh {s x : Nat} (h : x < M) (hs : 22 ≤ s) : sh s (unsh s x) = x := by
  have e : M = 2 ^ 64 := rfl
  rw [e] at h
  apply Nat.eq_of_testBit_eq
  intro i
  have z : x.testBit (i + s + 2 * s) = false := Nat.testBit_lt_two_pow (Nat.lt_of_lt_of_le h (Nat.pow_le_pow_right (by omega) (by omega)))
  have e1 : i + s + s = i + 2 * s := by omega
  simp only [unsh, sh, Nat.testBit_xor, Nat.testBit_div_two_pow]
  simp only [z, e1]
  cases x.testBit i <;> cases x.testBit (i + s) <;> cases x.testBit (i + 2 * s) <;> rfl
theorem mul_back {x a b : Nat} (h : x < M) (hab : a * b % M = 1) : (x * a % M) * b % M = x := by
  rw [Nat.mod_mul_mod, Nat.mul_assoc, Nat.mul_mod, hab, Nat.mul_one, Nat.mod_mod, Nat.mod_eq_of_lt h]
theorem mod_lt (n : Nat) : n % M < M := Nat.mod_lt _ (by decide)
theorem mixN_lt (x : Nat) : mixN x < M := sh_lt (mod_lt _)
theorem unmixN_lt (x : Nat) : unmixN x < M := unsh_lt (mod_lt _)
theorem unmix_mix {x : Nat} (h : x < M) : unmixN (mixN x) = x := by
  unfold unmixN mixN
  rw [unsh_sh (mod_lt _) (by decide), mul_back (sh_lt (mod_lt _)) (by decide), unsh_sh (mod_lt _) (by decide), mul_back (sh_lt h) (by decide), unsh_sh h (by decide)]
theorem mix_unmix {y : Nat} (h : y < M) : mixN (unmixN y) = y := by
  unfold unmixN mixN
  rw [sh_unsh (mod_lt _) (by decide), mul_back (unsh_lt (mod_lt _)) (by decide), sh_unsh (mod_lt _) (by decide), mul_back (unsh_lt h) (by decide), sh_unsh h (by decide)]

/-! ### The numbers as the walk spells them -/
theorem xor_div (s X Y D : Nat) (hX : X < M) (hY : Y < M) (hD : 2 ^ s = D) : bits .xor .u64 (X : Int) ((Y : Int) / (D : Int)) = ((X ^^^ Y / 2 ^ s : Nat) : Int) := by
  have d : ((Y : Int) / (D : Int)) = ((Y / 2 ^ s : Nat) : Int) := by rw [hD]; exact (Int.natCast_ediv Y D).symm
  rw [d]
  exact bits_xor_u64_nat _ _ hX (Nat.lt_of_le_of_lt (Nat.div_le_self _ _) hY)
theorem wrap_mul (X C : Nat) : IntKind.u64.wrap ((X : Int) * (C : Int)) = ((X * C % M : Nat) : Int) := by
  rw [IntKind.wrap_u64, Int.natCast_emod, Int.natCast_mul]; rfl
theorem mix_spelt (X : Nat) (h : X < M) :
    bits .xor .u64
      (IntKind.u64.wrap (bits .xor .u64 (IntKind.u64.wrap (bits .xor .u64 (X : Int) ((X : Int) / 1073741824) * 13787848793156543929)) (IntKind.u64.wrap (bits .xor .u64 (X : Int) ((X : Int) / 1073741824) * 13787848793156543929) / 134217728) * 10723151780598845931))
      (IntKind.u64.wrap (bits .xor .u64 (IntKind.u64.wrap (bits .xor .u64 (X : Int) ((X : Int) / 1073741824) * 13787848793156543929)) (IntKind.u64.wrap (bits .xor .u64 (X : Int) ((X : Int) / 1073741824) * 13787848793156543929) / 134217728) * 10723151780598845931) / 2147483648)
      = ((mixN X : Nat) : Int) := by
  have e1 : bits .xor .u64 (X : Int) ((X : Int) / 1073741824) = ((sh 30 X : Nat) : Int) := xor_div 30 X X 1073741824 h h rfl
  rw [e1]
  have e2 : IntKind.u64.wrap (((sh 30 X : Nat) : Int) * 13787848793156543929) = ((sh 30 X * c1 % M : Nat) : Int) := wrap_mul _ 13787848793156543929
  rw [e2]
  have e3 : bits .xor .u64 ((sh 30 X * c1 % M : Nat) : Int) (((sh 30 X * c1 % M : Nat) : Int) / 134217728) = ((sh 27 (sh 30 X * c1 % M) : Nat) : Int) := xor_div 27 _ _ 134217728 (mod_lt _) (mod_lt _) rfl
  rw [e3]
  have e4 : IntKind.u64.wrap (((sh 27 (sh 30 X * c1 % M) : Nat) : Int) * 10723151780598845931) = ((sh 27 (sh 30 X * c1 % M) * c2 % M : Nat) : Int) := wrap_mul _ 10723151780598845931
  rw [e4]
  exact xor_div 31 _ _ 2147483648 (mod_lt _) (mod_lt _) rfl
end Go.Proofs.Qxb6623397a.Plain
