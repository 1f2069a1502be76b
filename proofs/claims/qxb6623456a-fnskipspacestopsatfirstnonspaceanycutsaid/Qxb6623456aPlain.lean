/-
  THE PLAIN LAW (no Go text in sight): where skipping whitespace stops, said as a relation that has one answer.
-/
import Derived.Below
namespace Go.Proofs.Qxb6623456a.Plain

/-- the four bytes that JSON calls whitespace -/
def sp (c : Int) : Bool := c == 32 || c == 9 || c == 10 || c == 13

/-- q is where skipping stops in the first n bytes of zs, begun at pos -/
structure IsSkip (zs : List Int) (n pos q : Nat) : Prop where
  lo : pos ≤ q
  hi : q ≤ n
  all : ∀ i, pos ≤ i → i < q → sp (zs.getD i 0) = true
  stop : q < n → sp (zs.getD q 0) = false

theorem IsSkip.uniq {zs : List Int} {n pos q q' : Nat} (h : IsSkip zs n pos q) (h' : IsSkip zs n pos q') : q = q' := by
  rcases Nat.lt_trichotomy q q' with c | c | c
  · have a := h.stop (Nat.lt_of_lt_of_le c h'.hi)
    rw [h'.all q h.lo c] at a; cases a
  · exact c
  · have a := h'.stop (Nat.lt_of_lt_of_le c h.hi)
    rw [h.all q' h'.lo c] at a; cases a

/-- skipping again stands still -/
theorem IsSkip.again {zs : List Int} {n pos q q' : Nat} (h : IsSkip zs n pos q) (h' : IsSkip zs n q q') : q' = q :=
  h'.uniq ⟨Nat.le_refl _, h.hi, fun i h1 h2 => by omega, h.stop⟩

/-- the prefix stops before the cut: so does the whole, at the same place -/
theorem IsSkip.cut_lt {zs : List Int} {n pos cut q q1 : Nat} (hc : cut ≤ n) (h : IsSkip zs n pos q) (h1 : IsSkip zs cut pos q1) (hlt : q1 < cut) : q = q1 :=
  h.uniq ⟨h1.lo, Nat.le_trans h1.hi hc, h1.all, fun _ => h1.stop hlt⟩

/-- the prefix is skipped whole: the whole stops where skipping from the cut stops -/
theorem IsSkip.cut_ge {zs : List Int} {n pos cut q q1 q2 : Nat} (h : IsSkip zs n pos q) (h1 : IsSkip zs cut pos q1) (hge : ¬ q1 < cut) (h2 : IsSkip zs n cut q2) : q = q2 := by
  have e : q1 = cut := by have := h1.hi; omega
  subst e
  refine h.uniq ⟨Nat.le_trans h1.lo h2.lo, h2.hi, fun i a b => ?_, h2.stop⟩
  by_cases c : i < q1
  · exact h1.all i a c
  · exact h2.all i (by omega) b
end Go.Proofs.Qxb6623456a.Plain
