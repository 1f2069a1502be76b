/-
  WHAT THE WALKS ARE TOLD OF THE ARGUMENTS: items, strings, numbers; and frames on worlds.
-/
import Derived.Test.Qxb6623500aBase
import Derived.Deep.OwnRows
import Derived.WalkSmall
namespace Go.Proofs.Qxb6623500a
open Go.RowKit

/-- one item as it came in: its seven plain fields, and the slice of its sources with the strings -/
structure ZI where
  id : ByteArray
  path : ByteArray
  anchor : ByteArray
  disp : ByteArray
  reason : ByteArray
  conf : Int
  mi : ByteArray
  sa : Option Addr
  sl : Nat
  sc : Nat
  src : Nat → ByteArray

/-- n strings behind an address, all in blocks below B -/
def Strs (w : World) (B : Nat) (x : Option Addr) (n : Nat) (s : Nat → ByteArray) : Prop :=
  ∀ j, j < n → ∃ b off, x = some ⟨b, off, none⟩ ∧ b < B ∧ w.cell? ⟨b, off + j, none⟩ = some (.string (s j))

/-- item z lies at block b from offset o on -/
structure ItemAt (w : World) (B b o : Nat) (z : ZI) : Prop where
  lt : b < B
  c0 : w.cell? ⟨b, o, none⟩ = some (.string z.id)
  c1 : w.cell? ⟨b, o + 1, none⟩ = some (.string z.path)
  c2 : w.cell? ⟨b, o + 2, none⟩ = some (.string z.anchor)
  c3 : w.cell? ⟨b, o + 3, none⟩ = some (.string z.disp)
  c4 : w.cell? ⟨b, o + 4, none⟩ = some (.string z.reason)
  c5 : w.cell? ⟨b, o + 5, none⟩ = some (.int .i64 z.conf)
  c6 : w.cell? ⟨b, o + 6, none⟩ = some (.string z.mi)
  c7 : w.cell? ⟨b, o + 7, none⟩ = some (.slice z.sa z.sl z.sc)
  strs : Strs w B z.sa z.sl z.src
  bd : z.sl ≤ maxLen

/-- n items behind an address -/
def Items (w : World) (B : Nat) (x : Option Addr) (n : Nat) (Z : Nat → ZI) : Prop :=
  ∀ i, i < n → ∃ b off, x = some ⟨b, off, none⟩ ∧ ItemAt w B b (off + i * 8) (Z i)

/-- n ints behind an address -/
def Ints (w : World) (B : Nat) (x : Option Addr) (n : Nat) (m : Nat → Int) : Prop :=
  ∀ k, k < n → ∃ b off, x = some ⟨b, off, none⟩ ∧ b < B ∧ w.cell? ⟨b, off + k, none⟩ = some (.int .i64 (m k))

section
variable {w w' : World} {B : Nat} {x : Option Addr} {n : Nat}
theorem Strs.below {s : Nat → ByteArray} (h : Strs w B x n s) (hb : Below B w w') : Strs w' B x n s := by
  intro j hj
  obtain ⟨b, off, e, hlt, hc⟩ := h j hj
  exact ⟨b, off, e, hlt, (hb.cell hlt).trans hc⟩
theorem Strs.mono {B' : Nat} {s : Nat → ByteArray} (h : Strs w B x n s) (hB : B ≤ B') : Strs w B' x n s := by
  intro j hj
  obtain ⟨b, off, e, hlt, hc⟩ := h j hj
  exact ⟨b, off, e, by omega, hc⟩
theorem ItemAt.below {b o : Nat} {z : ZI} (h : ItemAt w B b o z) (hb : Below B w w') : ItemAt w' B b o z :=
  ⟨h.lt, (hb.cell h.lt).trans h.c0, (hb.cell h.lt).trans h.c1, (hb.cell h.lt).trans h.c2, (hb.cell h.lt).trans h.c3, (hb.cell h.lt).trans h.c4, (hb.cell h.lt).trans h.c5, (hb.cell h.lt).trans h.c6, (hb.cell h.lt).trans h.c7, h.strs.below hb, h.bd⟩
theorem Items.below {Z : Nat → ZI} (h : Items w B x n Z) (hb : Below B w w') : Items w' B x n Z := by
  intro i hi
  obtain ⟨b, off, e, hz⟩ := h i hi
  exact ⟨b, off, e, hz.below hb⟩
theorem Ints.below {m : Nat → Int} (h : Ints w B x n m) (hb : Below B w w') : Ints w' B x n m := by
  intro j hj
  obtain ⟨b, off, e, hlt, hc⟩ := h j hj
  exact ⟨b, off, e, hlt, (hb.cell hlt).trans hc⟩
end
end Go.Proofs.Qxb6623500a
