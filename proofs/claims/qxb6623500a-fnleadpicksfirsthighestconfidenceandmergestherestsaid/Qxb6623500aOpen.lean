/-
  THE ARGUMENTS, OPENED: from what the row reads to what the walks are told.
-/
import Derived.Test.Qxb6623500aData
import Derived.Deep.Slices
import Derived.Deep.Strs
import Derived.ChangeOld
namespace Go.Proofs.Qxb6623500a
open Go.ChangeShapes Go.WideShapes Go.ChangeAt Go.RowKit Go.Deep

section
variable {H : Type} {enc : TypeId × Value → H} {W : World} {spare : Nat → Bool} {held : Bool} {fuel : Nat} {x : DataW H × List MemPlace}

theorem addr_none {w : World} {a : Addr} {v : Value} (h : w.cell? (a.add 0) = some v) : ∃ b off, a = ⟨b, off, none⟩ := by
  obtain ⟨b, off, spot⟩ := a
  have hs : spot = none := by simpa [Addr.add] using World.cell?_spot h
  subst hs
  exact ⟨b, off, rfl⟩
theorem add_none (b off j : Nat) : (⟨b, off, none⟩ : Addr).add j = ⟨b, off + j, none⟩ := by unfold Addr.add; split <;> simp_all

/-- a slice of strings (type 24) -/
theorem strs_open {a : Option Addr} {n c : Nat} (h : DataW.trod enc Try.prog W 0 spare held fuel 24 [.slice a n c] = some x) :
    ∃ s : Nat → ByteArray, Strs W W.heap.size a n s ∧ (a = none → n = 0 ∧ c = 0) ∧ n ≤ maxLen := by
  rcases open_strs Try.underlying24 Try.underlying9 (by kernel_rfl) h with ⟨hcs, _⟩ | ⟨ad, len, cap, m, Sx, hcs, _, hl, hm, hmm, _, hx⟩
  · simp at hcs
    obtain ⟨rfl, rfl, rfl⟩ := hcs
    exact ⟨fun _ => ByteArray.empty, fun j hj => by omega, fun _ => ⟨rfl, rfl⟩, Nat.zero_le _⟩
  · simp at hcs
    obtain ⟨rfl, rfl, rfl⟩ := hcs
    have hlm : n ≤ m := by rw [hmm]; split <;> omega
    refine ⟨Sx, fun j hj => ?_, (fun h => by cases h), Nat.le_trans hl hm⟩
    obtain ⟨b, off, rfl⟩ := addr_none (hx 0 (by omega)).1
    have hc := (hx j (by omega)).1
    rw [add_none] at hc
    exact ⟨b, off, rfl, World.block_lt_of_cell? W _ hc, hc⟩

/-- a slice of ints (type 23) -/
theorem ints_open {a : Option Addr} {n c : Nat} (h : DataW.trod enc Try.prog W 0 (fun _ => true) held fuel 23 [.slice a n c] = some x) :
    ∃ m : Nat → Int, Ints W W.heap.size a n m ∧ (a = none → n = 0 ∧ c = 0) ∧ n ≤ maxLen := by
  rcases open_ints Try.underlying23 Try.underlying3 (by kernel_rfl) h with ⟨hcs, _⟩ | ⟨ad, len, cap, zs, hcs, _, hl, hm, hz, _, hx, _⟩
  · simp at hcs
    obtain ⟨rfl, rfl, rfl⟩ := hcs
    exact ⟨fun _ => 0, fun j hj => by omega, fun _ => ⟨rfl, rfl⟩, Nat.zero_le _⟩
  · simp at hcs
    obtain ⟨rfl, rfl, rfl⟩ := hcs
    simp at hz
    refine ⟨fun j => zs.getD j 0, fun j hj => ?_, (fun h => by cases h), Nat.le_trans hl hm⟩
    obtain ⟨b, off, rfl⟩ := addr_none (hx 0 (by omega))
    have hc := hx j (by omega)
    rw [add_none] at hc
    exact ⟨b, off, rfl, World.block_lt_of_cell? W _ hc, hc⟩

/-- one item out of its eight cells -/
theorem item_open {cs : List Value} {b o : Nat} (hl : cs.length = 8) (hcell : ∀ j, j < 8 → W.cell? ⟨b, o + j, none⟩ = cs[j]?) (h : DataW.trod enc Try.prog W 0 spare held fuel 28 cs = some x) :
    ∃ z : ZI, ItemAt W W.heap.size b o z ∧ (z.sa = none → z.sl = 0 ∧ z.sc = 0) := by
  match cs, hl with
  | [c0, c1, c2, c3, c4, c5, c6, c7], _ =>
    obtain ⟨xs, n, _, _, _, hlen, hf⟩ := DataW.trod_struct Try.underlying28 h
    have hlen' : xs.length = 8 := hlen
    have ex : ∀ i, i < 8 → ∃ y, xs[i]? = some y := fun i hi => ⟨xs[i], List.getElem?_eq_getElem (by omega)⟩
    have k9 : Try.prog.cellsOf 9 = 1 := by kernel_rfl
    have k3 : Try.prog.cellsOf 3 = 1 := by kernel_rfl
    have k24 : Try.prog.cellsOf 24 = 1 := by kernel_rfl
    have f0 : DataW.trod enc Try.prog W 0 spare held n 9 (List.take (Try.prog.cellsOf 9) (List.drop 0 [c0, c1, c2, c3, c4, c5, c6, c7])) = xs[0]? := hf 0 _ rfl
    rw [k9] at f0
    obtain ⟨y0, hy0⟩ := ex 0 (by omega)
    obtain ⟨s0, e0, _, _⟩ := DataW.trod_string Try.underlying9 (f0.trans hy0)
    simp at e0
    have f1 : DataW.trod enc Try.prog W 0 spare held n 9 (List.take (Try.prog.cellsOf 9) (List.drop 1 [c0, c1, c2, c3, c4, c5, c6, c7])) = xs[1]? := hf 1 _ rfl
    rw [k9] at f1
    obtain ⟨y1, hy1⟩ := ex 1 (by omega)
    obtain ⟨s1, e1, _, _⟩ := DataW.trod_string Try.underlying9 (f1.trans hy1)
    simp at e1
    have f2 : DataW.trod enc Try.prog W 0 spare held n 9 (List.take (Try.prog.cellsOf 9) (List.drop 2 [c0, c1, c2, c3, c4, c5, c6, c7])) = xs[2]? := hf 2 _ rfl
    rw [k9] at f2
    obtain ⟨y2, hy2⟩ := ex 2 (by omega)
    obtain ⟨s2, e2, _, _⟩ := DataW.trod_string Try.underlying9 (f2.trans hy2)
    simp at e2
    have f3 : DataW.trod enc Try.prog W 0 spare held n 9 (List.take (Try.prog.cellsOf 9) (List.drop 3 [c0, c1, c2, c3, c4, c5, c6, c7])) = xs[3]? := hf 3 _ rfl
    rw [k9] at f3
    obtain ⟨y3, hy3⟩ := ex 3 (by omega)
    obtain ⟨s3, e3, _, _⟩ := DataW.trod_string Try.underlying9 (f3.trans hy3)
    simp at e3
    have f4 : DataW.trod enc Try.prog W 0 spare held n 9 (List.take (Try.prog.cellsOf 9) (List.drop 4 [c0, c1, c2, c3, c4, c5, c6, c7])) = xs[4]? := hf 4 _ rfl
    rw [k9] at f4
    obtain ⟨y4, hy4⟩ := ex 4 (by omega)
    obtain ⟨s4, e4, _, _⟩ := DataW.trod_string Try.underlying9 (f4.trans hy4)
    simp at e4
    have f5 : DataW.trod enc Try.prog W 0 spare held n 3 (List.take (Try.prog.cellsOf 3) (List.drop 5 [c0, c1, c2, c3, c4, c5, c6, c7])) = xs[5]? := hf 5 _ rfl
    rw [k3] at f5
    obtain ⟨y5, hy5⟩ := ex 5 (by omega)
    obtain ⟨s5, e5, _, _⟩ := DataW.trod_int Try.underlying3 (f5.trans hy5)
    simp at e5
    have f6 : DataW.trod enc Try.prog W 0 spare held n 9 (List.take (Try.prog.cellsOf 9) (List.drop 6 [c0, c1, c2, c3, c4, c5, c6, c7])) = xs[6]? := hf 6 _ rfl
    rw [k9] at f6
    obtain ⟨y6, hy6⟩ := ex 6 (by omega)
    obtain ⟨s6, e6, _, _⟩ := DataW.trod_string Try.underlying9 (f6.trans hy6)
    simp at e6
    have f7 : DataW.trod enc Try.prog W 0 spare held n 24 (List.take (Try.prog.cellsOf 24) (List.drop 7 [c0, c1, c2, c3, c4, c5, c6, c7])) = xs[7]? := hf 7 _ rfl
    rw [k24] at f7
    obtain ⟨y7, hy7⟩ := ex 7 (by omega)
    have f7' := f7.trans hy7
    simp only [List.drop_succ_cons, List.drop_zero, List.take_succ_cons, List.take_zero] at f7'
    obtain ⟨a7, l7, p7, e7⟩ : ∃ a l p, c7 = .slice a l p := by
      rcases open_strs Try.underlying24 Try.underlying9 k9 f7' with ⟨hcs, _⟩ | ⟨ad, len, cap, m, Sx, hcs, _⟩
      · simp at hcs; exact ⟨_, _, _, hcs⟩
      · simp at hcs; exact ⟨_, _, _, hcs⟩
    subst e0 e1 e2 e3 e4 e5 e6 e7
    obtain ⟨src, hs, hn, hm⟩ := strs_open f7'
    have c0 := hcell 0 (by omega)
    refine ⟨⟨s0, s1, s2, s3, s4, s5, s6, a7, l7, p7, src⟩, ⟨?_, c0, hcell 1 (by omega), hcell 2 (by omega), hcell 3 (by omega), hcell 4 (by omega), hcell 5 (by omega), hcell 6 (by omega), hcell 7 (by omega), hs, hm⟩, hn⟩
    exact World.block_lt_of_cell? W _ c0

/-- a slice of items (type 22) -/
theorem items_open {a : Option Addr} {n c : Nat} (h : DataW.trod enc Try.prog W 0 spare held fuel 22 [.slice a n c] = some x) :
    ∃ Z : Nat → ZI, Items W W.heap.size a n Z ∧ (∀ i, i < n → (Z i).sa = none → (Z i).sl = 0 ∧ (Z i).sc = 0) ∧ n ≤ maxLen := by
  have z0 : ZI := ⟨ByteArray.empty, ByteArray.empty, ByteArray.empty, ByteArray.empty, ByteArray.empty, 0, ByteArray.empty, none, 0, 0, fun _ => ByteArray.empty⟩
  rcases open_slice Try.underlying22 h with ⟨hcs, _⟩ | ⟨ad, len, cap, m, nn, D, Pl, hcs, _, hl, hm, hmm, _, hx⟩
  · simp at hcs
    obtain ⟨rfl, rfl, rfl⟩ := hcs
    exact ⟨fun _ => z0, fun j hj => by omega, fun j hj => by omega, Nat.zero_le _⟩
  · simp at hcs
    obtain ⟨rfl, rfl, rfl⟩ := hcs
    have hlm : n ≤ m := by rw [hmm]; split <;> omega
    have k28 : Try.prog.cellsOf 28 = 8 := by kernel_rfl
    rw [k28] at hx
    by_cases h0 : n = 0
    · subst h0
      exact ⟨fun _ => z0, fun j hj => by omega, fun j hj => by omega, Nat.zero_le _⟩
    have hspot : ∃ b off, ad = ⟨b, off, none⟩ := by
      obtain ⟨cs', h1, _⟩ := hx 0 (by omega)
      obtain ⟨_, hlen, hc⟩ := World.cells?_some h1
      have h2 := hc 0 (by omega)
      rw [List.getElem?_eq_getElem (show 0 < cs'.length by omega)] at h2
      rw [Nat.zero_mul] at h2
      have e : (ad.add 0).add 0 = ad.add 0 := by simp [Addr.add]
      rw [e] at h2
      exact addr_none h2
    obtain ⟨b, off, rfl⟩ := hspot
    obtain ⟨Z, hZ⟩ := @choose_lt ZI ⟨z0⟩ n (fun i z => ItemAt W W.heap.size b (off + i * 8) z ∧ (z.sa = none → z.sl = 0 ∧ z.sc = 0)) (fun i hi => by
      obtain ⟨cs', h1, h2⟩ := hx i (by omega)
      obtain ⟨_, hlen, hc⟩ := World.cells?_some h1
      refine item_open hlen (fun j hj => ?_) h2
      have := hc j hj
      rw [add_none, add_none] at this
      exact this)
    exact ⟨Z, fun i hi => ⟨b, off, rfl, (hZ i hi).1⟩, fun i hi => (hZ i hi).2, Nat.le_trans hl hm⟩
end
end Go.Proofs.Qxb6623500a
