/-
  THE LAW, whole: its chunks one behind the other.
-/
import Derived.Test.Qxb6623500aLawA
import Derived.Test.Qxb6623500aLawB
import Derived.Test.Qxb6623500aLawC
import Derived.Test.Qxb6623500aLawD
import Derived.Test.Qxb6623500aLawE
import Derived.Test.Qxb6623500aLawF
import Derived.Test.Qxb6623500aLawK
namespace Go.Proofs.Qxb6623500a
open Go.ChangeShapes Go.WideShapes Go.ChangeAt Go.RowKit
set_option linter.unusedVariables false      -- a walk need not use every bound

theorem goOn {P : Program} {Q : Exit → Act → World → Prop} {a : Act} {w : World} {C : Code} (k n : Nat) (h : Code.wp P (cutSeq n (seqDrop k C) (seqDrop (k + n) C)) Q a w) : Code.wp P (seqDrop k C) Q a w := by
  rw [← drop_drop, cut_drop] at h
  exact h
theorem Ints.up {w w' : World} {x : Option Addr} {n : Nat} {m : Nat → Int} (h : Ints w w.heap.size x n m) (hb : Below w.heap.size w w') : Ints w' w'.heap.size x n m := by
  intro j hj
  obtain ⟨b, off, e, hlt, hc⟩ := h j hj
  exact ⟨b, off, e, Nat.lt_of_lt_of_le hlt hb.size, (hb.cell hlt).trans hc⟩
theorem Strs.up {w w' : World} {x : Option Addr} {n : Nat} {s : Nat → ByteArray} (h : Strs w w.heap.size x n s) (hb : Below w.heap.size w w') : Strs w' w'.heap.size x n s := (h.below hb).mono hb.size
theorem ItemAt.mono {w : World} {B B' b o : Nat} {z : ZI} (h : ItemAt w B b o z) (hB : B ≤ B') : ItemAt w B' b o z :=
  ⟨Nat.lt_of_lt_of_le h.lt hB, h.c0, h.c1, h.c2, h.c3, h.c4, h.c5, h.c6, h.c7, h.strs.mono hB, h.bd⟩
theorem Items.up {w w' : World} {x : Option Addr} {n : Nat} {Z : Nat → ZI} (h : Items w w.heap.size x n Z) (hb : Below w.heap.size w w') : Items w' w'.heap.size x n Z := by
  intro i hi
  obtain ⟨b, off, e, hz⟩ := h i hi
  exact ⟨b, off, e, (hz.below hb).mono hb.size⟩

set_option maxRecDepth 100000 in
set_option maxHeartbeats 8000000 in
theorem law_tail (C : Code) (hC : Try.f3.body = some C) (ib io rb ro Mb Ib n0 c0 n1 n2 n3 c3 : Nat) (Z : Nat → ZI) (Mf If : Nat → Nat) (R : Nat → ByteArray) (w w2 : World) (a : Act)
    (h0 : n0 ≤ 1048576) (h1 : n1 ≤ 1048576) (h2 : n2 ≤ 1048576) (h3 : n3 ≤ 1048576) (hn1 : 0 < n1) (hs : ∀ i, i < n0 → (Z i).sl ≤ 1048576) (hnil : ∀ i, i < n0 → (Z i).sa = none → (Z i).sl = 0 ∧ (Z i).sc = 0)
    (hB2 : Below w.heap.size w w2) (hMb : Mb < w2.heap.size) (hIb : Ib < w2.heap.size)
    (hIt : Items w2 w2.heap.size (some ⟨ib, io, none⟩) n0 Z) (hR : Strs w2 w2.heap.size (some ⟨rb, ro, none⟩) n3 R)
    (hM : ∀ k, k < n1 → w2.cell? ⟨Mb, k, none⟩ = some (.int .i64 (Mf k))) (hMn : ∀ k, k < n1 → Mf k < n0) (hMi : ∀ k, k < n1 → Mf k < n2)
    (hI : ∀ k, k < n1 → w2.cell? ⟨Ib, Mf k, none⟩ = some (.int .i64 (If k))) (hIr : ∀ k, k < n1 → If k < n3)
    (hh : Holds a 380 [(0, .slice (some ⟨ib, io, none⟩) n0 c0), (1, .slice (some ⟨Mb, 0, none⟩) n1 n1), (2, .slice (some ⟨Ib, 0, none⟩) n2 n2), (3, .slice (some ⟨rb, ro, none⟩) n3 c3)]) :
    Code.wp Try.prog (seqDrop 7 C) (bodyPost Try.prog Try.f3 (RR w)) a w2 := by
  obtain ⟨g4, rfl, hq⟩ := hh.lit
  simp only [List.forall_mem_cons] at hq
  obtain ⟨q0, q1, q2, q3, _⟩ := hq
  clear hh
  simp only [lst, Nat.reduceAdd, q0, q1, q2, q3]
  clear q0 q1 q2 q3
  refine goOn 7 2 (chunk4 C _ hC (RR w) ib io n0 c0 _ _ _ Z g4 w2 h0 hIt hs hnil (fun a w3 ca hb3 hpit hca hh => ?_))
  have hPlt := World.rowIs.lt hpit
  obtain ⟨g5, rfl, hq⟩ := hh.lit
  simp only [List.forall_mem_cons] at hq
  obtain ⟨q0, q1, q2, q3, q13, _⟩ := hq
  clear hh
  simp only [lst, Nat.reduceAdd, q0, q1, q2, q3, q13]
  clear q0 q1 q2 q3 q13
  refine goOn 9 2 (chunk5 C _ hC (RR w) rb ro n3 c3 _ _ _ _ R g5 w3 h3 (hR.up hb3) (fun a w4 hb4 hlt4 hsets hh => ?_))
  obtain ⟨g6, rfl, hq⟩ := hh.lit
  simp only [List.forall_mem_cons] at hq
  obtain ⟨q0, q1, q2, q3, q13, q16, _⟩ := hq
  clear hh
  simp only [lst, Nat.reduceAdd, q0, q1, q2, q3, q13, q16]
  clear q0 q1 q2 q3 q13 q16
  have hb24 : Below w2.heap.size w2 w4 := hb3.trans (hb4.mono hb3.size)
  refine goOn 11 1 (chunk6 C _ hC (RR w) w2.heap.size Mb Ib w3.heap.size n0 n1 n2 n3 _ _ (pit Z ca) Mf If R g6 w4 h0 hn1 h1 h2 h3 (hpit.only (Only.of_below (P := w2.heap.size + 1) hb4) (by omega)) (by omega) (by omega) (by omega)
    (fun k hk => cell_below hb24 (hM k hk)) hMn hMi (fun k hk => cell_below hb24 (hI k hk)) hIr hsets (fun a w5 fk Sb hl honly hSb hstr hpit5 hh => ?_))
  obtain ⟨g7, rfl, hq⟩ := hh.lit
  simp only [List.forall_mem_cons] at hq
  obtain ⟨q0, q1, q2, q3, q13, _⟩ := hq
  clear hh
  simp only [lst, Nat.reduceAdd, q0, q1, q2, q3, q13]
  clear q0 q1 q2 q3 q13
  have hb25 : Below w2.heap.size w2 w5 := hb24.trans (honly.below _ (Nat.le_refl _) hb24.size)
  refine goOn 12 6 (chunk7 C _ hC (RR w) ib io Mb n0 c0 n1 _ _ _ Z Mf g7 w5 h0 hn1 h1 (fun k hk => cell_below hb25 (hM k hk)) hMn (fun i hi => ?_) (fun a bk hlb hh => ?_))
  · obtain ⟨b, off, e, hz⟩ := (hIt.below hb25) i hi
    cases e
    exact hz.c5
  obtain ⟨g9, rfl, hq⟩ := hh.lit
  simp only [List.forall_mem_cons] at hq
  obtain ⟨q0, q1, q2, q3, q13, q21, _⟩ := hq
  clear hh
  simp only [lst, Nat.reduceAdd, q0, q1, q2, q3, q13, q21]
  clear q0 q1 q2 q3 q13 q21
  obtain rfl : bk = fk := hlb.uniq hl
  refine goOn 18 2 (chunk9 C _ hC (RR w) _ Mb n0 c0 n1 _ _ _ _ Mf g9 w5 h0 h1 (fun k hk => cell_below hb25 (hM k hk)) (Nat.lt_of_lt_of_le hMb hb25.size) hMn (fun a w6 hb6 hlt6 hIM hh => ?_))
  obtain ⟨g10, rfl, hq⟩ := hh.lit
  simp only [List.forall_mem_cons] at hq
  obtain ⟨q0, q1, q2, q3, q13, q21, q22, _⟩ := hq
  clear hh
  simp only [lst, Nat.reduceAdd, q0, q1, q2, q3, q13, q21, q22]
  clear q0 q1 q2 q3 q13 q21 q22
  have hb26 : Below w2.heap.size w2 w6 := hb25.trans (hb6.mono hb25.size)
  refine chunk10 C hC ib io Mb Ib rb ro w2.heap.size w5.heap.size Sb n0 c0 n1 n2 n3 c3 (Mf bk) Z ca Mf If R g10 w w6 h0 h1 h2 h3 (fun i hi => ?_) hs
    (hpit5.only (Only.of_below (P := w2.heap.size + 1) hb6) (by omega)) (fun i hi => ?_) (hMn bk hl.lt) hIM hMn hMi hIr (fun j hj => cell_below hb6 (hstr j hj)) (fun j hj => cell_below hb26 (hM j hj)) (fun j hj => cell_below hb26 (hI j hj)) (fun j hj => ?_)
    (hB2.trans (hb26.mono hB2.size))
  · obtain ⟨b, off, e, hz⟩ := (hIt.up hb26) i hi
    cases e
    exact hz
  · have hc := hca i hi
    exact ⟨hc.1, ((((hc.2.below hb4).only honly).below hb6).at)⟩
  · obtain ⟨b, off, e, _, hc⟩ := (hR.below hb26) j hj
    cases e
    exact hc

set_option maxRecDepth 100000 in
set_option maxHeartbeats 8000000 in
theorem law3 (x0 x1 x2 x3 : Option Addr) (n0 c0 n1 c1 n2 c2 n3 c3 : Nat) (Z : Nat → ZI) (M I : Nat → Int) (R : Nat → ByteArray) (w : World)
    (hIt : Items w w.heap.size x0 n0 Z) (hnil : ∀ i, i < n0 → (Z i).sa = none → (Z i).sl = 0 ∧ (Z i).sc = 0)
    (hM : Ints w w.heap.size x1 n1 M) (hI : Ints w w.heap.size x2 n2 I) (hx2 : x2 = none → n2 = 0 ∧ c2 = 0) (hR : Strs w w.heap.size x3 n3 R)
    (m0 : n0 ≤ maxLen) (m1 : n1 ≤ maxLen) (m2 : n2 ≤ maxLen) (m3 : n3 ≤ maxLen) :
    Calls Try.prog 3 #[.slice x0 n0 c0, .slice x1 n1 c1, .slice x2 n2 c2, .slice x3 n3 c3] w (RR w) := by
  refine calls_of_wp Try.func3 (c := Try.f3.body.getD .skip) rfl ?_
  have hC : Try.f3.body = some (Try.f3.body.getD .skip) := rfl
  generalize Try.f3.body.getD .skip = C at hC ⊢
  simp only [Try.ntmps3, List.size_toArray, List.length_cons, List.length_nil, Nat.reduceAdd, Nat.reduceSub, Array.replicate_succ,
     Array.replicate_zero, List.push_toArray, List.append_toArray, List.nil_append, List.cons_append]
  refine goOn 0 4 (chunk1 C _ hC x0 x1 x2 x3 n0 c0 n1 c1 n2 c2 n3 c3 Z R (fun _ => undef) w hIt hR m0 m1 m2 m3 (fun a w1 h0 h1 h2 h3 hs hn1 hb1 hh => ?_))
  obtain ⟨mb, mo, e1, _, _⟩ := hM 0 hn1
  subst e1
  obtain ⟨g2, rfl, hq⟩ := hh.lit
  simp only [List.forall_mem_cons] at hq
  obtain ⟨q0, q1, q2, q3, _⟩ := hq
  clear hh
  simp only [lst, Nat.reduceAdd, q0, q1, q2, q3]
  clear q0 q1 q2 q3
  refine goOn 4 2 (chunk2 C _ hC (RR w) mb mo x2 n1 c1 n2 c2 _ _ M I g2 w1 h1 h2 (hM.up hb1) (hI.up hb1) hx2 (fun a w2 Mb Ib x2' hb2 hMb hIb hx2' hMc hIc hh => ?_))
  have hB2 : Below w.heap.size w w2 := hb1.trans (hb2.mono hb1.size)
  obtain ⟨g3, rfl, hq⟩ := hh.lit
  simp only [List.forall_mem_cons] at hq
  obtain ⟨q0, q1, q2, q3, _⟩ := hq
  clear hh
  simp only [lst, Nat.reduceAdd, q0, q1, q2, q3]
  clear q0 q1 q2 q3
  refine goOn 6 1 (chunk3 C _ hC Mb Ib x0 x2' x3 n0 c0 n1 n2 n3 c3 M I g3 w w2 h0 h1 h2 h3 hB2 hx2' hMc hIc (fun a hval hh => ?_))
  have hv0 := hval 0 hn1
  obtain ⟨ib, io, e0, _⟩ := hIt 0 (by omega)
  subst e0
  obtain ⟨rb, ro, e3, _, _⟩ := hR 0 (by omega)
  subst e3
  have e2 : x2' = some ⟨Ib, 0, none⟩ := by
    rcases hx2' with h | h
    · exact h
    · exact absurd h (by omega)
  subst e2
  have hMe : ∀ k, k < n1 → M k = (((M k).toNat : Nat) : Int) := fun k hk => by have := hval k hk; omega
  refine law_tail C hC ib io rb ro Mb Ib n0 c0 n1 n2 n3 c3 Z (fun k => (M k).toNat) (fun k => (I (M k).toNat).toNat) R w w2 a h0 h1 h2 h3 hn1 hs hnil hB2 hMb hIb (hIt.up hB2) (hR.up hB2) (fun k hk => ?_) (fun k hk => ?_) (fun k hk => ?_) (fun k hk => ?_) (fun k hk => ?_) hh
  · rw [← hMe k hk]; exact hMc k hk
  · have := hval k hk; show (M k).toNat < n0; omega
  · have := hval k hk; show (M k).toNat < n2; omega
  · have hv := hval k hk
    have := hIc (M k).toNat (by omega)
    rw [this]
    show some (Value.int .i64 (I (M k).toNat)) = some (.int .i64 (((I (M k).toNat).toNat : Nat) : Int))
    rw [Int.toNat_of_nonneg hv.2.2.2.1]
  · have := hval k hk; show (I (M k).toNat).toNat < n3; omega
end Go.Proofs.Qxb6623500a
