/-
  THE WALK OF THE LAW (3), in two parts: a nil text; a text that is not nil.
-/
import Derived.Test.Qxb6623456aWalk1
import Derived.Laws.CopyOwn
import Derived.Deep.OwnRows
import Derived.WalkSpells
import Derived.Deep.DeepMust
namespace Go.Proofs.Qxb6623456a
open Go.ChangeShapes Go.WideShapes Go.ChangeAt Go.RowKit
open Plain

/-- 'c := make([]T, len(s)); copy(c, s)', s a slice that is not nil, its elements the cells vs: the new row holds vs; nothing that was there has turned. -/
theorem copy_made {P : Program} (dT E : TypeId) (z : Value) (hu : P.underlying dT = some (.slice E)) (hs : (P.info? E).map (·.size) = some 1) (w : World) (ad : Addr) (n cap : Nat) (vs : List Value) (hlen : vs.length = n)
    (h1 : ∀ v ∈ vs, v.oneCell' = true) (hsrc : ∀ j v, vs[j]? = some v → w.cell? (ad.add j) = some v) :
    ∃ w2, (∀ ty, (Builtin.copy_ #[dT, dT] ty #[.slice (some ⟨w.heap.size, 0, none⟩) n n, .slice (some ad) n cap]).run P (w.alloc (.cells (madeCells #[z] n) E)) = .ok (.int .i64 (n : Int)) w2) ∧
      Below w.heap.size w w2 ∧ w2.heap[w.heap.size]? = some (.cells vs.toArray E (0, 0)) := by
  have hnew : (w.alloc (.cells (madeCells #[z] n) E)).heap[w.heap.size]? = some (.cells (madeCells #[z] n) E (0, 0)) := by
    show (w.heap.push _)[w.heap.size]? = _
    simp
  have hbel : Below w.heap.size w (w.alloc (.cells (madeCells #[z] n) E)) := (Below.refl _ _).alloc (Nat.le_refl _) _
  by_cases h0 : n = 0
  · subst h0
    obtain rfl : vs = [] := List.eq_nil_of_length_eq_zero hlen
    refine ⟨_, fun ty => run_copy_none _ dT dT ty E _ _ _ _ _ _ hu hs rfl, hbel, ?_⟩
    rw [hnew]; simp [madeCells]
  · refine ⟨(w.alloc (.cells (madeCells #[z] n) E)).setRow w.heap.size ((madeCells #[z] n).toList.take 0 ++ vs ++ (madeCells #[z] n).toList.drop (0 + vs.length)).toArray, fun ty => ?_, ?_, ?_⟩
    · have hr := run_copy_row (P := P) (w.alloc (.cells (madeCells #[z] n) E)) dT dT ty E w.heap.size 0 n n ad n cap (madeCells #[z] n) E vs hu hs hnew (by simpa using hlen)
        (fun j v hv => by
          have := hsrc j v hv
          exact (World.cell?_alloc_lt _ _ _ (World.block_lt_of_cell? w _ this)).trans this) (by simp [size_madeCells, hlen]) h1
      rw [hr, hlen]; rfl
    · exact below_setRow hbel (Nat.le_refl _) _
    · rw [setRow_heap _ _ _ _ _ _ hnew]
      have : (madeCells #[z] n).toList.length = n := by simp [size_madeCells]
      rw [List.take_zero, List.drop_of_length_le (by rw [this]; omega)]
      simp

/-- The copy as the walks are told of it. -/
theorem text_of_row {w : World} {g n : Nat} {t : TypeId} {zs : List Int} (hn : n ≤ zs.length) (h : w.heap[g]? = some (.cells ((zs.take n).map (Value.int .u8)).toArray t (0, 0))) :
    g < w.heap.size ∧ Text w w.heap.size (some ⟨g, 0, none⟩) n zs := by
  have hg : g < w.heap.size := by
    rcases Nat.lt_or_ge g w.heap.size with c | c
    · exact c
    · rw [Array.getElem?_eq_none c] at h; cases h
  refine ⟨hg, fun i hi => ⟨g, 0, rfl, hg, ?_⟩⟩
  simp only [World.cell?, h]
  simp [hi, List.getElem?_eq_getElem (show i < zs.length by omega)]

theorem Text.mono {w : World} {B B' : Nat} {x : Option Addr} {n n' : Nat} {zs : List Int} (h : Text w B x n zs) (hB : B ≤ B') (hn : n' ≤ n) : Text w B' x n' zs := by
  intro i hi
  obtain ⟨b, off, e, hlt, hc⟩ := h i (by omega)
  exact ⟨b, off, e, by omega, hc⟩
/-- a byte of the copy, where the walk reads it -/
theorem Text.at {w : World} {B g : Nat} {n : Nat} {zs : List Int} (h : Text w B (some ⟨g, 0, none⟩) n zs) (i : Nat) (hi : i < n) : w.cell? ⟨g, i, none⟩ = some (.int .u8 (zs[i]?.getD 0)) := by
  obtain ⟨b, off, e, hlt, hc⟩ := h i hi
  cases e
  rw [← List.getD_eq_getElem?_getD]
  simpa using hc

theorem skip_zero {q : Nat} (h : IsSkip [] 0 0 q) : q = 0 := by have := h.hi; omega

/-- pos is out of range: true at once -/
theorem law_out (x : Option Addr) (n cap : Nat) (a1 a2 : Int) (w : World) (hm : n ≤ maxLen) (h : ¬ n ≤ 1048576 ∨ a1 < 0 ∨ (n : Int) < a1) :
    Calls Try.prog 3 #[.slice x n cap, .int .i64 a1, .int .i64 a2] w fun e w' => e = .returned (.bool true) ∧ Below w.heap.size w w' := by
  have hm' := hm
  unfold maxLen at hm'
  by_cases h0 : n ≤ 1048576
  · have e : decide (n ≤ 1048576) = true := by simpa using h0
    by_cases h1 : a1 < 0
    · go_enter Try.func3, Try.ntmps3
      go_wp2_with (go_at_call 4; refine (bytes4 _ _ _ _ _ _ hm).mono ?_; rintro e w' ⟨rfl, rfl⟩)
      go_ret
      exact ⟨rfl, Below.refl _ _⟩
    · have h2 : (n : Int) < a1 := by omega
      go_enter Try.func3, Try.ntmps3
      go_wp2_with (go_at_call 4; refine (bytes4 _ _ _ _ _ _ hm).mono ?_; rintro e w' ⟨rfl, rfl⟩)
      go_ret
      exact ⟨rfl, Below.refl _ _⟩
  · have e : decide (n ≤ 1048576) = false := by simpa using h0
    go_enter Try.func3, Try.ntmps3
    go_wp2_with (go_at_call 4; refine (bytes4 _ _ _ _ _ _ hm).mono ?_; rintro e w' ⟨rfl, rfl⟩)
    go_ret
    exact ⟨rfl, Below.refl _ _⟩

set_option maxHeartbeats 2000000 in
theorem law_row (x : Addr) (n cap pos : Nat) (a2 : Int) (zs : List Int) (w : World) (hlc : n ≤ cap) (hz : zs.length = cap) (hn : n ≤ 1048576) (hp : pos ≤ n)
    (hcell : ∀ i, i < zs.length → w.cell? (x.add i) = some (.int .u8 (zs.getD i 0))) :
    Calls Try.prog 3 #[.slice (some x) n cap, .int .i64 pos, .int .i64 a2] w fun e w' => e = .returned (.bool true) ∧ Below w.heap.size w w' := by
  have hm : n ≤ maxLen := by unfold maxLen; omega
  have e0 : decide (n ≤ 1048576) = true := by simpa using hn
  have hnn : ∀ w, (binOp .neq 22 (.slice (some x) n cap) (.slice none 0 0)).run Try.prog w = .ok (.bool true) w := fun w => by
    have := run_neq_slice_nil_any (P := Try.prog) w (t := 22) (e := 5) (a := some x) (n := n) (c := cap) (n' := 0) (c' := 0) Try.underlying22
    simpa using this
  have hmk := run_make_row' (P := Try.prog) 22 5 (.int .u8 0) 1 Try.underlying22 (by kernel_rfl) rfl .i64 .i64 n (by omega) (by omega)
  obtain ⟨w2, hcp, hb2, hrow⟩ := copy_made (P := Try.prog) 22 5 (.int .u8 0) Try.underlying22 (by kernel_rfl) w x n cap ((zs.take n).map (Value.int .u8)) (by simp; omega)
    (fun v hv => by obtain ⟨x, _, rfl⟩ := List.mem_map.1 hv; rfl)
    (fun j v hv => by
      have hj : j < n := by have := (List.getElem?_eq_some_iff.1 hv).1; simp at this; omega
      rw [hcell j (by omega)]
      simpa [List.getElem?_take, hj, List.getElem?_eq_getElem (show j < zs.length by omega)] using hv)
  obtain ⟨hg2, ht2⟩ := text_of_row (by omega) hrow
  clear hrow hcell
  have b1 : decide ((1048576 : Int) < (n : Int)) = false := by simp; omega
  have b2 : decide ((pos : Int) < 0) = false := by simp
  have b3 : decide (n < pos) = false := by simp; omega
  go_enter Try.func3, Try.ntmps3
  go_wp2_with fail
  go_at_call 4; refine (bytes4 _ _ _ _ _ _ hm).mono ?_; rintro e w ⟨rfl, rfl⟩
  go_wp2_with fail
  go_at_call 5; refine (skip5 _ n n pos zs _ hn hp ht2).mono ?_; rintro e w3 ⟨q, hq, rfl, hb3⟩
  have l1 := hq.lo
  have l2 := hq.hi
  have b4 : decide (q < pos) = false := by simp; omega
  have b5 : decide (n < q) = false := by simp; omega
  have ht3 := ht2.below hb3
  have hz3 := hb3.size
  go_wp2_with fail
  go_loopg [9] (q - pos) (fun m i wr => ∃ k : Nat, pos ≤ k ∧ k ≤ q ∧ m = q - k ∧ i = .int .i64 k ∧ wr = w3)
  case atStart => exact ⟨pos, Nat.le_refl _, l1, rfl, rfl, rfl⟩
  case round =>
    obtain ⟨k, hk1, hk2, hm', rfl, rfl⟩ := hrel
    have HM : Aside (gk = q - k) := hm'
    clear hm'
    by_cases hlt : k < q
    · have hc := ht3.at k (by omega)
      have hs : sp (zs[k]?.getD 0) = true := by rw [← List.getD_eq_getElem?_getD]; exact hq.all k hk1 hlt
      go_wp2_with (go_at_call 6; refine (space6 _ _).mono ?_; rintro e w3 ⟨rfl, rfl⟩)
      go_roundg (q - (k + 1))
      case measure => rw [HM.out]; omega
      case rel => exact ⟨k + 1, by omega, by omega, rfl, by go_num, rfl⟩
    · obtain rfl : k = q := by omega
      by_cases hqn : k < n
      · have hc := ht3.at k hqn
        have hs : sp (zs[k]?.getD 0) = false := by rw [← List.getD_eq_getElem?_getD]; exact hq.stop hqn
        go_wp2_with (go_at_call 6; refine (space6 _ _).mono ?_; rintro e w3 ⟨rfl, rfl⟩)
        go_at_call 5; refine (skip5 _ n n k zs _ hn l2 (ht3.mono hz3 (Nat.le_refl _))).mono ?_; rintro e w4 ⟨q', hq', rfl, hb4⟩
        obtain rfl : q' = k := hq.again hq'
        have ht4 := (ht3.mono hz3 (Nat.le_refl n)).below hb4
        have hB4 : Below w.heap.size w w4 := (hb2.trans (hb3.mono (by omega))).trans (hb4.mono (by omega))
        have hz4 := hb4.size
        by_cases d1 : a2 < pos
        · go_wp2
          go_ret
          exact ⟨rfl, hB4⟩
        by_cases d2 : (n : Int) < a2
        · go_wp2
          go_ret
          exact ⟨rfl, hB4⟩
        obtain ⟨cut, rfl⟩ : ∃ c : Nat, a2 = (c : Int) := ⟨a2.toNat, by omega⟩
        go_wp2_with fail
        go_at_call 5; refine (skip5 _ cut n pos zs _ (by omega) (by omega) (ht4.mono hz4 (by omega))).mono ?_; rintro e w5 ⟨q1, hq1, rfl, hb5⟩
        have ht5 := (ht4.mono hz4 (Nat.le_refl n)).below hb5
        have hB5 : Below w.heap.size w w5 := hB4.trans (hb5.mono (by omega))
        have hz5 := hb5.size
        by_cases e1 : q1 < cut
        · obtain rfl : q' = q1 := hq.cut_lt (by omega) hq1 e1
          go_wp2
          go_ret
          exact ⟨rfl, hB5⟩
        · go_wp2_with fail
          go_at_call 5; refine (skip5 _ n n cut zs _ hn (by omega) (ht5.mono hz5 (Nat.le_refl _))).mono ?_; rintro e w6 ⟨q2, hq2, rfl, hb6⟩
          obtain rfl : q' = q2 := hq.cut_ge hq1 e1 hq2
          go_wp2
          go_ret
          exact ⟨rfl, hB5.trans (hb6.mono (by omega))⟩
      · go_wp2_with fail
        go_at_call 5; refine (skip5 _ n n k zs _ hn l2 (ht3.mono hz3 (Nat.le_refl _))).mono ?_; rintro e w4 ⟨q', hq', rfl, hb4⟩
        obtain rfl : q' = k := hq.again hq'
        have ht4 := (ht3.mono hz3 (Nat.le_refl n)).below hb4
        have hB4 : Below w.heap.size w w4 := (hb2.trans (hb3.mono (by omega))).trans (hb4.mono (by omega))
        have hz4 := hb4.size
        by_cases d1 : a2 < pos
        · go_wp2
          go_ret
          exact ⟨rfl, hB4⟩
        by_cases d2 : (n : Int) < a2
        · go_wp2
          go_ret
          exact ⟨rfl, hB4⟩
        obtain ⟨cut, rfl⟩ : ∃ c : Nat, a2 = (c : Int) := ⟨a2.toNat, by omega⟩
        go_wp2_with fail
        go_at_call 5; refine (skip5 _ cut n pos zs _ (by omega) (by omega) (ht4.mono hz4 (by omega))).mono ?_; rintro e w5 ⟨q1, hq1, rfl, hb5⟩
        have ht5 := (ht4.mono hz4 (Nat.le_refl n)).below hb5
        have hB5 : Below w.heap.size w w5 := hB4.trans (hb5.mono (by omega))
        have hz5 := hb5.size
        by_cases e1 : q1 < cut
        · obtain rfl : q' = q1 := hq.cut_lt (by omega) hq1 e1
          go_wp2
          go_ret
          exact ⟨rfl, hB5⟩
        · go_wp2_with fail
          go_at_call 5; refine (skip5 _ n n cut zs _ hn (by omega) (ht5.mono hz5 (Nat.le_refl _))).mono ?_; rintro e w6 ⟨q2, hq2, rfl, hb6⟩
          obtain rfl : q' = q2 := hq.cut_ge hq1 e1 hq2
          go_wp2
          go_ret
          exact ⟨rfl, hB5.trans (hb6.mono (by omega))⟩

set_option maxHeartbeats 2000000 in
theorem law_nil (a2 : Int) (w : World) :
    Calls Try.prog 3 #[.slice none 0 0, .int .i64 0, .int .i64 a2] w fun e w' => e = .returned (.bool true) ∧ Below w.heap.size w w' := by
  have hnn : ∀ w, (binOp .neq 22 (.slice none 0 0) (.slice none 0 0)).run Try.prog w = .ok (.bool false) w := fun w => by
    have := run_neq_slice_nil_any (P := Try.prog) w (t := 22) (e := 5) (a := none) (n := 0) (c := 0) (n' := 0) (c' := 0) Try.underlying22
    simpa using this
  have ht : ∀ v : World, Text v v.heap.size none 0 [] := fun v i hi => absurd hi (Nat.not_lt_zero _)
  go_enter Try.func3, Try.ntmps3
  go_wp2_with fail
  go_at_call 4; refine (bytes4 none 0 0 0 a2 _ (Nat.zero_le _)).mono ?_; rintro e w ⟨rfl, rfl⟩
  go_wp2_with fail
  go_at_call 5; refine (skip5 none 0 0 0 [] _ (Nat.zero_le _) (Nat.le_refl _) (ht _)).mono ?_; rintro e w3 ⟨q, hq, rfl, hb3⟩
  obtain rfl := skip_zero hq
  go_wp2_with fail
  go_loopg [9] 0 (fun m i wr => i = .int .i64 0 ∧ wr = w3)
  case atStart => exact ⟨rfl, rfl⟩
  case round =>
    obtain ⟨rfl, rfl⟩ := hrel
    go_wp2_with fail
    go_at_call 5; refine (skip5 none 0 0 0 [] _ (Nat.zero_le _) (Nat.le_refl _) (ht _)).mono ?_; rintro e w4 ⟨q, hq', rfl, hb4⟩
    obtain rfl := skip_zero hq'
    have hB4 : Below w.heap.size w w4 := hb3.trans (hb4.mono hb3.size)
    by_cases d1 : a2 < 0
    · go_wp2
      go_ret
      exact ⟨rfl, hB4⟩
    by_cases d2 : 0 < a2
    · go_wp2
      go_ret
      exact ⟨rfl, hB4⟩
    obtain rfl : a2 = 0 := by omega
    go_wp2_with fail
    go_at_call 5; refine (skip5 none 0 0 0 [] _ (Nat.zero_le _) (Nat.le_refl _) (ht _)).mono ?_; rintro e w5 ⟨q, hq1, rfl, hb5⟩
    obtain rfl := skip_zero hq1
    go_wp2_with fail
    go_at_call 5; refine (skip5 none 0 0 0 [] _ (Nat.zero_le _) (Nat.le_refl _) (ht _)).mono ?_; rintro e w6 ⟨q, hq2, rfl, hb6⟩
    obtain rfl := skip_zero hq2
    go_wp2
    go_ret
    exact ⟨rfl, (hB4.trans (hb5.mono hB4.size)).trans (hb6.mono (Nat.le_trans hB4.size hb5.size))⟩
end Go.Proofs.Qxb6623456a
