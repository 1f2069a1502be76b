/-
  plan.lead (13), ZZLead (9).
-/
import Derived.Test.Qxb6623500aFrame
namespace Go.Proofs.Qxb6623500a
open Go.ChangeShapes Go.WideShapes Go.ChangeAt Go.RowKit
set_option linter.unusedVariables false      -- a walk need not use every bound

/-- place fk holds the greatest of the first n numbers, and none before it does -/
structure IsLead (cf : Nat → Int) (n fk : Nat) : Prop where
  lt : fk < n
  le : ∀ j, j < n → cf j ≤ cf fk
  first : ∀ j, j < fk → cf j < cf fk
theorem IsLead.one (cf : Nat → Int) : IsLead cf 1 0 :=
  ⟨by omega, fun j h => by
    have e : j = 0 := by omega
    rw [e]; exact Int.le_refl _, fun j h => by omega⟩
theorem IsLead.keep {cf : Nat → Int} {n fk : Nat} (h : IsLead cf n fk) (hn : ¬ cf fk < cf n) : IsLead cf (n + 1) fk :=
  ⟨by have := h.lt; omega, fun j hj => by by_cases c : j < n; · exact h.le j c
                                          · obtain rfl : j = n := by omega
                                            omega, h.first⟩
theorem IsLead.turn {cf : Nat → Int} {n fk : Nat} (h : IsLead cf n fk) (hn : cf fk < cf n) : IsLead cf (n + 1) n :=
  ⟨by omega, fun j hj => by by_cases c : j < n; · have := h.le j c; omega
                            · obtain rfl : j = n := by omega
                              omega, fun j hj => by have := h.le j hj; omega⟩
theorem IsLead.uniq {cf : Nat → Int} {n a b : Nat} (h : IsLead cf n a) (k : IsLead cf n b) : a = b := by
  rcases Nat.lt_trichotomy a b with c | c | c
  · have := k.first a c; have := h.le b k.lt; omega
  · exact c
  · have := h.first b c; have := k.le a h.lt; omega

/-- the bytes of 'merged' -/
def merged : ByteArray := ⟨#[109, 101, 114, 103, 101, 100]⟩

/-- behind the first k members: each of them that is not the lead's item has been merged into it -/
def mer (PS : Nat → PI) (Mf : Nat → Nat) (f : Nat) (k : Nat) (i : Nat) : PI :=
  if i ≠ f ∧ ∃ j, j < k ∧ Mf j = i then { PS i with disp := merged, reason := merged, mi := (PS f).id } else PS i


/-- a frame of n slots that holds the named values -/
def Holds (a : Act) (n : Nat) (vs : List (Nat × Value)) : Prop := a.defers = [] ∧ a.tmps.size = n ∧ ∀ p ∈ vs, a.tmps.getD p.1 undef = p.2

set_option maxRecDepth 100000 in
set_option maxHeartbeats 4000000 in
theorem leadA (C Y : Code) (hC : Try.f13.body = some C) (Q : Ending → World → Prop) (P Mb n nm : Nat) (v2 v3 : Value) (PS : Nat → PI) (Mf : Nat → Nat) (g : Nat → Value) (w : World)
    (hn : n ≤ 1048576) (hm0 : 0 < nm) (hm : nm ≤ 1048576) (hP : Pits w P n PS)
    (hM : ∀ k, k < nm → w.cell? ⟨Mb, k, none⟩ = some (.int .i64 (Mf k))) (hMn : ∀ k, k < nm → Mf k < n)
    (hY : ∀ a fk q, IsLead (fun k => (PS (Mf k)).conf) nm fk → Holds a 83 [(0, .slice (some ⟨P, 0, none⟩) n n), (1, .slice (some ⟨Mb, 0, none⟩) nm nm), (2, v2), (3, v3), (8, .int .i64 (Mf fk))] →
      Code.wp Try.prog Y (bodyPost Try.prog Try.f13 Q) a (w.drewN q)) :
    Code.wp Try.prog (cutSeq 2 C Y) (bodyPost Try.prog Try.f13 Q) ⟨(.slice (some ⟨P, 0, none⟩) n n :: .slice (some ⟨Mb, 0, none⟩) nm nm :: v2 :: v3 :: g 4 :: g 5 :: g 6 :: g 7 :: g 8 :: g 9 :: g 10 :: g 11 :: g 12 :: g 13 :: g 14 :: g 15 :: g 16 :: g 17 :: g 18 :: g 19 :: g 20 :: g 21 :: g 22 :: g 23 :: g 24 :: g 25 :: g 26 :: g 27 :: g 28 :: g 29 :: g 30 :: g 31 :: g 32 :: g 33 :: g 34 :: g 35 :: g 36 :: g 37 :: g 38 :: g 39 :: g 40 :: g 41 :: g 42 :: g 43 :: g 44 :: g 45 :: g 46 :: g 47 :: g 48 :: g 49 :: g 50 :: g 51 :: g 52 :: g 53 :: g 54 :: g 55 :: g 56 :: g 57 :: g 58 :: g 59 :: g 60 :: g 61 :: g 62 :: g 63 :: g 64 :: g 65 :: g 66 :: g 67 :: g 68 :: g 69 :: g 70 :: g 71 :: g 72 :: g 73 :: g 74 :: g 75 :: g 76 :: g 77 :: g 78 :: g 79 :: g 80 :: g 81 :: g 82 :: []).toArray, []⟩ w := by
  obtain rfl := Option.some.inj (show some _ = some C from hC)
  clear hC
  simp only [cutSeq]
  have q0 := hM 0 hm0
  by_cases h1 : nm = 1
  · subst h1
    go_wp2_with fail
    go_loopg [8, 20] 0 (fun m f i wr => f = .int .i64 (Mf 0) ∧ i = .int .i64 0 ∧ wr = w)
    case atStart => exact ⟨rfl, rfl, rfl⟩
    case round =>
      obtain ⟨rfl, rfl, rfl⟩ := hrel
      go_wp2_with fail
      exact hY _ 0 0 (IsLead.one _) ⟨rfl, rfl, by simp⟩
  · obtain ⟨n1, rfl⟩ : ∃ n1, nm = n1 + 1 := ⟨nm - 1, by omega⟩
    have hn1 : 0 < n1 := by omega
    go_wp2_with fail
    go_loopg [8, 20] n1 (fun m f i wr => ∃ k fk q : Nat, k ≤ n1 ∧ m = n1 - k ∧ IsLead (fun k => (PS (Mf k)).conf) (k + 1) fk ∧ f = .int .i64 (Mf fk) ∧ i = .int .i64 k ∧ wr = w.drewN q)
    case atStart => exact ⟨0, 0, 0, Nat.zero_le _, rfl, IsLead.one _, rfl, rfl, rfl⟩
    case round =>
      obtain ⟨k, fk, q, hk, hmm, hl, rfl, rfl, rfl⟩ := hrel
      have A : Aside (gk = n1 - k ∧ IsLead (fun k => (PS (Mf k)).conf) (k + 1) fk) := ⟨hmm, hl⟩
      have hfk := hl.lt
      clear hmm hl
      by_cases hlt : k < n1
      · have c1 : w.cell? ⟨Mb, 1 + k, none⟩ = some (.int .i64 (Mf (k + 1))) := by rw [Nat.add_comm 1 k]; exact hM (k + 1) (by omega)
        have m1 := hMn (k + 1) (by omega)
        have m2 := hMn fk (by omega)
        have i1 : (0 : Int) ≤ (Mf (k + 1) : Int) := by omega
        have i2 : (Mf (k + 1) : Int) < (n : Int) := by omega
        have i3 : (0 : Int) ≤ (Mf fk : Int) := by omega
        have i4 : (Mf fk : Int) < (n : Int) := by omega
        have c2 : w.cell? ⟨P, Mf (k + 1) * 27 + 24, none⟩ = some (.int .i64 (PS (Mf (k + 1))).conf) := hP.at _ 24 m1 (by omega)
        have c3 : w.cell? ⟨P, Mf fk * 27 + 24, none⟩ = some (.int .i64 (PS (Mf fk)).conf) := hP.at _ 24 m2 (by omega)
        by_cases hc : (PS (Mf fk)).conf < (PS (Mf (k + 1))).conf
        · go_wp2_with fail
          go_quiet (fail)
          go_wp2_with fail
          go_roundg (n1 - (k + 1))
          case measure => rw [A.out.1]; omega
          case rel => exact ⟨k + 1, k + 1, _, by omega, rfl, A.out.2.turn hc, rfl, by go_num, rfl⟩
        · go_wp2_with fail
          go_quiet (fail)
          go_wp2_with fail
          go_roundg (n1 - (k + 1))
          case measure => rw [A.out.1]; omega
          case rel => exact ⟨k + 1, fk, _, by omega, rfl, A.out.2.keep (Int.not_lt.2 hc), rfl, by go_num, rfl⟩
      · obtain rfl : k = n1 := by omega
        go_wp2_with fail
        exact hY _ fk q A.out.2 ⟨rfl, rfl, by simp⟩

theorem mer_f (PS : Nat → PI) (Mf : Nat → Nat) (f k : Nat) : mer PS Mf f k f = PS f := by simp [mer]
theorem mer_zero (PS : Nat → PI) (Mf : Nat → Nat) (f i : Nat) : mer PS Mf f 0 i = PS i := by simp [mer]
/-- the lead itself comes up: nothing turns -/
theorem mer_same {PS : Nat → PI} {Mf : Nat → Nat} {f k : Nat} (h : Mf k = f) (i : Nat) : mer PS Mf f k i = mer PS Mf f (k + 1) i := by
  unfold mer
  by_cases e : i = f
  · simp [e]
  · have : (∃ j, j < k ∧ Mf j = i) ↔ ∃ j, j < k + 1 ∧ Mf j = i := by
      constructor
      · rintro ⟨j, hj, rfl⟩; exact ⟨j, by omega, rfl⟩
      · rintro ⟨j, hj, rfl⟩
        by_cases c : j = k
        · subst c; exact absurd h e
        · exact ⟨j, by omega, rfl⟩
    simp only [this]
/-- another member comes up -/
theorem mer_next {PS : Nat → PI} {Mf : Nat → Nat} {f k : Nat} (h : Mf k ≠ f) (i : Nat) :
    (if i = Mf k then { mer PS Mf f k (Mf k) with disp := merged, reason := merged, mi := (PS f).id } else mer PS Mf f k i) = mer PS Mf f (k + 1) i := by
  by_cases e : i = Mf k
  · subst e
    rw [if_pos rfl]
    have h1 : mer PS Mf f (k + 1) (Mf k) = { PS (Mf k) with disp := merged, reason := merged, mi := (PS f).id } := by
      unfold mer
      rw [if_pos ⟨h, k, by omega, rfl⟩]
    rw [h1]
    unfold mer
    split <;> rfl
  · rw [if_neg e]
    unfold mer
    have : (∃ j, j < k ∧ Mf j = i) ↔ ∃ j, j < k + 1 ∧ Mf j = i := by
      constructor
      · rintro ⟨j, hj, rfl⟩; exact ⟨j, by omega, rfl⟩
      · rintro ⟨j, hj, rfl⟩
        by_cases c : j = k
        · subst c; exact absurd rfl e
        · exact ⟨j, by omega, rfl⟩
    simp only [this]
/-- the three stores at item m -/
theorem pits_three {w : World} {P n : Nat} {PS : Nat → PI} (h : Pits w P n PS) (m : Nat) (d r i : ByteArray) :
    Pits (((w.setCell ⟨P, m * 27 + 22, none⟩ (.string d)).setCell ⟨P, m * 27 + 23, none⟩ (.string r)).setCell ⟨P, m * 27 + 25, none⟩ (.string i)) P n
      (fun j => if j = m then { PS m with disp := d, reason := r, mi := i } else PS j) := by
  have h1 := h.set m 22 (by omega) (.string d) { PS m with disp := d } rfl
  have h2 := h1.set m 23 (by omega) (.string r) { PS m with disp := d, reason := r } (by simp only [if_true]; rfl)
  have h3 := h2.set m 25 (by omega) (.string i) { PS m with disp := d, reason := r, mi := i } (by simp only [if_true]; rfl)
  refine h3.congr (fun j _ => ?_)
  by_cases e : j = m <;> simp [e]

/-- the append's frame: the block of the sources is new -/
theorem only_new {P : Nat} {w wr w1 : World} {o : Obj} (h : Only P w wr) (h1 : Only w.heap.size (wr.alloc o) w1) : Only P w w1 :=
  have ha := h.alloc o
  ⟨h1.os.trans ha.os, h1.tape.trans ha.tape, h1.output.trans ha.output, Nat.le_trans ha.size h1.size, fun k hk hp => (h1.block k (Nat.lt_of_lt_of_le hk ha.size) (by omega)).trans (ha.block k hk hp)⟩
theorem row_of1 {w : World} {g : Nat} {t : TypeId} {n : Nat} {F : Nat → Value} (h : w.rowIs g t (n * 1) F) : w.rowIs g t n F := by rw [Nat.mul_one] at h; exact h
theorem row_three {w : World} {P g : Nat} {t : TypeId} {n c1 c2 c3 : Nat} {v1 v2 v3 : Value} {F : Nat → Value} (h : w.rowIs g t n F) (hne : g ≠ P) :
    (((w.setCell ⟨P, c1, none⟩ v1).setCell ⟨P, c2, none⟩ v2).setCell ⟨P, c3, none⟩ v3).rowIs g t n F :=
  ((h.setOther (a := ⟨P, c1, none⟩) hne _).setOther (a := ⟨P, c2, none⟩) hne _).setOther (a := ⟨P, c3, none⟩) hne _
theorem src_next {F : Nat → Value} {R : Nat → ByteArray} {If : Nat → Nat} {k : Nat} (h : ∀ j, j < k → F j = .string (R (If j))) :
    ∀ j, j < k + 1 → (fun j => if k * 1 ≤ j ∧ j < k * 1 + [Value.string (R (If k))].length then [Value.string (R (If k))].getD (j - k * 1) undef else F j) j = .string (R (If j)) := by
  intro j hj
  show (if k * 1 ≤ j ∧ j < k * 1 + [Value.string (R (If k))].length then [Value.string (R (If k))].getD (j - k * 1) undef else F j) = _
  rw [Nat.mul_one]
  by_cases e : j = k
  · subst e; simp
  · rw [if_neg (by simp; omega)]; exact h j (by omega)

set_option maxRecDepth 100000 in
set_option maxHeartbeats 4000000 in
theorem leadB (C : Code) (hC : Try.f13.body = some C) (P Mb Ib S n nm ni nr f : Nat) (PS : Nat → PI) (Mf If : Nat → Nat) (R : Nat → ByteArray) (g : Nat → Value) (w : World)
    (hn : n ≤ 1048576) (hm : nm ≤ 1048576) (hni : ni ≤ 1048576) (hnr : nr ≤ 1048576) (hf : f < n)
    (hP : Pits w P n PS) (hMP : Mb ≠ P) (hIP : Ib ≠ P) (hSP : S ≠ P)
    (hM : ∀ k, k < nm → w.cell? ⟨Mb, k, none⟩ = some (.int .i64 (Mf k))) (hMn : ∀ k, k < nm → Mf k < n) (hMi : ∀ k, k < nm → Mf k < ni)
    (hI : ∀ k, k < nm → w.cell? ⟨Ib, Mf k, none⟩ = some (.int .i64 (If k))) (hIr : ∀ k, k < nm → If k < nr)
    (hS : ∀ j, j < nr → w.cell? ⟨S, j * 6, none⟩ = some (.string (R j))) :
    Code.wp Try.prog (seqDrop 2 C) (bodyPost Try.prog Try.f13 fun e w' =>
      e = .returned (.tuple #[]) ∧ ∃ Sb, Only P w w' ∧ w.heap.size ≤ Sb ∧
        (∀ k, k < nm → w'.cell? ⟨Sb, k, none⟩ = some (.string (R (If k)))) ∧
        Pits w' P n (fun i => if i = f then { PS f with sv := .slice (some ⟨Sb, 0, none⟩) nm nm } else mer PS Mf f nm i)) ⟨(.slice (some ⟨P, 0, none⟩) n n :: .slice (some ⟨Mb, 0, none⟩) nm nm :: .slice (some ⟨Ib, 0, none⟩) ni ni :: .slice (some ⟨S, 0, none⟩) nr nr :: g 4 :: g 5 :: g 6 :: g 7 :: .int .i64 (f : Nat) :: g 9 :: g 10 :: g 11 :: g 12 :: g 13 :: g 14 :: g 15 :: g 16 :: g 17 :: g 18 :: g 19 :: g 20 :: g 21 :: g 22 :: g 23 :: g 24 :: g 25 :: g 26 :: g 27 :: g 28 :: g 29 :: g 30 :: g 31 :: g 32 :: g 33 :: g 34 :: g 35 :: g 36 :: g 37 :: g 38 :: g 39 :: g 40 :: g 41 :: g 42 :: g 43 :: g 44 :: g 45 :: g 46 :: g 47 :: g 48 :: g 49 :: g 50 :: g 51 :: g 52 :: g 53 :: g 54 :: g 55 :: g 56 :: g 57 :: g 58 :: g 59 :: g 60 :: g 61 :: g 62 :: g 63 :: g 64 :: g 65 :: g 66 :: g 67 :: g 68 :: g 69 :: g 70 :: g 71 :: g 72 :: g 73 :: g 74 :: g 75 :: g 76 :: g 77 :: g 78 :: g 79 :: g 80 :: g 81 :: g 82 :: []).toArray, []⟩ w := by
  obtain rfl := Option.some.inj (show some _ = some C from hC)
  clear hC
  simp only [seqDrop]
  have hmk : ∀ w, (Instr.makeSlice 24 (.int .i64 0) (.int .i64 (nm : Int))).run Try.prog w = .ok (.slice (some ⟨w.heap.size, 0, none⟩) 0 nm) (w.alloc (.cells (madeCells #[.string ⟨#[]⟩] nm) 9)) := fun w => by
    have := run_make0 (P := Try.prog) 24 9 (.string ⟨#[]⟩) 1 16 Try.underlying24 (by kernel_rfl) nm (by omega) (by omega) w
    rw [Nat.mul_one] at this; exact this
  obtain ⟨i9, hi9⟩ : ∃ i, Hid (Try.prog.info? 9 = some i ∧ i.size = 1) := ⟨_, rfl, rfl⟩
  have hPlt := World.rowIs.lt hP
  go_wp2_with fail
  go_loopg [11, 42] nm (fun m v i wr => ∃ (k : Nat) (F : Nat → Value), k ≤ nm ∧ m = nm - k ∧ v = .slice (some ⟨w.heap.size, 0, none⟩) k nm ∧ i = .int .i64 k ∧ Only P w wr ∧ wr.rowIs w.heap.size 9 nm F ∧ (∀ j, j < k → F j = .string (R (If j))) ∧ Pits wr P n (mer PS Mf f k))
  case atStart =>
    obtain ⟨F, hF⟩ := rowIs_made0 w #[.string ⟨#[]⟩] nm 9
    exact ⟨0, F, Nat.zero_le _, rfl, rfl, rfl, (Only.refl _ _).alloc _, hF, fun j hj => by omega, (hP.only ((Only.refl (P + 1) _).alloc _) (by omega)).congr (fun i _ => (mer_zero PS Mf f i).symm)⟩
  case round =>
    obtain ⟨k, F, hk, hmm, rfl, rfl, ho, hrow, hF, hPr⟩ := hrel
    have A : Aside (gk = nm - k ∧ Only P w wr ∧ wr.rowIs w.heap.size 9 nm F ∧ (∀ j, j < k → F j = .string (R (If j))) ∧ Pits wr P n (mer PS Mf f k)) := ⟨hmm, ho, hrow, hF, hPr⟩
    by_cases hlt : k < nm
    · have c1 := ho.cell (hM k hlt) hMP
      have c2 := ho.cell (hI k hlt) hIP
      have c3 := ho.cell (hS (If k) (hIr k hlt)) hSP
      have m1 := hMn k hlt
      have m2 := hMi k hlt
      have m3 := hIr k hlt
      clear hmm hrow hF hPr ho hM hI hS hMn hMi hIr hP
      by_cases e : Mf k = f
      · have eb : ((Mf k : Int) != (f : Int)) = false := by simp [e]
        have E : Aside (Mf k = f) := e
        clear e
        go_wp2_with (first
          | (at_builtin; refine wpList_append_row rfl (.tmp 46) (.tmp 55) 24 rfl 9 i9 1 Try.underlying24 hi9.out.1 hi9.out.2 w.heap.size k nm rfl 9 F (by rw [Nat.mul_one]; exact A.out.2.2.1.alloc _) ⟨wr.heap.size, 0, none⟩ 1 1 rfl [.string (R (If k))] rfl (cell_one_new _ _ _) (by simp [Value.oneCell']) (by omega) ?_
             intro w1 hrow1 honly1 hsz1
             have hP1 : Pits w1 P n (mer PS Mf f k) := (A.out.2.2.2.2.only ((Only.refl w.heap.size wr).alloc _) (by omega)).only honly1 (by omega)
             have B : Aside (Pits w1 P n (mer PS Mf f k) ∧ w1.rowIs w.heap.size 9 (nm * 1) (fun j => if k * 1 ≤ j ∧ j < k * 1 + [Value.string (R (If k))].length then [Value.string (R (If k))].getD (j - k * 1) undef else F j) ∧ Only P w w1) :=
               ⟨hP1, hrow1, only_new A.out.2.1 honly1⟩
             have p1 : w1.cell? ⟨P, Mf k * 27 + 22, none⟩ = some (.string (mer PS Mf f k (Mf k)).disp) := hP1.at _ 22 m1 (by omega)
             have p2 : w1.cell? ⟨P, Mf k * 27 + 23, none⟩ = some (.string (mer PS Mf f k (Mf k)).reason) := hP1.at _ 23 m1 (by omega)
             have p3 : w1.cell? ⟨P, Mf k * 27 + 25, none⟩ = some (.string (mer PS Mf f k (Mf k)).mi) := hP1.at _ 25 m1 (by omega)
             have p4 : w1.cell? ⟨P, f * 27, none⟩ = some (.string (PS f).id) := by have := hP1.at f 0 hf (by omega); rw [mer_f] at this; exact this
             have z := hP1.frozen
             clear hP1 hrow1 honly1)
          | go_in)
        go_roundg (nm - (k + 1))
        case measure => rw [A.out.1]; omega
        case rel => exact ⟨k + 1, _, by omega, rfl, rfl, by go_num, B.out.2.2, row_of1 B.out.2.1, src_next A.out.2.2.2.1, B.out.1.congr (fun i _ => mer_same E.out i)⟩
      · have eb : ((Mf k : Int) != (f : Int)) = true := by simp; omega
        have x1 : Mf k * 27 + 22 ≠ f * 27 := by omega
        have x2 : Mf k * 27 + 23 ≠ f * 27 := by omega
        go_wp2_with (first
          | (at_builtin; refine wpList_append_row rfl (.tmp 46) (.tmp 55) 24 rfl 9 i9 1 Try.underlying24 hi9.out.1 hi9.out.2 w.heap.size k nm rfl 9 F (by rw [Nat.mul_one]; exact A.out.2.2.1.alloc _) ⟨wr.heap.size, 0, none⟩ 1 1 rfl [.string (R (If k))] rfl (cell_one_new _ _ _) (by simp [Value.oneCell']) (by omega) ?_
             intro w1 hrow1 honly1 hsz1
             have hP1 : Pits w1 P n (mer PS Mf f k) := (A.out.2.2.2.2.only ((Only.refl w.heap.size wr).alloc _) (by omega)).only honly1 (by omega)
             have B : Aside (Pits w1 P n (mer PS Mf f k) ∧ w1.rowIs w.heap.size 9 (nm * 1) (fun j => if k * 1 ≤ j ∧ j < k * 1 + [Value.string (R (If k))].length then [Value.string (R (If k))].getD (j - k * 1) undef else F j) ∧ Only P w w1) :=
               ⟨hP1, hrow1, only_new A.out.2.1 honly1⟩
             have p1 : w1.cell? ⟨P, Mf k * 27 + 22, none⟩ = some (.string (mer PS Mf f k (Mf k)).disp) := hP1.at _ 22 m1 (by omega)
             have p2 : w1.cell? ⟨P, Mf k * 27 + 23, none⟩ = some (.string (mer PS Mf f k (Mf k)).reason) := hP1.at _ 23 m1 (by omega)
             have p3 : w1.cell? ⟨P, Mf k * 27 + 25, none⟩ = some (.string (mer PS Mf f k (Mf k)).mi) := hP1.at _ 25 m1 (by omega)
             have p4 : w1.cell? ⟨P, f * 27, none⟩ = some (.string (PS f).id) := by have := hP1.at f 0 hf (by omega); rw [mer_f] at this; exact this
             have z := hP1.frozen
             clear hP1 hrow1 honly1)
          | go_in)
        go_roundg (nm - (k + 1))
        case measure => rw [A.out.1]; omega
        case rel => exact ⟨k + 1, _, by omega, rfl, rfl, by go_num, ((B.out.2.2.setCell _ _).setCell _ _).setCell _ _, row_three (row_of1 B.out.2.1) (by omega), src_next A.out.2.2.2.1, (pits_three B.out.1 (Mf k) merged merged (PS f).id).congr (fun i _ => mer_next e i)⟩
    · have hP1 := hPr
      have p1 : wr.cell? ⟨P, f * 27 + 26, none⟩ = some (mer PS Mf f k f).sv := hPr.at f 26 hf (by omega)
      have z := hPr.frozen
      clear hmm hrow hF hPr ho hP1
      obtain rfl : k = nm := by omega
      go_wp2_with fail
      go_end0
      refine ⟨rfl, w.heap.size, A.out.2.1.setCell _ _, Nat.le_refl _, fun j hj => ?_, ?_⟩
      · have := (A.out.2.2.1.setOther (a := ⟨P, f * 27 + 26, none⟩) (by simp; omega) (.slice (some ⟨w.heap.size, 0, none⟩) k k)).cell hj
        rw [A.out.2.2.2.1 j hj] at this; exact this
      · refine (A.out.2.2.2.2.set f 26 (by omega) _ { PS f with sv := .slice (some ⟨w.heap.size, 0, none⟩) k k } (by rw [mer_f]; rfl))

/-- a frame, written out by its slots -/
theorem Holds.lit {a : Act} {N : Nat} {vs : List (Nat × Value)} (h : Holds a N vs) : ∃ g : Nat → Value, a = ⟨(lst g N 0).toArray, []⟩ ∧ ∀ p ∈ vs, g p.1 = p.2 := by
  obtain ⟨h1, h2, h3⟩ := h
  refine ⟨fun i => a.tmps.getD i undef, ?_, h3⟩
  have := arr_lit a.tmps N h2
  cases a
  simp only at h1 this
  rw [← this, h1]

theorem bodyPost_imp {P : Program} {fn : Func} {R R' : Ending → World → Prop} (h : ∀ e w, R e w → R' e w) : ∀ e a w, bodyPost P fn R e a w → bodyPost P fn R' e a w := by
  intro e a w hq
  cases e with
  | normal => obtain ⟨h1, v, h2, h3⟩ := hq; exact ⟨h1, v, h2, h _ _ h3⟩
  | ret => obtain ⟨h1, v, h2, h3⟩ := hq; exact ⟨h1, v, h2, h _ _ h3⟩
  | panic ch => obtain ⟨h1, h2⟩ := hq; exact ⟨h1, h _ _ h2⟩
  | outgrown => exact h _ _ hq
  | exit id => exact hq
  | goto l => exact hq

set_option maxRecDepth 100000 in
set_option maxHeartbeats 2000000 in
theorem lead13 (P Mb Ib S n nm ni nr : Nat) (PS : Nat → PI) (Mf If : Nat → Nat) (R : Nat → ByteArray) (w : World)
    (hn : n ≤ 1048576) (hm0 : 0 < nm) (hm : nm ≤ 1048576) (hni : ni ≤ 1048576) (hnr : nr ≤ 1048576)
    (hP : Pits w P n PS) (hMP : Mb ≠ P) (hIP : Ib ≠ P) (hSP : S ≠ P)
    (hM : ∀ k, k < nm → w.cell? ⟨Mb, k, none⟩ = some (.int .i64 (Mf k))) (hMn : ∀ k, k < nm → Mf k < n) (hMi : ∀ k, k < nm → Mf k < ni)
    (hI : ∀ k, k < nm → w.cell? ⟨Ib, Mf k, none⟩ = some (.int .i64 (If k))) (hIr : ∀ k, k < nm → If k < nr)
    (hS : ∀ j, j < nr → w.cell? ⟨S, j * 6, none⟩ = some (.string (R j))) :
    Calls Try.prog 13 #[.slice (some ⟨P, 0, none⟩) n n, .slice (some ⟨Mb, 0, none⟩) nm nm, .slice (some ⟨Ib, 0, none⟩) ni ni, .slice (some ⟨S, 0, none⟩) nr nr] w fun e w' =>
      e = .returned (.tuple #[]) ∧ ∃ fk Sb, IsLead (fun k => (PS (Mf k)).conf) nm fk ∧ Only P w w' ∧ w.heap.size ≤ Sb ∧
        (∀ k, k < nm → w'.cell? ⟨Sb, k, none⟩ = some (.string (R (If k)))) ∧
        Pits w' P n (fun i => if i = Mf fk then { PS (Mf fk) with sv := .slice (some ⟨Sb, 0, none⟩) nm nm } else mer PS Mf (Mf fk) nm i) := by
  refine calls_of_wp Try.func13 (c := Try.f13.body.getD .skip) rfl ?_
  have hC : Try.f13.body = some (Try.f13.body.getD .skip) := rfl
  generalize Try.f13.body.getD .skip = C at hC ⊢
  rw [← cut_drop 2 C]
  simp only [Try.ntmps13, List.size_toArray, List.length_cons, List.length_nil, Nat.reduceAdd, Nat.reduceSub, Array.replicate_succ,
     Array.replicate_zero, List.push_toArray, List.append_toArray, List.nil_append, List.cons_append]
  refine leadA C _ hC _ P Mb n nm _ _ PS Mf (fun _ => undef) w hn hm0 hm hP hM hMn (fun a fk q hl hh => ?_)
  obtain ⟨g, rfl, hg⟩ := hh.lit
  simp only [List.forall_mem_cons] at hg
  obtain ⟨g0, g1, g2, g3, g8, _⟩ := hg
  clear hh
  simp only [lst, Nat.reduceAdd, g0, g1, g2, g3, g8]
  have key := leadB C hC P Mb Ib S n nm ni nr (Mf fk) PS Mf If R g (w.drewN q) hn hm hni hnr (hMn fk hl.lt) hP hMP hIP hSP hM hMn hMi hI hIr hS
  refine Code.wp_mono (bodyPost_imp ?_) key
  rintro e w' ⟨he, Sb, ho, hsz, hstr, hpit⟩
  exact ⟨he, fk, Sb, hl, ((Only.refl P w).drewN q).trans ho, hsz, hstr, hpit⟩

theorem zzlead9 (P Mb Ib S n nm ni nr : Nat) (PS : Nat → PI) (Mf If : Nat → Nat) (R : Nat → ByteArray) (w : World)
    (hn : n ≤ 1048576) (hm0 : 0 < nm) (hm : nm ≤ 1048576) (hni : ni ≤ 1048576) (hnr : nr ≤ 1048576)
    (hP : Pits w P n PS) (hMP : Mb ≠ P) (hIP : Ib ≠ P) (hSP : S ≠ P)
    (hM : ∀ k, k < nm → w.cell? ⟨Mb, k, none⟩ = some (.int .i64 (Mf k))) (hMn : ∀ k, k < nm → Mf k < n) (hMi : ∀ k, k < nm → Mf k < ni)
    (hI : ∀ k, k < nm → w.cell? ⟨Ib, Mf k, none⟩ = some (.int .i64 (If k))) (hIr : ∀ k, k < nm → If k < nr)
    (hS : ∀ j, j < nr → w.cell? ⟨S, j * 6, none⟩ = some (.string (R j))) :
    Calls Try.prog 9 #[.slice (some ⟨P, 0, none⟩) n n, .slice (some ⟨Mb, 0, none⟩) nm nm, .slice (some ⟨Ib, 0, none⟩) ni ni, .slice (some ⟨S, 0, none⟩) nr nr] w fun e w' =>
      e = .returned (.tuple #[]) ∧ ∃ fk Sb, IsLead (fun k => (PS (Mf k)).conf) nm fk ∧ Only P w w' ∧ w.heap.size ≤ Sb ∧
        (∀ k, k < nm → w'.cell? ⟨Sb, k, none⟩ = some (.string (R (If k)))) ∧
        Pits w' P n (fun i => if i = Mf fk then { PS (Mf fk) with sv := .slice (some ⟨Sb, 0, none⟩) nm nm } else mer PS Mf (Mf fk) nm i) := by
  go_enter Try.func9, Try.ntmps9
  go_wp2_with fail
  go_at_call 13
  refine (lead13 P Mb Ib S n nm ni nr PS Mf If R w hn hm0 hm hni hnr hP hMP hIP hSP hM hMn hMi hI hIr hS).mono ?_
  rintro e w' ⟨rfl, hrest⟩
  have H := Hid.out (p := True) trivial
  clear hM hI hS hMn hMi hIr
  go_wp2
  go_end0
  exact ⟨rfl, hrest⟩
end Go.Proofs.Qxb6623500a
