/-
  FRAMES AND ROWS: a frame that lets one block go; append with room on a row that is known by its index; the plan's items as one row.
-/
import Derived.Test.Qxb6623500aSmall
import Derived.ArgAppend
namespace Go.Proofs.Qxb6623500a
open Go.ChangeShapes Go.WideShapes Go.ChangeAt Go.RowKit

/-- every block that was there, but P, is as it was -/
structure Only (P : Nat) (w w' : World) : Prop where
  os : w'.os = w.os
  tape : w'.tape = w.tape
  output : w'.output = w.output
  size : w.heap.size ≤ w'.heap.size
  block : ∀ k, k < w.heap.size → k ≠ P → w'.heap[k]? = w.heap[k]?

section
variable {P : Nat} {a b c w w' : World}
theorem Only.refl (P : Nat) (w : World) : Only P w w := ⟨rfl, rfl, rfl, Nat.le_refl _, fun _ _ _ => rfl⟩
theorem Only.trans (h : Only P a b) (k : Only P b c) : Only P a c :=
  ⟨k.os.trans h.os, k.tape.trans h.tape, k.output.trans h.output, Nat.le_trans h.size k.size, fun i hi hp => (k.block i (Nat.lt_of_lt_of_le hi h.size) hp).trans (h.block i hi hp)⟩
theorem Only.drewN (h : Only P a b) (q : Nat) : Only P a (b.drewN q) := ⟨h.os, h.tape, h.output, h.size, h.block⟩
theorem Only.of_below (h : Below a.heap.size a b) : Only P a b := ⟨h.os, h.tape, h.output, h.size, fun i hi _ => h.block i hi⟩
theorem Only.alloc (h : Only P a b) (o : Obj) : Only P a (b.alloc o) := h.trans (Only.of_below ((Below.refl _ _).alloc (Nat.le_refl _) o))
theorem Only.setCell (h : Only P a b) (o : Nat) (v : Value) : Only P a (b.setCell ⟨P, o, none⟩ v) :=
  h.trans ⟨rfl, rfl, rfl, by simp [World.setCell], fun k _ hp => Below.heap_setCell _ _ _ _ hp⟩
/-- a store into a block that came later -/
theorem Only.setNew (h : Only P a b) {g : Nat} (hg : a.heap.size ≤ g) (o : Nat) (v : Value) : Only P a (b.setCell ⟨g, o, none⟩ v) :=
  ⟨h.os, h.tape, h.output, by simpa [World.setCell] using h.size, fun k hk hp => (Below.heap_setCell _ _ _ _ (show k ≠ g by omega)).trans (h.block k hk hp)⟩
theorem Only.setCells (h : Only P a b) (vs : List Value) : ∀ o, Only P a (b.setCells P o vs) := by
  induction vs generalizing b with
  | nil => intro o; exact h
  | cons v vs ih => intro o; exact ih (h.setCell o v) (o + 1)
theorem Only.below (h : Only P w w') (B : Nat) (hB : B ≤ P) (hs : B ≤ w.heap.size) : Below B w w' :=
  ⟨h.os, h.tape, h.output, h.size, fun k hk => h.block k (by omega) (by omega)⟩
/-- what P's frame lets go is not more than nothing, where P is new -/
theorem Only.fresh (h : Only P w w') (hP : w.heap.size ≤ P) : Below w.heap.size w w' := h.below _ hP (Nat.le_refl _)
theorem Only.cell (h : Only P w w') {x : Addr} {v : Value} (hc : w.cell? x = some v) (hp : x.block ≠ P) : w'.cell? x = some v :=
  (World.cell?_of_block (h.block _ (World.block_lt_of_cell? w _ hc) hp)).trans hc
theorem Only.row (h : Only P w w') {g : Nat} {t : TypeId} {n : Nat} {f : Nat → Value} (hr : w.rowIs g t n f) (hp : g ≠ P) : w'.rowIs g t n f := hr.of_block (h.block _ hr.lt hp)
end

/-- strings behind an address, none of them in block P -/
def SOff (w : World) (P : Nat) (x : Option Addr) (n : Nat) (s : Nat → ByteArray) : Prop :=
  ∀ j, j < n → ∃ b off, x = some ⟨b, off, none⟩ ∧ b ≠ P ∧ w.cell? ⟨b, off + j, none⟩ = some (.string (s j))
theorem SOff.only {w w' : World} {P : Nat} {x : Option Addr} {n : Nat} {s : Nat → ByteArray} (h : SOff w P x n s) (ho : Only P w w') : SOff w' P x n s := by
  intro j hj
  obtain ⟨b, off, e, hp, hc⟩ := h j hj
  exact ⟨b, off, e, hp, ho.cell hc hp⟩
theorem SOff.at {w : World} {P : Nat} {x : Option Addr} {n : Nat} {s : Nat → ByteArray} (h : SOff w P x n s) : SAt w x n s := by
  intro j hj
  obtain ⟨b, off, e, hp, hc⟩ := h j hj
  exact ⟨b, off, e, hc⟩
theorem SOff.below {w w' : World} {P : Nat} {x : Option Addr} {n : Nat} {s : Nat → ByteArray} (h : SOff w P x n s) (ho : Below w.heap.size w w') : SOff w' P x n s :=
  h.only (Only.of_below ho)

theorem rowIs_setCells {w : World} {b : Nat} {t : TypeId} {N : Nat} (vs : List Value) : ∀ {f : Nat → Value} (_ : w.rowIs b t N f) (o : Nat),
    (w.setCells b o vs).rowIs b t N (fun j => if o ≤ j ∧ j < o + vs.length then vs.getD (j - o) undef else f j) := by
  induction vs generalizing w with
  | nil => intro f h o; exact h.congr (fun i _ => by simp; omega)
  | cons v vs ih =>
    intro f h o
    refine (ih (h.set o v) (o + 1)).congr (fun j _ => ?_)
    simp only [List.length_cons]
    by_cases e : j = o
    · subst e
      rw [if_neg (by omega), if_pos rfl, if_pos (by omega)]; simp
    · by_cases l : o + 1 ≤ j ∧ j < o + 1 + vs.length
      · rw [if_pos l, if_pos (by omega), show j - o = (j - (o + 1)) + 1 by omega, List.getD_cons_succ]
      · rw [if_neg l, if_neg e, if_neg (by omega)]

theorem setCells_size (b : Nat) (vs : List Value) : ∀ (w : World) (o : Nat), (w.setCells b o vs).heap.size = w.heap.size := by
  induction vs with
  | nil => intro w o; rfl
  | cons v vs ih => intro w o; rw [World.setCells, ih]; simp [World.setCell]

/-- APPEND WITH ROOM on a row of the call's own. -/
theorem run_append_row {P : Program} (w : World) (t ty e : TypeId) (i : TypeInfo) (size : Nat) (ht : P.underlying t = some (.slice e)) (hi : P.info? e = some i) (hsz : i.size = size)
    (b n cap : Nat) (t' : TypeId) (F : Nat → Value) (hrow : w.rowIs b t' (cap * size) F) (ad : Addr) (m c : Nat) (news : List Value) (hl : news.length = m * size)
    (hnews : ∀ j u, news[j]? = some u → w.cell? (ad.add j) = some u) (h1 : ∀ u ∈ news, u.oneCell' = true) (hroom : n + m ≤ cap) :
    (Builtin.append_ #[t, t] ty #[.slice (some ⟨b, 0, none⟩) n cap, .slice (some ad) m c]).run P w = .ok (.slice (some ⟨b, 0, none⟩) (n + m) cap) (w.setCells b (n * size) news) := by
  subst hsz
  have hle : n * i.size + news.length ≤ cap * i.size := by rw [hl, ← Nat.add_mul]; exact Nat.mul_le_mul_right _ hroom
  have := run_append_room_cells (P := P) w t ty e i ht hi b 0 n cap ad m c news hl hnews h1 hroom
    (fun j hj => by rw [Nat.zero_add, hrow.cell (show n * i.size + j < cap * i.size by omega)]; rfl) (fun j hj => by rw [Nat.zero_add]; exact hrow.frozen _)
  rw [this, Nat.zero_add]

theorem wp_append_row {P : Program} {w : World} {o : Oper} {a : Act} {K : Act → World → Prop} {Q : Exit → Act → World → Prop} (s x : Operand) (t : TypeId)
    (ho : o.op = .call { callee := .builtin .append, args := #[s, x], argTypes := #[t, t] })
    (e : TypeId) (i : TypeInfo) (size : Nat) (ht : P.underlying t = some (.slice e)) (hi : P.info? e = some i) (hsz : i.size = size)
    (b n cap : Nat) (hs : a.eval s = .slice (some ⟨b, 0, none⟩) n cap) (t' : TypeId) (F : Nat → Value) (hrow : w.rowIs b t' (cap * size) F)
    (ad : Addr) (m c : Nat) (hx : a.eval x = .slice (some ad) m c) (news : List Value) (hl : news.length = m * size) (hnews : ∀ j u, news[j]? = some u → w.cell? (ad.add j) = some u) (h1 : ∀ u ∈ news, u.oneCell' = true) (hroom : n + m ≤ cap)
    (h : ∀ w', w'.rowIs b t' (cap * size) (fun j => if n * size ≤ j ∧ j < n * size + news.length then news.getD (j - n * size) undef else F j) → Only b w w' → w'.heap.size = w.heap.size → K (a.put o.dst (.slice (some ⟨b, 0, none⟩) (n + m) cap)) w') : o.wp P a w K Q := by
  have hr := run_append_row (P := P) w t o.type e i size ht hi hsz b n cap t' F hrow ad m c news hl hnews h1 hroom
  unfold Oper.wp execOp
  simp only [ho, resolve, invoke, builtin, Sem.run_bind, Sem.run_pure, Result.andThen_ok, List.map_toArray, List.map_cons, List.map_nil, hs, hx, hr]
  exact h _ (rowIs_setCells news hrow _) ((Only.refl _ _).setCells _ _) (setCells_size _ _ _ _)

theorem wpList_append_row {P : Program} {w : World} {ops : Array Oper} {rest : List Oper} {o : Oper} {a : Act} {Q : Exit → Act → World → Prop} (hgd : o.guard = none) (s x : Operand) (t : TypeId)
    (ho : o.op = .call { callee := .builtin .append, args := #[s, x], argTypes := #[t, t] })
    (e : TypeId) (i : TypeInfo) (size : Nat) (ht : P.underlying t = some (.slice e)) (hi : P.info? e = some i) (hsz : i.size = size)
    (b n cap : Nat) (hs : a.eval s = .slice (some ⟨b, 0, none⟩) n cap) (t' : TypeId) (F : Nat → Value) (hrow : w.rowIs b t' (cap * size) F)
    (ad : Addr) (m c : Nat) (hx : a.eval x = .slice (some ad) m c) (news : List Value) (hl : news.length = m * size) (hnews : ∀ j u, news[j]? = some u → w.cell? (ad.add j) = some u) (h1 : ∀ u ∈ news, u.oneCell' = true) (hroom : n + m ≤ cap)
    (h : ∀ w', w'.rowIs b t' (cap * size) (fun j => if n * size ≤ j ∧ j < n * size + news.length then news.getD (j - n * size) undef else F j) → Only b w w' → w'.heap.size = w.heap.size → wpList P ops Q rest (a.put o.dst (.slice (some ⟨b, 0, none⟩) (n + m) cap)) w') : wpList P ops Q (o :: rest) a w :=
  wpList_plain hgd fun _ hK => wp_append_row s x t ho e i size ht hi hsz b n cap hs t' F hrow ad m c hx news hl hnews h1 hroom fun w' h2 h3 h4 => hK _ _ (h w' h2 h3 h4)

/-- 'make([]T, 0, c)' -/
theorem run_make0 {P : Program} (t e : TypeId) (z : Value) (size bytes : Nat) (ht : P.underlying t = some (.slice e)) (hinfo : (P.info? e).map (fun i => (i.zero, i.size, i.bytes)) = some (some z, size, bytes))
    (c : Nat) (hb : bytes * c ≤ 281474976710656) (h63 : c ≤ 9223372036854775807) (w : World) :
    (Instr.makeSlice t (.int .i64 0) (.int .i64 (c : Int))).run P w = .ok (.slice (some ⟨w.heap.size, 0, none⟩) 0 c) (w.alloc (.cells (madeCells z.cells (c * size)) e)) := by
  obtain ⟨i, hi, hzz⟩ := Option.map_eq_some_iff.1 hinfo
  simp only [Prod.mk.injEq] at hzz
  obtain ⟨hz, hs, hbb⟩ := hzz
  have hb' : (i.bytes : Int) * (c : Int) ≤ 281474976710656 := by
    rw [hbb]
    have h : ((bytes * c : Nat) : Int) ≤ 281474976710656 := by omega
    rwa [Int.natCast_mul] at h
  have hr := run_make (P := P) w t e i z ht hi hz .i64 .i64 0 c (by omega) (by omega) hb' (by omega)
  simp only [Int.toNat_natCast, hs] at hr
  exact hr
/-- what it lays -/
theorem rowIs_made0 (w : World) (z : Array Value) (n : Nat) (t : TypeId) : ∃ F, (w.alloc (.cells (madeCells z n) t)).rowIs w.heap.size t n F := by
  refine ⟨fun i => (madeCells z n).getD i undef, _, heap_alloc_new _ _, size_madeCells _ _, fun i hi => ?_⟩
  have hs : i < (madeCells z n).size := by rw [size_madeCells]; exact hi
  simp [Array.getD, hs]

/-- THE PLAN's ITEMS: n of them, in block P. -/
def Pits (w : World) (P n : Nat) (PS : Nat → PI) : Prop := w.rowIs P 41 (n * 27) (fun c => (PS (c / 27)).cells.getD (c % 27) undef)
theorem Pits.at {w : World} {P n : Nat} {PS : Nat → PI} (h : Pits w P n PS) (i f : Nat) (hi : i < n) (hf : f < 27) : w.cell? ⟨P, i * 27 + f, none⟩ = some ((PS i).cells.getD f undef) := by
  have := World.rowIs.cell (i := i * 27 + f) h (by omega)
  rw [show (i * 27 + f) / 27 = i by omega, show (i * 27 + f) % 27 = f by omega] at this
  exact this
theorem Pits.frozen {w : World} {P n : Nat} {PS : Nat → PI} (h : Pits w P n PS) (c : Nat) : w.frozen? ⟨P, c, none⟩ = false := World.rowIs.frozen h c
theorem Pits.set {w : World} {P n : Nat} {PS : Nat → PI} (h : Pits w P n PS) (i f : Nat) (hf : f < 27) (v : Value) (p : PI) (hp : p.cells = (PS i).cells.set f v) :
    Pits (w.setCell ⟨P, i * 27 + f, none⟩ v) P n (fun j => if j = i then p else PS j) := by
  refine World.rowIs.congr (World.rowIs.set h (i * 27 + f) v) (fun c hc => ?_)
  show (if c = i * 27 + f then v else (PS (c / 27)).cells.getD (c % 27) undef) = (if c / 27 = i then p else PS (c / 27)).cells.getD (c % 27) undef
  by_cases e : c = i * 27 + f
  · subst e
    rw [if_pos rfl, show (i * 27 + f) / 27 = i by omega, show (i * 27 + f) % 27 = f by omega, if_pos rfl, hp, List.getD_eq_getElem?_getD, List.getElem?_set_self (by rw [cells_len]; exact hf)]
    rfl
  · rw [if_neg e]
    by_cases e1 : c / 27 = i
    · rw [e1, if_pos rfl, hp, List.getD_eq_getElem?_getD, List.getD_eq_getElem?_getD, List.getElem?_set_ne (by omega)]
    · rw [if_neg e1]
theorem Pits.only {w w' : World} {P P' n : Nat} {PS : Nat → PI} (h : Pits w P n PS) (ho : Only P' w w') (hp : P ≠ P') : Pits w' P n PS := ho.row h hp
theorem Pits.congr {w : World} {P n : Nat} {PS PS' : Nat → PI} (h : Pits w P n PS) (e : ∀ i, i < n → PS i = PS' i) : Pits w P n PS' :=
  World.rowIs.congr h (fun c hc => by rw [e (c / 27) (by omega)])
end Go.Proofs.Qxb6623500a
