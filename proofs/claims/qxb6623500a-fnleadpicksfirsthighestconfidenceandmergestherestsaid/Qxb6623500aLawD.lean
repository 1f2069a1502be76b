/-
  THE LAW: the plan's items are made.
-/
import Derived.Test.Qxb6623500aBs
import Derived.Deep.RegionHeld3
import Derived.Deep.DrawnRows
namespace Go.Proofs.Qxb6623500a
open Go.ChangeShapes Go.WideShapes Go.ChangeAt Go.RowKit
set_option linter.unusedVariables false      -- a walk need not use every bound

/-- the plan's item that is made of item i -/
def pit (Z : Nat → ZI) (ca : Nat → Option Addr) (i : Nat) : PI := ⟨(Z i).id, (Z i).path, (Z i).anchor, (Z i).disp, (Z i).reason, (Z i).conf, (Z i).mi, .slice (ca i) (Z i).sl (Z i).sl⟩

theorem step_append_row {P : Program} {ops : Array Oper} {w : World} {o : Oper} {a : Act} {K : Act → World → Prop} {Q : Exit → Act → World → Prop} {E : Prop} (hgd : o.guard = none) (s x : Operand) (t : TypeId)
    (ho : o.op = .call { callee := .builtin .append, args := #[s, x], argTypes := #[t, t] })
    (e : TypeId) (i : TypeInfo) (size : Nat) (ht : P.underlying t = some (.slice e)) (hi : P.info? e = some i) (hsz : i.size = size)
    (b n cap : Nat) (hs : a.eval s = .slice (some ⟨b, 0, none⟩) n cap) (t' : TypeId) (F : Nat → Value) (hrow : w.rowIs b t' (cap * size) F)
    (ad : Addr) (m c : Nat) (hx : a.eval x = .slice (some ad) m c) (news : List Value) (hl : news.length = m * size) (hnews : ∀ j u, news[j]? = some u → w.cell? (ad.add j) = some u) (h1 : ∀ u ∈ news, u.oneCell' = true) (hroom : n + m ≤ cap)
    (h : ∀ w', w'.rowIs b t' (cap * size) (fun j => if n * size ≤ j ∧ j < n * size + news.length then news.getD (j - n * size) undef else F j) → Only b w w' → w'.heap.size = w.heap.size → K (a.put o.dst (.slice (some ⟨b, 0, none⟩) (n + m) cap)) w') :
    if Region.wanted o (yielded ops a.tmps) = true then Oper.wp P o a w K Q else E := by
  have hw : Region.wanted o (yielded ops a.tmps) = true := by simp [Region.wanted, hgd]
  rw [if_pos hw]
  exact wp_append_row s x t ho e i size ht hi hsz b n cap hs t' F hrow ad m c hx news hl hnews h1 hroom h

section
variable {w w' : World} {n X P : Nat} {v0 v1 v2 v3 v4 v5 v6 v7 : Value}
theorem xs_keep (hb : Below n w w') (hX : X < n)
    (h : w.cell? ⟨X, 0, none⟩ = some v0 ∧ w.cell? ⟨X, 1, none⟩ = some v1 ∧ w.cell? ⟨X, 2, none⟩ = some v2 ∧ w.cell? ⟨X, 3, none⟩ = some v3 ∧ w.cell? ⟨X, 4, none⟩ = some v4 ∧ w.cell? ⟨X, 5, none⟩ = some v5 ∧ w.cell? ⟨X, 6, none⟩ = some v6 ∧ w.cell? ⟨X, 7, none⟩ = some v7) :
    w'.cell? ⟨X, 0, none⟩ = some v0 ∧ w'.cell? ⟨X, 1, none⟩ = some v1 ∧ w'.cell? ⟨X, 2, none⟩ = some v2 ∧ w'.cell? ⟨X, 3, none⟩ = some v3 ∧ w'.cell? ⟨X, 4, none⟩ = some v4 ∧ w'.cell? ⟨X, 5, none⟩ = some v5 ∧ w'.cell? ⟨X, 6, none⟩ = some v6 ∧ w'.cell? ⟨X, 7, none⟩ = some v7 := by
  obtain ⟨h0, h1, h2, h3, h4, h5, h6, h7⟩ := h
  exact ⟨(hb.cell (p := ⟨X, 0, none⟩) hX).trans h0, (hb.cell (p := ⟨X, 1, none⟩) hX).trans h1, (hb.cell (p := ⟨X, 2, none⟩) hX).trans h2, (hb.cell (p := ⟨X, 3, none⟩) hX).trans h3, (hb.cell (p := ⟨X, 4, none⟩) hX).trans h4, (hb.cell (p := ⟨X, 5, none⟩) hX).trans h5, (hb.cell (p := ⟨X, 6, none⟩) hX).trans h6, (hb.cell (p := ⟨X, 7, none⟩) hX).trans h7⟩
theorem xs_keepO (hb : Only P w w') (hX : X ≠ P)
    (h : w.cell? ⟨X, 0, none⟩ = some v0 ∧ w.cell? ⟨X, 1, none⟩ = some v1 ∧ w.cell? ⟨X, 2, none⟩ = some v2 ∧ w.cell? ⟨X, 3, none⟩ = some v3 ∧ w.cell? ⟨X, 4, none⟩ = some v4 ∧ w.cell? ⟨X, 5, none⟩ = some v5 ∧ w.cell? ⟨X, 6, none⟩ = some v6 ∧ w.cell? ⟨X, 7, none⟩ = some v7) :
    w'.cell? ⟨X, 0, none⟩ = some v0 ∧ w'.cell? ⟨X, 1, none⟩ = some v1 ∧ w'.cell? ⟨X, 2, none⟩ = some v2 ∧ w'.cell? ⟨X, 3, none⟩ = some v3 ∧ w'.cell? ⟨X, 4, none⟩ = some v4 ∧ w'.cell? ⟨X, 5, none⟩ = some v5 ∧ w'.cell? ⟨X, 6, none⟩ = some v6 ∧ w'.cell? ⟨X, 7, none⟩ = some v7 := by
  obtain ⟨h0, h1, h2, h3, h4, h5, h6, h7⟩ := h
  exact ⟨hb.cell h0 hX, hb.cell h1 hX, hb.cell h2 hX, hb.cell h3 hX, hb.cell h4 hX, hb.cell h5 hX, hb.cell h6 hX, hb.cell h7 hX⟩
end

theorem new_cell (w : World) (cs : Array Value) (t : TypeId) (j : Nat) (v : Value) (h : cs[j]? = some v) : (w.alloc (.cells cs t)).cell? ⟨w.heap.size, j, none⟩ = some v := by
  simp only [World.cell?, heap_alloc_new]
  simpa using h
theorem strs_up {wr W1 : World} {o : Obj} {B ib oo : Nat} {z : ZI} (hW : wr.alloc o = W1) (hz : ItemAt wr B ib oo z) : Strs W1.drew W1.drew.heap.size z.sa z.sl z.src := by
  subst hW
  intro j hj
  obtain ⟨b, off, e, hlt, hc⟩ := hz.strs j hj
  have hb : b < wr.heap.size := World.block_lt_of_cell? wr _ hc
  exact ⟨b, off, e, by show b < (wr.alloc o).heap.size; simp; omega, (World.cell?_alloc_lt wr o _ hb).trans hc⟩
theorem row_up {wr W1 w2 : World} {o : Obj} {P : Nat} {t : TypeId} {n : Nat} {F : Nat → Value} (hW : wr.alloc o = W1) (h : wr.rowIs P t n F) (hb : Below W1.drew.heap.size W1.drew w2) : w2.rowIs P t n F := by
  subst hW
  have h1 : (wr.alloc o).drew.rowIs P t n F := (h.alloc o).drew
  exact h1.of_block (hb.block P h1.lt)
theorem news_new (w : World) (o : Obj) (cs : List Value) (t : TypeId) : ∀ j u, cs[j]? = some u → ((w.alloc o).alloc (.cells cs.toArray t)).cell? ((⟨w.heap.size + 1, 0, none⟩ : Addr).add j) = some u := by
  intro j u hu
  have h := new_cell (w.alloc o) cs.toArray t j u (by simpa using hu)
  rw [show (w.alloc o).heap.size = w.heap.size + 1 by simp] at h
  rw [show (⟨w.heap.size + 1, 0, none⟩ : Addr).add j = ⟨w.heap.size + 1, j, none⟩ by rw [Addr.add_mid, Nat.zero_add]]
  exact h
theorem cells_one' (p : PI) (h : p.sv.oneCell' = true) : ∀ u ∈ p.cells, u.oneCell' = true := by
  have := cells_one p h
  intro u hu
  exact (Array.all_eq_true_iff_forall_mem.1 this) u (by simpa using hu)
theorem pit_step {w wr W1 w2 w4 : World} {o oa ob : Obj} {n0 k : Nat} {Z : Nat → ZI} {ca : Nat → Option Addr} {F : Nat → Value} {x' : Option Addr}
    (hW : wr.alloc o = W1) (hb : Below w.heap.size w wr) (hP : w.heap.size < wr.heap.size)
    (hF : ∀ i, i < k → ∀ f, f < 27 → F (i * 27 + f) = (pit Z ca i).cells.getD f undef) (hca : ∀ i, i < k → (ca i).isNone = (Z i).sa.isNone ∧ SOff wr w.heap.size (ca i) (Z i).sl (Z i).src)
    (hb2 : Below W1.drew.heap.size W1.drew w2) (hsf : SFrom w2 W1.drew.heap.size x' (Z k).sl (Z k).src) (hnil' : x'.isNone = (Z k).sa.isNone)
    (hrow4 : w4.rowIs w.heap.size 41 (n0 * 27) (fun j => if k * 27 ≤ j ∧ j < k * 27 + (PI.cells ⟨(Z k).id, (Z k).path, (Z k).anchor, (Z k).disp, (Z k).reason, (Z k).conf, (Z k).mi, .slice x' (Z k).sl (Z k).sl⟩).length then (PI.cells ⟨(Z k).id, (Z k).path, (Z k).anchor, (Z k).disp, (Z k).reason, (Z k).conf, (Z k).mi, .slice x' (Z k).sl (Z k).sl⟩).getD (j - k * 27) undef else F j))
    (honly4 : Only w.heap.size ((w2.alloc oa).alloc ob) w4) :
    Below w.heap.size w w4 ∧
    w4.rowIs w.heap.size 41 (n0 * 27) (fun j => if k * 27 ≤ j ∧ j < k * 27 + (PI.cells ⟨(Z k).id, (Z k).path, (Z k).anchor, (Z k).disp, (Z k).reason, (Z k).conf, (Z k).mi, .slice x' (Z k).sl (Z k).sl⟩).length then (PI.cells ⟨(Z k).id, (Z k).path, (Z k).anchor, (Z k).disp, (Z k).reason, (Z k).conf, (Z k).mi, .slice x' (Z k).sl (Z k).sl⟩).getD (j - k * 27) undef else F j) ∧
    (∀ i, i < k + 1 → ∀ f, f < 27 → (fun j => if k * 27 ≤ j ∧ j < k * 27 + (PI.cells ⟨(Z k).id, (Z k).path, (Z k).anchor, (Z k).disp, (Z k).reason, (Z k).conf, (Z k).mi, .slice x' (Z k).sl (Z k).sl⟩).length then (PI.cells ⟨(Z k).id, (Z k).path, (Z k).anchor, (Z k).disp, (Z k).reason, (Z k).conf, (Z k).mi, .slice x' (Z k).sl (Z k).sl⟩).getD (j - k * 27) undef else F j) (i * 27 + f) = (pit Z (fun i => if i = k then x' else ca i) i).cells.getD f undef) ∧
    (∀ i, i < k + 1 → ((fun i => if i = k then x' else ca i) i).isNone = (Z i).sa.isNone ∧ SOff w4 w.heap.size ((fun i => if i = k then x' else ca i) i) (Z i).sl (Z i).src) := by
  subst hW
  have h24 : Only w.heap.size w2 w4 := (((Only.refl w.heap.size w2).alloc oa).alloc ob).trans honly4
  have h12 : Only w.heap.size wr w2 := (((Only.refl w.heap.size wr).alloc o).drewN 1).trans (Only.of_below hb2)
  have hr4 := h12.trans h24
  have hsz : (wr.alloc o).drew.heap.size = wr.heap.size + 1 := by show (wr.alloc o).heap.size = _; simp
  refine ⟨hb.trans (hr4.below _ (Nat.le_refl _) (by omega)), hrow4, ?_, ?_⟩
  · intro i hi f hf
    show (if k * 27 ≤ i * 27 + f ∧ i * 27 + f < k * 27 + (PI.cells ⟨(Z k).id, (Z k).path, (Z k).anchor, (Z k).disp, (Z k).reason, (Z k).conf, (Z k).mi, .slice x' (Z k).sl (Z k).sl⟩).length then (PI.cells ⟨(Z k).id, (Z k).path, (Z k).anchor, (Z k).disp, (Z k).reason, (Z k).conf, (Z k).mi, .slice x' (Z k).sl (Z k).sl⟩).getD (i * 27 + f - k * 27) undef else F (i * 27 + f)) = _
    rw [cells_len]
    by_cases e : i = k
    · subst e
      rw [if_pos (by omega), show i * 27 + f - i * 27 = f by omega]
      simp [pit]
    · rw [if_neg (by omega), hF i (by omega) f hf]
      simp [pit, e]
  · intro i hi
    by_cases e : i = k
    · subst e
      simp only [if_true]
      refine ⟨hnil', fun j hj => ?_⟩
      obtain ⟨b, off, ex, hle, hc⟩ := hsf j hj
      exact ⟨b, off, ex, by omega, h24.cell hc (show b ≠ w.heap.size by omega)⟩
    · simp only [e, if_false]
      have := hca i (by omega)
      exact ⟨this.1, this.2.only hr4⟩
theorem pits_of {w : World} {P n : Nat} {PS : Nat → PI} {F : Nat → Value} (h : w.rowIs P 41 (n * 27) F) (hF : ∀ i, i < n → ∀ f, f < 27 → F (i * 27 + f) = (PS i).cells.getD f undef) : Pits w P n PS :=
  World.rowIs.congr h (fun c hc => by
    have := hF (c / 27) (by omega) (c % 27) (by omega)
    rw [show c / 27 * 27 + c % 27 = c by omega] at this
    exact this)
theorem cells_size (p : PI) : p.cells.toArray.size = 27 := rfl
attribute [local go_sem ↓] wp_bs26 Go.wp_at_zero Go.wp_at_succ
attribute [local go_sem] cells_size cells_len

set_option maxRecDepth 100000 in
set_option maxHeartbeats 8000000 in
theorem chunk4 (C Y : Code) (hC : Try.f3.body = some C) (R : Ending → World → Prop) (ib io n0 c0 : Nat) (v1 v2 v3 : Value) (Z : Nat → ZI) (g : Nat → Value) (w : World)
    (h0 : n0 ≤ 1048576) (hI : Items w w.heap.size (some ⟨ib, io, none⟩) n0 Z) (hs : ∀ i, i < n0 → (Z i).sl ≤ 1048576) (hnil : ∀ i, i < n0 → (Z i).sa = none → (Z i).sl = 0 ∧ (Z i).sc = 0)
    (hY : ∀ a w' ca, Below w.heap.size w w' → Pits w' w.heap.size n0 (pit Z ca) → (∀ i, i < n0 → (ca i).isNone = (Z i).sa.isNone ∧ SOff w' w.heap.size (ca i) (Z i).sl (Z i).src) →
      Holds a 380 [(0, .slice (some ⟨ib, io, none⟩) n0 c0), (1, v1), (2, v2), (3, v3), (13, .slice (some ⟨w.heap.size, 0, none⟩) n0 n0)] → Code.wp Try.prog Y (bodyPost Try.prog Try.f3 R) a w') :
    Code.wp Try.prog (cutSeq 2 (seqDrop 7 C) Y) (bodyPost Try.prog Try.f3 R) ⟨(.slice (some ⟨ib, io, none⟩) n0 c0 :: v1 :: v2 :: v3 :: g 4 :: g 5 :: g 6 :: g 7 :: g 8 :: g 9 :: g 10 :: g 11 :: g 12 :: g 13 :: g 14 :: g 15 :: g 16 :: g 17 :: g 18 :: g 19 :: g 20 :: g 21 :: g 22 :: g 23 :: g 24 :: g 25 :: g 26 :: g 27 :: g 28 :: g 29 :: g 30 :: g 31 :: g 32 :: g 33 :: g 34 :: g 35 :: g 36 :: g 37 :: g 38 :: g 39 :: g 40 :: g 41 :: g 42 :: g 43 :: g 44 :: g 45 :: g 46 :: g 47 :: g 48 :: g 49 :: g 50 :: g 51 :: g 52 :: g 53 :: g 54 :: g 55 :: g 56 :: g 57 :: g 58 :: g 59 :: g 60 :: g 61 :: g 62 :: g 63 :: g 64 :: g 65 :: g 66 :: g 67 :: g 68 :: g 69 :: g 70 :: g 71 :: g 72 :: g 73 :: g 74 :: g 75 :: g 76 :: g 77 :: g 78 :: g 79 :: g 80 :: g 81 :: g 82 :: g 83 :: g 84 :: g 85 :: g 86 :: g 87 :: g 88 :: g 89 :: g 90 :: g 91 :: g 92 :: g 93 :: g 94 :: g 95 :: g 96 :: g 97 :: g 98 :: g 99 :: g 100 :: g 101 :: g 102 :: g 103 :: g 104 :: g 105 :: g 106 :: g 107 :: g 108 :: g 109 :: g 110 :: g 111 :: g 112 :: g 113 :: g 114 :: g 115 :: g 116 :: g 117 :: g 118 :: g 119 :: g 120 :: g 121 :: g 122 :: g 123 :: g 124 :: g 125 :: g 126 :: g 127 :: g 128 :: g 129 :: g 130 :: g 131 :: g 132 :: g 133 :: g 134 :: g 135 :: g 136 :: g 137 :: g 138 :: g 139 :: g 140 :: g 141 :: g 142 :: g 143 :: g 144 :: g 145 :: g 146 :: g 147 :: g 148 :: g 149 :: g 150 :: g 151 :: g 152 :: g 153 :: g 154 :: g 155 :: g 156 :: g 157 :: g 158 :: g 159 :: g 160 :: g 161 :: g 162 :: g 163 :: g 164 :: g 165 :: g 166 :: g 167 :: g 168 :: g 169 :: g 170 :: g 171 :: g 172 :: g 173 :: g 174 :: g 175 :: g 176 :: g 177 :: g 178 :: g 179 :: g 180 :: g 181 :: g 182 :: g 183 :: g 184 :: g 185 :: g 186 :: g 187 :: g 188 :: g 189 :: g 190 :: g 191 :: g 192 :: g 193 :: g 194 :: g 195 :: g 196 :: g 197 :: g 198 :: g 199 :: g 200 :: g 201 :: g 202 :: g 203 :: g 204 :: g 205 :: g 206 :: g 207 :: g 208 :: g 209 :: g 210 :: g 211 :: g 212 :: g 213 :: g 214 :: g 215 :: g 216 :: g 217 :: g 218 :: g 219 :: g 220 :: g 221 :: g 222 :: g 223 :: g 224 :: g 225 :: g 226 :: g 227 :: g 228 :: g 229 :: g 230 :: g 231 :: g 232 :: g 233 :: g 234 :: g 235 :: g 236 :: g 237 :: g 238 :: g 239 :: g 240 :: g 241 :: g 242 :: g 243 :: g 244 :: g 245 :: g 246 :: g 247 :: g 248 :: g 249 :: g 250 :: g 251 :: g 252 :: g 253 :: g 254 :: g 255 :: g 256 :: g 257 :: g 258 :: g 259 :: g 260 :: g 261 :: g 262 :: g 263 :: g 264 :: g 265 :: g 266 :: g 267 :: g 268 :: g 269 :: g 270 :: g 271 :: g 272 :: g 273 :: g 274 :: g 275 :: g 276 :: g 277 :: g 278 :: g 279 :: g 280 :: g 281 :: g 282 :: g 283 :: g 284 :: g 285 :: g 286 :: g 287 :: g 288 :: g 289 :: g 290 :: g 291 :: g 292 :: g 293 :: g 294 :: g 295 :: g 296 :: g 297 :: g 298 :: g 299 :: g 300 :: g 301 :: g 302 :: g 303 :: g 304 :: g 305 :: g 306 :: g 307 :: g 308 :: g 309 :: g 310 :: g 311 :: g 312 :: g 313 :: g 314 :: g 315 :: g 316 :: g 317 :: g 318 :: g 319 :: g 320 :: g 321 :: g 322 :: g 323 :: g 324 :: g 325 :: g 326 :: g 327 :: g 328 :: g 329 :: g 330 :: g 331 :: g 332 :: g 333 :: g 334 :: g 335 :: g 336 :: g 337 :: g 338 :: g 339 :: g 340 :: g 341 :: g 342 :: g 343 :: g 344 :: g 345 :: g 346 :: g 347 :: g 348 :: g 349 :: g 350 :: g 351 :: g 352 :: g 353 :: g 354 :: g 355 :: g 356 :: g 357 :: g 358 :: g 359 :: g 360 :: g 361 :: g 362 :: g 363 :: g 364 :: g 365 :: g 366 :: g 367 :: g 368 :: g 369 :: g 370 :: g 371 :: g 372 :: g 373 :: g 374 :: g 375 :: g 376 :: g 377 :: g 378 :: g 379 :: []).toArray, []⟩ w := by
  obtain rfl := Option.some.inj (show some _ = some C from hC)
  clear hC
  simp only [seqDrop, cutSeq]
  obtain ⟨zc, hmk⟩ : ∃ zc : Array Value, ∀ w, (Instr.makeSlice 26 (.int .i64 0) (.int .i64 (n0 : Int))).run Try.prog w = .ok (.slice (some ⟨w.heap.size, 0, none⟩) 0 n0) (w.alloc (.cells (madeCells zc (n0 * 27)) 41)) := by
    obtain ⟨i, z, hi, hsz, hz, hzs⟩ := info41
    have hb : i.bytes = 384 := by
      have : (Try.prog.info? 41).map (·.bytes) = some 384 := by kernel_rfl
      rw [hi] at this; simpa using this
    exact ⟨z.cells, fun w => run_make0 (P := Try.prog) 26 41 z 27 384 Try.underlying26 (by rw [hi]; simp [hsz, hz, hb]) n0 (by omega) (by omega) w⟩
  go_wp2_with fail
  go_loopg [13, 14] n0 (fun m v i wr => ∃ (k : Nat) (ca : Nat → Option Addr) (F : Nat → Value), k ≤ n0 ∧ m = n0 - k ∧ v = .slice (some ⟨w.heap.size, 0, none⟩) k n0 ∧ i = .int .i64 k ∧ Below w.heap.size w wr ∧
    wr.rowIs w.heap.size 41 (n0 * 27) F ∧ (∀ i, i < k → ∀ f, f < 27 → F (i * 27 + f) = (pit Z ca i).cells.getD f undef) ∧ (∀ i, i < k → (ca i).isNone = (Z i).sa.isNone ∧ SOff wr w.heap.size (ca i) (Z i).sl (Z i).src))
  case atStart =>
    obtain ⟨F, hF⟩ := rowIs_made0 w zc (n0 * 27) 41
    exact ⟨0, fun _ => none, F, Nat.zero_le _, rfl, rfl, rfl, (Below.refl _ _).alloc (Nat.le_refl _) _, hF, fun i hi => by omega, fun i hi => by omega⟩
  case round =>
    obtain ⟨k, ca, F, hk, hmm, rfl, rfl, hb, hrow, hF, hca⟩ := hrel
    have A : Aside (gk = n0 - k ∧ Below w.heap.size w wr ∧ wr.rowIs w.heap.size 41 (n0 * 27) F ∧ (∀ i, i < k → ∀ f, f < 27 → F (i * 27 + f) = (pit Z ca i).cells.getD f undef) ∧ (∀ i, i < k → (ca i).isNone = (Z i).sa.isNone ∧ SOff wr w.heap.size (ca i) (Z i).sl (Z i).src)) := ⟨hmm, hb, hrow, hF, hca⟩
    have hPlt := hrow.lt
    by_cases hlt : k < n0
    · obtain ⟨b, off, e, hz⟩ := (hI.below hb) k hlt
      cases e
      have hz' : Aside (ItemAt wr w.heap.size ib (io + k * 8) (Z k)) := hz
      obtain ⟨blt, e0, e1, e2, e3, e4, e5, e6, e7, hss, hbd⟩ := hz
      have hsl := hs k hlt
      have hnl := hnil k hlt
      clear hmm hrow hF hca hb hss hbd hI hs hnil
      go_wp2_with fail
      generalize hW : wr.alloc (.cells #[.string (Z k).id, .string (Z k).path, .string (Z k).anchor, .string (Z k).disp, .string (Z k).reason, .int .i64 (Z k).conf, .string (Z k).mi, .slice (Z k).sa (Z k).sl (Z k).sc] 28) = W1
      have d0 : W1.cell? ⟨wr.heap.size, 0, none⟩ = some (.string (Z k).id) := by rw [← hW]; exact new_cell _ _ _ _ _ rfl
      have d1 : W1.cell? ⟨wr.heap.size, 1, none⟩ = some (.string (Z k).path) := by rw [← hW]; exact new_cell _ _ _ _ _ rfl
      have d2 : W1.cell? ⟨wr.heap.size, 2, none⟩ = some (.string (Z k).anchor) := by rw [← hW]; exact new_cell _ _ _ _ _ rfl
      have d3 : W1.cell? ⟨wr.heap.size, 3, none⟩ = some (.string (Z k).disp) := by rw [← hW]; exact new_cell _ _ _ _ _ rfl
      have d4 : W1.cell? ⟨wr.heap.size, 4, none⟩ = some (.string (Z k).reason) := by rw [← hW]; exact new_cell _ _ _ _ _ rfl
      have d5 : W1.cell? ⟨wr.heap.size, 5, none⟩ = some (.int .i64 (Z k).conf) := by rw [← hW]; exact new_cell _ _ _ _ _ rfl
      have d6 : W1.cell? ⟨wr.heap.size, 6, none⟩ = some (.string (Z k).mi) := by rw [← hW]; exact new_cell _ _ _ _ _ rfl
      have d7 : W1.cell? ⟨wr.heap.size, 7, none⟩ = some (.slice (Z k).sa (Z k).sl (Z k).sc) := by rw [← hW]; exact new_cell _ _ _ _ _ rfl
      have hW1 : W1.heap.size = wr.heap.size + 1 := by rw [← hW]; simp
      have HW : Aside (wr.alloc (.cells #[.string (Z k).id, .string (Z k).path, .string (Z k).anchor, .string (Z k).disp, .string (Z k).reason, .int .i64 (Z k).conf, .string (Z k).mi, .slice (Z k).sa (Z k).sl (Z k).sc] 28) = W1) := hW
      clear hW e0 e1 e2 e3 e4 e5 e6 e7
      obtain ⟨i41, z41, hi41⟩ : ∃ i z, Aside (Try.prog.info? 41 = some i ∧ i.size = 27 ∧ i.zero = some z ∧ z.cells.size = 27) := info41
      go_region_held3 (fun w' => w'.cell? ⟨wr.heap.size, 0, none⟩ = some (.string (Z k).id) ∧ w'.cell? ⟨wr.heap.size, 1, none⟩ = some (.string (Z k).path) ∧ w'.cell? ⟨wr.heap.size, 2, none⟩ = some (.string (Z k).anchor) ∧ w'.cell? ⟨wr.heap.size, 3, none⟩ = some (.string (Z k).disp) ∧ w'.cell? ⟨wr.heap.size, 4, none⟩ = some (.string (Z k).reason) ∧ w'.cell? ⟨wr.heap.size, 5, none⟩ = some (.int .i64 (Z k).conf) ∧ w'.cell? ⟨wr.heap.size, 6, none⟩ = some (.string (Z k).mi) ∧ w'.cell? ⟨wr.heap.size, 7, none⟩ = some (.slice (Z k).sa (Z k).sl (Z k).sc))
        (first
          | (exact xs_keep hb2 (by simp [hW1]) (by assumption))
          | (exact xs_keep ((Below.refl _ _).alloc (Nat.le_refl _) _) (by simp; omega) (by assumption))
          | (exact xs_keepO honly4 (by omega) (by assumption))
          | go_keep)
        (first
          | (go_at_call 7
             refine (clone7 (Z k).sa (Z k).sl (Z k).sc (Z k).src _ (strs_up HW.out hz'.out) hnl hsl).mono ?_
             rintro e w2 ⟨x', rfl, hnil', hb2, hsf⟩
             have hX2 : wr.heap.size + 1 ≤ w2.heap.size := by have := hb2.size; simp [hW1] at this; omega)
          | (go_at_call 6
             refine (make6 _ _ _ _ _ _ _ _ _ _ _).mono ?_
             rintro e w3 ⟨rfl, rfl⟩)
          | (refine step_append_row rfl (.tmp 111) (.tmp 130) 26 rfl 41 i41 27 Try.underlying26 hi41.out.1 hi41.out.2.1 w.heap.size k n0 rfl 41 F (((row_up HW.out A.out.2.2.1 hb2).alloc _).alloc _) ⟨w2.heap.size + 1, 0, none⟩ 1 1 rfl (PI.cells ⟨(Z k).id, (Z k).path, (Z k).anchor, (Z k).disp, (Z k).reason, (Z k).conf, (Z k).mi, .slice x' (Z k).sl (Z k).sl⟩) rfl (news_new _ _ _ _) (cells_one' _ rfl) (by omega) ?_
             intro w4 hrow4 honly4 hsz4))
      have hst := pit_step HW.out A.out.2.1 hPlt A.out.2.2.2.1 A.out.2.2.2.2 hb2 hsf hnil' hrow4 honly4
      have B : Aside _ := hst
      clear hst hrow4 honly4 hsz4 hsf hb2 hX2
      go_wp2_with fail
      go_roundg (n0 - (k + 1))
      case measure => rw [A.out.1]; omega
      case rel => exact ⟨k + 1, _, _, by omega, rfl, rfl, by go_num, B.out⟩
    · obtain rfl : k = n0 := by omega
      clear hmm hrow hF hca hb
      go_wp2_with fail
      exact hY _ _ ca A.out.2.1 (pits_of A.out.2.2.1 A.out.2.2.2.1) A.out.2.2.2.2 ⟨rfl, rfl, by simp⟩
end Go.Proofs.Qxb6623500a
