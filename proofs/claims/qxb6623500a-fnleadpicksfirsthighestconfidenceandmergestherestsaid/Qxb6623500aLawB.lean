/-
  THE LAW: the copies of members and inputs.
-/
import Derived.Test.Qxb6623500aLead
import Derived.Laws.CopyOwn
namespace Go.Proofs.Qxb6623500a
open Go.ChangeShapes Go.WideShapes Go.ChangeAt Go.RowKit
set_option linter.unusedVariables false      -- a walk need not use every bound
/-- 'c := make([]T, len(s)); copy(c, s)', s a slice that is not nil, its elements the cells vs: the new row holds vs; nothing that was there has turned. -/
theorem copy_made {P : Program} (dT E : TypeId) (z : Value) (hu : P.underlying dT = some (.slice E)) (hs : (P.info? E).map (·.size) = some 1) (w : World) (ad : Addr) (n cap : Nat) (vs : List Value) (hlen : vs.length = n)
    (h1 : ∀ v ∈ vs, v.oneCell' = true) (hsrc : ∀ j v, vs[j]? = some v → w.cell? (ad.add j) = some v) :
    ∃ w2, (∀ ty, (Builtin.copy_ #[dT, dT] ty #[.slice (some ⟨w.heap.size, 0, none⟩) n n, .slice (some ad) n cap]).run P (w.alloc (.cells (madeCells #[z] n) E)) = .ok (.int .i64 (n : Int)) w2) ∧
      Below w.heap.size w w2 ∧ w2.heap[w.heap.size]? = some (.cells vs.toArray E (0, 0)) := by
  have hnew : (w.alloc (.cells (madeCells #[z] n) E)).heap[w.heap.size]? = some (.cells (madeCells #[z] n) E (0, 0)) := by
    show (w.heap.push _)[w.heap.size]? = _
    simp
  have hbel : Below w.heap.size w (w.alloc (.cells (madeCells #[z] n) E)) := (Below.refl _ _).alloc (Nat.le_refl _) _
  by_cases h0 : n = 0
  · subst h0
    obtain rfl : vs = [] := List.eq_nil_of_length_eq_zero hlen
    refine ⟨_, fun ty => run_copy_none _ dT dT ty E _ _ _ _ _ _ hu hs rfl, hbel, ?_⟩
    rw [hnew]; simp [madeCells]
  · refine ⟨(w.alloc (.cells (madeCells #[z] n) E)).setRow w.heap.size ((madeCells #[z] n).toList.take 0 ++ vs ++ (madeCells #[z] n).toList.drop (0 + vs.length)).toArray, fun ty => ?_, ?_, ?_⟩
    · have hr := run_copy_row (P := P) (w.alloc (.cells (madeCells #[z] n) E)) dT dT ty E w.heap.size 0 n n ad n cap (madeCells #[z] n) E vs hu hs hnew (by simpa using hlen)
        (fun j v hv => by
          have := hsrc j v hv
          exact (World.cell?_alloc_lt _ _ _ (World.block_lt_of_cell? w _ this)).trans this) (by simp [size_madeCells, hlen]) h1
      rw [hr, hlen]; rfl
    · exact below_setRow hbel (Nat.le_refl _) _
    · rw [setRow_heap _ _ _ _ _ _ hnew]
      have : (madeCells #[z] n).toList.length = n := by simp [size_madeCells]
      rw [List.take_zero, List.drop_of_length_le (by rw [this]; omega)]
      simp


/-- the numbers as cells -/
def intCells (n : Nat) (m : Nat → Int) : List Value := (List.range n).map (fun j => .int .i64 (m j))
theorem intCells_get (n : Nat) (m : Nat → Int) (j : Nat) (h : j < n) : (intCells n m)[j]? = some (.int .i64 (m j)) := by simp [intCells, h]
theorem intCells_len (n : Nat) (m : Nat → Int) : (intCells n m).length = n := by simp [intCells]
theorem intCells_one (n : Nat) (m : Nat → Int) : ∀ v ∈ intCells n m, v.oneCell' = true := by
  intro v hv
  obtain ⟨x, _, rfl⟩ := List.mem_map.1 hv
  rfl
theorem intCells_cell {w : World} {g n : Nat} {t : TypeId} {m : Nat → Int} (h : w.heap[g]? = some (.cells (intCells n m).toArray t (0, 0))) : ∀ k, k < n → w.cell? ⟨g, k, none⟩ = some (.int .i64 (m k)) := by
  intro k hk
  simp only [World.cell?, h]
  simp [intCells_get n m k hk]
theorem ints_src {w : World} {B : Nat} {ad : Addr} {n : Nat} {m : Nat → Int} (h : Ints w B (some ad) n m) : ∀ j v, (intCells n m)[j]? = some v → w.cell? (ad.add j) = some v := by
  intro j v hv
  have hj : j < n := by have := (List.getElem?_eq_some_iff.1 hv).1; rwa [intCells_len] at this
  obtain ⟨b, off, e, _, hc⟩ := h j hj
  cases e
  rw [intCells_get n m j hj] at hv
  cases hv
  rw [show (⟨b, off, none⟩ : Addr).add j = ⟨b, off + j, none⟩ by simp [Addr.add]]
  exact hc

set_option maxRecDepth 100000 in
set_option maxHeartbeats 8000000 in
theorem chunk2 (C Y : Code) (hC : Try.f3.body = some C) (R : Ending → World → Prop) (mb mo : Nat) (x2 : Option Addr) (n1 c1 n2 c2 : Nat) (v0 v3 : Value) (M I : Nat → Int) (g : Nat → Value) (w : World)
    (h1 : n1 ≤ 1048576) (h2 : n2 ≤ 1048576) (hM : Ints w w.heap.size (some ⟨mb, mo, none⟩) n1 M) (hI : Ints w w.heap.size x2 n2 I) (hx2 : x2 = none → n2 = 0 ∧ c2 = 0)
    (hY : ∀ a w' Mb Ib x2', Below w.heap.size w w' → Mb < w'.heap.size → Ib < w'.heap.size → (x2' = some ⟨Ib, 0, none⟩ ∨ n2 = 0) →
      (∀ k, k < n1 → w'.cell? ⟨Mb, k, none⟩ = some (.int .i64 (M k))) → (∀ k, k < n2 → w'.cell? ⟨Ib, k, none⟩ = some (.int .i64 (I k))) →
      Holds a 380 [(0, v0), (1, .slice (some ⟨Mb, 0, none⟩) n1 n1), (2, .slice x2' n2 n2), (3, v3)] → Code.wp Try.prog Y (bodyPost Try.prog Try.f3 R) a w') :
    Code.wp Try.prog (cutSeq 2 (seqDrop 4 C) Y) (bodyPost Try.prog Try.f3 R) ⟨(v0 :: .slice (some ⟨mb, mo, none⟩) n1 c1 :: .slice x2 n2 c2 :: v3 :: g 4 :: g 5 :: g 6 :: g 7 :: g 8 :: g 9 :: g 10 :: g 11 :: g 12 :: g 13 :: g 14 :: g 15 :: g 16 :: g 17 :: g 18 :: g 19 :: g 20 :: g 21 :: g 22 :: g 23 :: g 24 :: g 25 :: g 26 :: g 27 :: g 28 :: g 29 :: g 30 :: g 31 :: g 32 :: g 33 :: g 34 :: g 35 :: g 36 :: g 37 :: g 38 :: g 39 :: g 40 :: g 41 :: g 42 :: g 43 :: g 44 :: g 45 :: g 46 :: g 47 :: g 48 :: g 49 :: g 50 :: g 51 :: g 52 :: g 53 :: g 54 :: g 55 :: g 56 :: g 57 :: g 58 :: g 59 :: g 60 :: g 61 :: g 62 :: g 63 :: g 64 :: g 65 :: g 66 :: g 67 :: g 68 :: g 69 :: g 70 :: g 71 :: g 72 :: g 73 :: g 74 :: g 75 :: g 76 :: g 77 :: g 78 :: g 79 :: g 80 :: g 81 :: g 82 :: g 83 :: g 84 :: g 85 :: g 86 :: g 87 :: g 88 :: g 89 :: g 90 :: g 91 :: g 92 :: g 93 :: g 94 :: g 95 :: g 96 :: g 97 :: g 98 :: g 99 :: g 100 :: g 101 :: g 102 :: g 103 :: g 104 :: g 105 :: g 106 :: g 107 :: g 108 :: g 109 :: g 110 :: g 111 :: g 112 :: g 113 :: g 114 :: g 115 :: g 116 :: g 117 :: g 118 :: g 119 :: g 120 :: g 121 :: g 122 :: g 123 :: g 124 :: g 125 :: g 126 :: g 127 :: g 128 :: g 129 :: g 130 :: g 131 :: g 132 :: g 133 :: g 134 :: g 135 :: g 136 :: g 137 :: g 138 :: g 139 :: g 140 :: g 141 :: g 142 :: g 143 :: g 144 :: g 145 :: g 146 :: g 147 :: g 148 :: g 149 :: g 150 :: g 151 :: g 152 :: g 153 :: g 154 :: g 155 :: g 156 :: g 157 :: g 158 :: g 159 :: g 160 :: g 161 :: g 162 :: g 163 :: g 164 :: g 165 :: g 166 :: g 167 :: g 168 :: g 169 :: g 170 :: g 171 :: g 172 :: g 173 :: g 174 :: g 175 :: g 176 :: g 177 :: g 178 :: g 179 :: g 180 :: g 181 :: g 182 :: g 183 :: g 184 :: g 185 :: g 186 :: g 187 :: g 188 :: g 189 :: g 190 :: g 191 :: g 192 :: g 193 :: g 194 :: g 195 :: g 196 :: g 197 :: g 198 :: g 199 :: g 200 :: g 201 :: g 202 :: g 203 :: g 204 :: g 205 :: g 206 :: g 207 :: g 208 :: g 209 :: g 210 :: g 211 :: g 212 :: g 213 :: g 214 :: g 215 :: g 216 :: g 217 :: g 218 :: g 219 :: g 220 :: g 221 :: g 222 :: g 223 :: g 224 :: g 225 :: g 226 :: g 227 :: g 228 :: g 229 :: g 230 :: g 231 :: g 232 :: g 233 :: g 234 :: g 235 :: g 236 :: g 237 :: g 238 :: g 239 :: g 240 :: g 241 :: g 242 :: g 243 :: g 244 :: g 245 :: g 246 :: g 247 :: g 248 :: g 249 :: g 250 :: g 251 :: g 252 :: g 253 :: g 254 :: g 255 :: g 256 :: g 257 :: g 258 :: g 259 :: g 260 :: g 261 :: g 262 :: g 263 :: g 264 :: g 265 :: g 266 :: g 267 :: g 268 :: g 269 :: g 270 :: g 271 :: g 272 :: g 273 :: g 274 :: g 275 :: g 276 :: g 277 :: g 278 :: g 279 :: g 280 :: g 281 :: g 282 :: g 283 :: g 284 :: g 285 :: g 286 :: g 287 :: g 288 :: g 289 :: g 290 :: g 291 :: g 292 :: g 293 :: g 294 :: g 295 :: g 296 :: g 297 :: g 298 :: g 299 :: g 300 :: g 301 :: g 302 :: g 303 :: g 304 :: g 305 :: g 306 :: g 307 :: g 308 :: g 309 :: g 310 :: g 311 :: g 312 :: g 313 :: g 314 :: g 315 :: g 316 :: g 317 :: g 318 :: g 319 :: g 320 :: g 321 :: g 322 :: g 323 :: g 324 :: g 325 :: g 326 :: g 327 :: g 328 :: g 329 :: g 330 :: g 331 :: g 332 :: g 333 :: g 334 :: g 335 :: g 336 :: g 337 :: g 338 :: g 339 :: g 340 :: g 341 :: g 342 :: g 343 :: g 344 :: g 345 :: g 346 :: g 347 :: g 348 :: g 349 :: g 350 :: g 351 :: g 352 :: g 353 :: g 354 :: g 355 :: g 356 :: g 357 :: g 358 :: g 359 :: g 360 :: g 361 :: g 362 :: g 363 :: g 364 :: g 365 :: g 366 :: g 367 :: g 368 :: g 369 :: g 370 :: g 371 :: g 372 :: g 373 :: g 374 :: g 375 :: g 376 :: g 377 :: g 378 :: g 379 :: []).toArray, []⟩ w := by
  obtain rfl := Option.some.inj (show some _ = some C from hC)
  clear hC
  simp only [seqDrop, cutSeq]
  have hnn : ∀ w, (binOp .neq 23 (.slice (some ⟨mb, mo, none⟩) n1 c1) (.slice none 0 0)).run Try.prog w = .ok (.bool true) w := fun w => by
    have := run_neq_slice_nil_any (P := Try.prog) w (t := 23) (e := 3) (a := some ⟨mb, mo, none⟩) (n := n1) (c := c1) (n' := 0) (c' := 0) Try.underlying23
    simpa using this
  have hmk1 := run_make_row' (P := Try.prog) 23 3 (.int .i64 0) 8 Try.underlying23 (by kernel_rfl) rfl .i64 .i64 n1 (by omega) (by omega)
  obtain ⟨w2, hcp, hb2, hrow⟩ := copy_made (P := Try.prog) 23 3 (.int .i64 0) Try.underlying23 (by kernel_rfl) w ⟨mb, mo, none⟩ n1 c1 (intCells n1 M) (intCells_len _ _) (intCells_one _ _) (ints_src hM)
  have hlt : w.heap.size < w2.heap.size := by
    rcases Nat.lt_or_ge w.heap.size w2.heap.size with c | c
    · exact c
    · rw [Array.getElem?_eq_none c] at hrow; cases hrow
  have hc1 := intCells_cell hrow
  have hI2 := hI.below hb2
  cases x2 with
  | none =>
    obtain ⟨rfl, rfl⟩ := hx2 rfl
    have hnn2 : ∀ w, (binOp .neq 23 (.slice none 0 0) (.slice none 0 0)).run Try.prog w = .ok (.bool false) w := fun w => by
      have := run_neq_slice_nil_any (P := Try.prog) w (t := 23) (e := 3) (a := none) (n := 0) (c := 0) (n' := 0) (c' := 0) Try.underlying23
      simpa using this
    have A : Aside (Below w.heap.size w w2 ∧ (∀ k, k < n1 → w2.cell? ⟨w.heap.size, k, none⟩ = some (.int .i64 (M k)))) := ⟨hb2, hc1⟩
    clear hM hI hI2 hb2 hrow hc1
    go_wp2_with fail
    exact hY _ _ w.heap.size w.heap.size none A.out.1 hlt hlt (.inr (by first | rfl | trivial)) A.out.2 (fun k hk => by omega) ⟨rfl, rfl, by simp⟩
  | some ad =>
    have hnn2 : ∀ w, (binOp .neq 23 (.slice (some ad) n2 c2) (.slice none 0 0)).run Try.prog w = .ok (.bool true) w := fun w => by
      have := run_neq_slice_nil_any (P := Try.prog) w (t := 23) (e := 3) (a := some ad) (n := n2) (c := c2) (n' := 0) (c' := 0) Try.underlying23
      simpa using this
    have hmk2 := run_make_row' (P := Try.prog) 23 3 (.int .i64 0) 8 Try.underlying23 (by kernel_rfl) rfl .i64 .i64 n2 (by omega) (by omega)
    obtain ⟨w3, hcp3, hb3, hrow3⟩ := copy_made (P := Try.prog) 23 3 (.int .i64 0) Try.underlying23 (by kernel_rfl) w2 ad n2 c2 (intCells n2 I) (intCells_len _ _) (intCells_one _ _) (ints_src hI2)
    have hlt3 : w2.heap.size < w3.heap.size := by
      rcases Nat.lt_or_ge w2.heap.size w3.heap.size with c | c
      · exact c
      · rw [Array.getElem?_eq_none c] at hrow3; cases hrow3
    have A : Aside (Below w.heap.size w w3 ∧ (∀ k, k < n1 → w3.cell? ⟨w.heap.size, k, none⟩ = some (.int .i64 (M k))) ∧ (∀ k, k < n2 → w3.cell? ⟨w2.heap.size, k, none⟩ = some (.int .i64 (I k)))) :=
      ⟨hb2.trans (hb3.mono (by omega)), fun k hk => (hb3.cell (p := ⟨w.heap.size, k, none⟩) hlt).trans (hc1 k hk), intCells_cell hrow3⟩
    clear hM hI hI2 hb2 hrow hc1 hrow3 hb3
    go_wp2_with fail
    exact hY _ _ w.heap.size w2.heap.size (some ⟨w2.heap.size, 0, none⟩) A.out.1 (by omega) hlt3 (.inl rfl) A.out.2.1 A.out.2.2 ⟨rfl, rfl, by simp⟩
end Go.Proofs.Qxb6623500a
