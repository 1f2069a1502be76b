/-
  THE LAW: the last loop, and the end.
-/
import Derived.Test.Qxb6623500aLawA
import Derived.Test.Qxb6623500aLawH
import Derived.Test.Qxb6623500aLawI
import Derived.Test.Qxb6623500aLawJ
namespace Go.Proofs.Qxb6623500a
open Go.ChangeShapes Go.WideShapes Go.ChangeAt Go.RowKit
set_option linter.unusedVariables false      -- a walk need not use every bound

theorem Pits.range {w w' : World} {P n : Nat} {PS : Nat → PI} (h : Pits w P n PS) (hb : Below w.heap.size w w') (i : Nat) (hi : i < n) : w'.rangeAt P (i * 27) (PS i).cells := by
  intro j v hv
  have hj : j < 27 := (List.getElem?_eq_some_iff.1 hv).1
  have := h.at i j hi hj
  rw [List.getD_eq_getElem?_getD, hv] at this
  exact cell_below hb this
theorem ItemAt.up {w w' : World} {b o : Nat} {z : ZI} (h : ItemAt w w.heap.size b o z) (hb : Below w.heap.size w w') : ItemAt w' w.heap.size b o z := h.below hb

set_option maxRecDepth 100000 in
set_option maxHeartbeats 8000000 in
theorem loop12 (C L : Code) (hC : Try.f3.body = some C) (hL : loopIn (seqDrop 21 C) = some L) (Q : Exit → Act → World → Prop) (ib io Mb Ib rb ro P IM Sb n0 c0 n1 n2 n3 c3 f : Nat) (Z : Nat → ZI) (ca : Nat → Option Addr) (Mf If : Nat → Nat) (R : Nat → ByteArray) (a : Act) (w : World)
    (h0 : n0 ≤ 1048576) (h1 : n1 ≤ 1048576) (h2 : n2 ≤ 1048576) (h3 : n3 ≤ 1048576)
    (hZ : ∀ i, i < n0 → ItemAt w w.heap.size ib (io + i * 8) (Z i)) (hsl : ∀ i, i < n0 → (Z i).sl ≤ 1048576)
    (hP : Pits w P n0 (fun i => if i = f then { pit Z ca f with sv := .slice (some ⟨Sb, 0, none⟩) n1 n1 } else mer (pit Z ca) Mf f n1 i))
    (hca : ∀ i, i < n0 → (ca i).isNone = (Z i).sa.isNone ∧ SAt w (ca i) (Z i).sl (Z i).src) (hf : f < n0)
    (hIM : ∀ i, i < n0 → w.cell? ⟨IM, i, none⟩ = some (.bool (isMem Mf n1 i)))
    (hMn : ∀ j, j < n1 → Mf j < n0) (hMi : ∀ j, j < n1 → Mf j < n2) (hIr : ∀ j, j < n1 → If j < n3) (hS : ∀ j, j < n1 → w.cell? ⟨Sb, j, none⟩ = some (.string (R (If j))))
    (hM : ∀ j, j < n1 → w.cell? ⟨Mb, j, none⟩ = some (.int .i64 (Mf j))) (hI : ∀ j, j < n1 → w.cell? ⟨Ib, Mf j, none⟩ = some (.int .i64 (If j))) (hR : ∀ j, j < n3 → w.cell? ⟨rb, ro + j, none⟩ = some (.string (R j)))
    (ha : Holds a 380 [(0, .slice (some ⟨ib, io, none⟩) n0 c0), (1, .slice (some ⟨Mb, 0, none⟩) n1 n1), (2, .slice (some ⟨Ib, 0, none⟩) n2 n2), (3, .slice (some ⟨rb, ro, none⟩) n3 c3), (13, .slice (some ⟨P, 0, none⟩) n0 n0), (21, .int .i64 (f : Nat)), (22, .slice (some ⟨IM, 0, none⟩) n0 n0), (24, .int .i64 (0 : Nat))])
    (hexit : ∀ a' w', Below w.heap.size w w' → a'.defers = [] → a'.tmps.size = 380 → Q (.exit 12) a' w') :
    Code.wp Try.prog (Code.loop L) Q a w := by
  refine wp_loop_ghost_k (fun m a w' => ∃ k, k ≤ n0 ∧ m = n0 - k ∧ Below w.heap.size w w' ∧ Holds a 380 [(0, .slice (some ⟨ib, io, none⟩) n0 c0), (1, .slice (some ⟨Mb, 0, none⟩) n1 n1), (2, .slice (some ⟨Ib, 0, none⟩) n2 n2), (3, .slice (some ⟨rb, ro, none⟩) n3 c3), (13, .slice (some ⟨P, 0, none⟩) n0 n0), (21, .int .i64 (f : Nat)), (22, .slice (some ⟨IM, 0, none⟩) n0 n0), (24, .int .i64 (k : Nat))]) n0 ⟨0, Nat.zero_le _, rfl, Below.refl _ _, ha⟩ ?_
  rintro m a wr ⟨k, hk, hm, hb, hh⟩ K hK
  have hK' : ∀ a' w', k < n0 → Below wr.heap.size wr w' → Holds a' 380 [(0, .slice (some ⟨ib, io, none⟩) n0 c0), (1, .slice (some ⟨Mb, 0, none⟩) n1 n1), (2, .slice (some ⟨Ib, 0, none⟩) n2 n2), (3, .slice (some ⟨rb, ro, none⟩) n3 c3), (13, .slice (some ⟨P, 0, none⟩) n0 n0), (21, .int .i64 (f : Nat)), (22, .slice (some ⟨IM, 0, none⟩) n0 n0), (24, .int .i64 (k + 1 : Nat))] → K a' w' := fun a' w' hlt hb' hh' =>
    hK a' w' ⟨n0 - (k + 1), by omega, k + 1, by omega, rfl, hb.trans (hb'.mono hb.size), hh'⟩
  obtain ⟨g, rfl, hg⟩ := hh.lit
  simp only [List.forall_mem_cons] at hg
  obtain ⟨g0, g1, g2, g3, g13, g21, g22, g24, _⟩ := hg
  simp only [lst, Nat.reduceAdd, g0, g1, g2, g3, g13, g21, g22, g24]
  clear hh ha
  by_cases hlt : k < n0
  · have hz := (hZ k hlt).up hb
    have hrg := hP.range hb k hlt
    by_cases e : k = f
    · subst e
      simp only [if_true] at hrg
      exact roundLead C L hC hL Q K ib io Mb Ib rb ro P IM n0 c0 n1 n2 n3 c3 k w.heap.size g wr (Z k) h0 h1 h2 h3 hlt (hsl k hlt) hz Sb Mf If R hMn hMi hIr
        (fun j hj => cell_below hb (hS j hj)) (fun j hj => cell_below hb (hM j hj)) (fun j hj => cell_below hb (hI j hj)) (fun j hj => cell_below hb (hR j hj)) hrg (fun a' w' hb' hh' => hK' a' w' hlt hb' hh')
    · simp only [e, if_false] at hrg
      obtain ⟨hc1, hc2⟩ := hca k hlt
      cases hi : isMem Mf n1 k with
      | true =>
        have hx := (isMem_iff Mf n1 k).1 hi
        unfold mer at hrg
        rw [if_pos ⟨e, hx⟩] at hrg
        have him := cell_below hb (hIM k hlt)
        rw [hi] at him
        exact roundMember C L hC hL Q K ib io Mb Ib rb ro P IM n0 c0 n1 n2 n3 c3 f k w.heap.size g wr (Z k) h0 h1 h2 h3 hlt (hsl k hlt) hz (ca k) (Z f).id (hc2.below hb) hc1 e hf him (cell_below hb (hZ f hf).c0) hrg (fun a' w' hb' hh' => hK' a' w' hlt hb' hh')
      | false =>
        have hx : ¬ ∃ j, j < n1 ∧ Mf j = k := fun h => by rw [(isMem_iff Mf n1 k).2 h] at hi; cases hi
        unfold mer at hrg
        rw [if_neg (fun h => hx h.2)] at hrg
        have him := cell_below hb (hIM k hlt)
        rw [hi] at him
        exact roundOther C L hC hL Q K ib io Mb Ib rb ro P IM n0 c0 n1 n2 n3 c3 f k w.heap.size g wr (Z k) h0 h1 h2 h3 hlt (hsl k hlt) hz (ca k) (hc2.below hb) hc1 e him hrg (fun a' w' hb' hh' => hK' a' w' hlt hb' hh')
  · obtain rfl := Option.some.inj (show some _ = some C from hC)
    clear hC
    obtain rfl := Option.some.inj (show some _ = some L from hL)
    clear hL hZ hP hca hIM hMn hMi hIr hS hM hI hR hK' hK
    go_wp2_with fail
    exact hexit _ _ hb rfl rfl

set_option maxRecDepth 100000 in
set_option maxHeartbeats 8000000 in
theorem chunk10 (C : Code) (hC : Try.f3.body = some C) (ib io Mb Ib rb ro P IM Sb n0 c0 n1 n2 n3 c3 f : Nat) (Z : Nat → ZI) (ca : Nat → Option Addr) (Mf If : Nat → Nat) (R : Nat → ByteArray) (g : Nat → Value) (w0 w : World)
    (h0 : n0 ≤ 1048576) (h1 : n1 ≤ 1048576) (h2 : n2 ≤ 1048576) (h3 : n3 ≤ 1048576)
    (hZ : ∀ i, i < n0 → ItemAt w w.heap.size ib (io + i * 8) (Z i)) (hsl : ∀ i, i < n0 → (Z i).sl ≤ 1048576)
    (hP : Pits w P n0 (fun i => if i = f then { pit Z ca f with sv := .slice (some ⟨Sb, 0, none⟩) n1 n1 } else mer (pit Z ca) Mf f n1 i))
    (hca : ∀ i, i < n0 → (ca i).isNone = (Z i).sa.isNone ∧ SAt w (ca i) (Z i).sl (Z i).src) (hf : f < n0)
    (hIM : ∀ i, i < n0 → w.cell? ⟨IM, i, none⟩ = some (.bool (isMem Mf n1 i)))
    (hMn : ∀ j, j < n1 → Mf j < n0) (hMi : ∀ j, j < n1 → Mf j < n2) (hIr : ∀ j, j < n1 → If j < n3) (hS : ∀ j, j < n1 → w.cell? ⟨Sb, j, none⟩ = some (.string (R (If j))))
    (hM : ∀ j, j < n1 → w.cell? ⟨Mb, j, none⟩ = some (.int .i64 (Mf j))) (hI : ∀ j, j < n1 → w.cell? ⟨Ib, Mf j, none⟩ = some (.int .i64 (If j))) (hR : ∀ j, j < n3 → w.cell? ⟨rb, ro + j, none⟩ = some (.string (R j)))
    (hB : Below w0.heap.size w0 w) :
    Code.wp Try.prog (seqDrop 20 C) (bodyPost Try.prog Try.f3 (RR w0)) ⟨(.slice (some ⟨ib, io, none⟩) n0 c0 :: .slice (some ⟨Mb, 0, none⟩) n1 n1 :: .slice (some ⟨Ib, 0, none⟩) n2 n2 :: .slice (some ⟨rb, ro, none⟩) n3 c3 :: g 4 :: g 5 :: g 6 :: g 7 :: g 8 :: g 9 :: g 10 :: g 11 :: g 12 :: .slice (some ⟨P, 0, none⟩) n0 n0 :: g 14 :: g 15 :: g 16 :: g 17 :: g 18 :: g 19 :: g 20 :: .int .i64 (f : Nat) :: .slice (some ⟨IM, 0, none⟩) n0 n0 :: g 23 :: g 24 :: g 25 :: g 26 :: g 27 :: g 28 :: g 29 :: g 30 :: g 31 :: g 32 :: g 33 :: g 34 :: g 35 :: g 36 :: g 37 :: g 38 :: g 39 :: g 40 :: g 41 :: g 42 :: g 43 :: g 44 :: g 45 :: g 46 :: g 47 :: g 48 :: g 49 :: g 50 :: g 51 :: g 52 :: g 53 :: g 54 :: g 55 :: g 56 :: g 57 :: g 58 :: g 59 :: g 60 :: g 61 :: g 62 :: g 63 :: g 64 :: g 65 :: g 66 :: g 67 :: g 68 :: g 69 :: g 70 :: g 71 :: g 72 :: g 73 :: g 74 :: g 75 :: g 76 :: g 77 :: g 78 :: g 79 :: g 80 :: g 81 :: g 82 :: g 83 :: g 84 :: g 85 :: g 86 :: g 87 :: g 88 :: g 89 :: g 90 :: g 91 :: g 92 :: g 93 :: g 94 :: g 95 :: g 96 :: g 97 :: g 98 :: g 99 :: g 100 :: g 101 :: g 102 :: g 103 :: g 104 :: g 105 :: g 106 :: g 107 :: g 108 :: g 109 :: g 110 :: g 111 :: g 112 :: g 113 :: g 114 :: g 115 :: g 116 :: g 117 :: g 118 :: g 119 :: g 120 :: g 121 :: g 122 :: g 123 :: g 124 :: g 125 :: g 126 :: g 127 :: g 128 :: g 129 :: g 130 :: g 131 :: g 132 :: g 133 :: g 134 :: g 135 :: g 136 :: g 137 :: g 138 :: g 139 :: g 140 :: g 141 :: g 142 :: g 143 :: g 144 :: g 145 :: g 146 :: g 147 :: g 148 :: g 149 :: g 150 :: g 151 :: g 152 :: g 153 :: g 154 :: g 155 :: g 156 :: g 157 :: g 158 :: g 159 :: g 160 :: g 161 :: g 162 :: g 163 :: g 164 :: g 165 :: g 166 :: g 167 :: g 168 :: g 169 :: g 170 :: g 171 :: g 172 :: g 173 :: g 174 :: g 175 :: g 176 :: g 177 :: g 178 :: g 179 :: g 180 :: g 181 :: g 182 :: g 183 :: g 184 :: g 185 :: g 186 :: g 187 :: g 188 :: g 189 :: g 190 :: g 191 :: g 192 :: g 193 :: g 194 :: g 195 :: g 196 :: g 197 :: g 198 :: g 199 :: g 200 :: g 201 :: g 202 :: g 203 :: g 204 :: g 205 :: g 206 :: g 207 :: g 208 :: g 209 :: g 210 :: g 211 :: g 212 :: g 213 :: g 214 :: g 215 :: g 216 :: g 217 :: g 218 :: g 219 :: g 220 :: g 221 :: g 222 :: g 223 :: g 224 :: g 225 :: g 226 :: g 227 :: g 228 :: g 229 :: g 230 :: g 231 :: g 232 :: g 233 :: g 234 :: g 235 :: g 236 :: g 237 :: g 238 :: g 239 :: g 240 :: g 241 :: g 242 :: g 243 :: g 244 :: g 245 :: g 246 :: g 247 :: g 248 :: g 249 :: g 250 :: g 251 :: g 252 :: g 253 :: g 254 :: g 255 :: g 256 :: g 257 :: g 258 :: g 259 :: g 260 :: g 261 :: g 262 :: g 263 :: g 264 :: g 265 :: g 266 :: g 267 :: g 268 :: g 269 :: g 270 :: g 271 :: g 272 :: g 273 :: g 274 :: g 275 :: g 276 :: g 277 :: g 278 :: g 279 :: g 280 :: g 281 :: g 282 :: g 283 :: g 284 :: g 285 :: g 286 :: g 287 :: g 288 :: g 289 :: g 290 :: g 291 :: g 292 :: g 293 :: g 294 :: g 295 :: g 296 :: g 297 :: g 298 :: g 299 :: g 300 :: g 301 :: g 302 :: g 303 :: g 304 :: g 305 :: g 306 :: g 307 :: g 308 :: g 309 :: g 310 :: g 311 :: g 312 :: g 313 :: g 314 :: g 315 :: g 316 :: g 317 :: g 318 :: g 319 :: g 320 :: g 321 :: g 322 :: g 323 :: g 324 :: g 325 :: g 326 :: g 327 :: g 328 :: g 329 :: g 330 :: g 331 :: g 332 :: g 333 :: g 334 :: g 335 :: g 336 :: g 337 :: g 338 :: g 339 :: g 340 :: g 341 :: g 342 :: g 343 :: g 344 :: g 345 :: g 346 :: g 347 :: g 348 :: g 349 :: g 350 :: g 351 :: g 352 :: g 353 :: g 354 :: g 355 :: g 356 :: g 357 :: g 358 :: g 359 :: g 360 :: g 361 :: g 362 :: g 363 :: g 364 :: g 365 :: g 366 :: g 367 :: g 368 :: g 369 :: g 370 :: g 371 :: g 372 :: g 373 :: g 374 :: g 375 :: g 376 :: g 377 :: g 378 :: g 379 :: []).toArray, []⟩ w := by
  have hlp := fun L hL Q a ha hexit => loop12 C L hC hL Q ib io Mb Ib rb ro P IM Sb n0 c0 n1 n2 n3 c3 f Z ca Mf If R a w h0 h1 h2 h3 hZ hsl hP hca hf hIM hMn hMi hIr hS hM hI hR ha hexit
  have HL := aside hlp
  clear hlp hZ hsl hP hca hf hIM hMn hMi hIr hS hM hI hR
  obtain rfl := Option.some.inj (show some _ = some C from hC)
  clear hC
  simp only [seqDrop]
  go_wp2_with fail
  refine HL.out _ rfl _ _ ⟨rfl, rfl, by simp⟩ (fun a' w' hb hd hs => ?_)
  clear HL
  obtain ⟨g', rfl, _⟩ := Holds.lit (vs := []) (show Holds a' 380 [] from ⟨hd, hs, by simp⟩)
  clear hd hs
  simp only [lst, Nat.reduceAdd]
  go_wp2_with fail
  go_ret
  exact ⟨rfl, hB.trans (hb.mono hB.size)⟩
end Go.Proofs.Qxb6623500a
