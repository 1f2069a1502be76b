/-
  THE LAW: one round of the last loop at an item outside the group.
-/
import Derived.Test.Qxb6623500aLawG
namespace Go.Proofs.Qxb6623500a
open Go.ChangeShapes Go.WideShapes Go.ChangeAt Go.RowKit
set_option linter.unusedVariables false      -- a walk need not use every bound

set_option maxRecDepth 100000 in
set_option maxHeartbeats 16000000 in
theorem roundOther (C L : Code) (hC : Try.f3.body = some C) (hL : loopIn (seqDrop 21 C) = some L) (Q : Exit → Act → World → Prop) (K : Act → World → Prop) (ib io Mb Ib rb ro P IM n0 c0 n1 n2 n3 c3 f k B : Nat) (g : Nat → Value) (wr : World) (z : ZI)
    (h0 : n0 ≤ 1048576) (h1 : n1 ≤ 1048576) (h2 : n2 ≤ 1048576) (h3 : n3 ≤ 1048576) (hk : k < n0) (hsl : z.sl ≤ 1048576) (hz : ItemAt wr B ib (io + k * 8) z)
    (x' : Option Addr) (hx' : SAt wr x' z.sl z.src) (hnl : x'.isNone = z.sa.isNone) (hkf : k ≠ f) (him : wr.cell? ⟨IM, k, none⟩ = some (.bool false))
    (hp : wr.rangeAt P (k * 27) (PI.cells ⟨z.id, z.path, z.anchor, z.disp, z.reason, z.conf, z.mi, .slice x' z.sl z.sl⟩))
    (hK : ∀ a' w', Below wr.heap.size wr w' → Holds a' 380 [(0, .slice (some ⟨ib, io, none⟩) n0 c0), (1, .slice (some ⟨Mb, 0, none⟩) n1 n1), (2, .slice (some ⟨Ib, 0, none⟩) n2 n2), (3, .slice (some ⟨rb, ro, none⟩) n3 c3), (13, .slice (some ⟨P, 0, none⟩) n0 n0), (21, .int .i64 (f : Nat)), (22, .slice (some ⟨IM, 0, none⟩) n0 n0), (24, .int .i64 ((k + 1 : Nat) : Int))] → K a' w') :
    Code.wp Try.prog L (Exit.then K Q) ⟨(.slice (some ⟨ib, io, none⟩) n0 c0 :: .slice (some ⟨Mb, 0, none⟩) n1 n1 :: .slice (some ⟨Ib, 0, none⟩) n2 n2 :: .slice (some ⟨rb, ro, none⟩) n3 c3 :: g 4 :: g 5 :: g 6 :: g 7 :: g 8 :: g 9 :: g 10 :: g 11 :: g 12 :: .slice (some ⟨P, 0, none⟩) n0 n0 :: g 14 :: g 15 :: g 16 :: g 17 :: g 18 :: g 19 :: g 20 :: .int .i64 (f : Nat) :: .slice (some ⟨IM, 0, none⟩) n0 n0 :: g 23 :: .int .i64 (k : Nat) :: g 25 :: g 26 :: g 27 :: g 28 :: g 29 :: g 30 :: g 31 :: g 32 :: g 33 :: g 34 :: g 35 :: g 36 :: g 37 :: g 38 :: g 39 :: g 40 :: g 41 :: g 42 :: g 43 :: g 44 :: g 45 :: g 46 :: g 47 :: g 48 :: g 49 :: g 50 :: g 51 :: g 52 :: g 53 :: g 54 :: g 55 :: g 56 :: g 57 :: g 58 :: g 59 :: g 60 :: g 61 :: g 62 :: g 63 :: g 64 :: g 65 :: g 66 :: g 67 :: g 68 :: g 69 :: g 70 :: g 71 :: g 72 :: g 73 :: g 74 :: g 75 :: g 76 :: g 77 :: g 78 :: g 79 :: g 80 :: g 81 :: g 82 :: g 83 :: g 84 :: g 85 :: g 86 :: g 87 :: g 88 :: g 89 :: g 90 :: g 91 :: g 92 :: g 93 :: g 94 :: g 95 :: g 96 :: g 97 :: g 98 :: g 99 :: g 100 :: g 101 :: g 102 :: g 103 :: g 104 :: g 105 :: g 106 :: g 107 :: g 108 :: g 109 :: g 110 :: g 111 :: g 112 :: g 113 :: g 114 :: g 115 :: g 116 :: g 117 :: g 118 :: g 119 :: g 120 :: g 121 :: g 122 :: g 123 :: g 124 :: g 125 :: g 126 :: g 127 :: g 128 :: g 129 :: g 130 :: g 131 :: g 132 :: g 133 :: g 134 :: g 135 :: g 136 :: g 137 :: g 138 :: g 139 :: g 140 :: g 141 :: g 142 :: g 143 :: g 144 :: g 145 :: g 146 :: g 147 :: g 148 :: g 149 :: g 150 :: g 151 :: g 152 :: g 153 :: g 154 :: g 155 :: g 156 :: g 157 :: g 158 :: g 159 :: g 160 :: g 161 :: g 162 :: g 163 :: g 164 :: g 165 :: g 166 :: g 167 :: g 168 :: g 169 :: g 170 :: g 171 :: g 172 :: g 173 :: g 174 :: g 175 :: g 176 :: g 177 :: g 178 :: g 179 :: g 180 :: g 181 :: g 182 :: g 183 :: g 184 :: g 185 :: g 186 :: g 187 :: g 188 :: g 189 :: g 190 :: g 191 :: g 192 :: g 193 :: g 194 :: g 195 :: g 196 :: g 197 :: g 198 :: g 199 :: g 200 :: g 201 :: g 202 :: g 203 :: g 204 :: g 205 :: g 206 :: g 207 :: g 208 :: g 209 :: g 210 :: g 211 :: g 212 :: g 213 :: g 214 :: g 215 :: g 216 :: g 217 :: g 218 :: g 219 :: g 220 :: g 221 :: g 222 :: g 223 :: g 224 :: g 225 :: g 226 :: g 227 :: g 228 :: g 229 :: g 230 :: g 231 :: g 232 :: g 233 :: g 234 :: g 235 :: g 236 :: g 237 :: g 238 :: g 239 :: g 240 :: g 241 :: g 242 :: g 243 :: g 244 :: g 245 :: g 246 :: g 247 :: g 248 :: g 249 :: g 250 :: g 251 :: g 252 :: g 253 :: g 254 :: g 255 :: g 256 :: g 257 :: g 258 :: g 259 :: g 260 :: g 261 :: g 262 :: g 263 :: g 264 :: g 265 :: g 266 :: g 267 :: g 268 :: g 269 :: g 270 :: g 271 :: g 272 :: g 273 :: g 274 :: g 275 :: g 276 :: g 277 :: g 278 :: g 279 :: g 280 :: g 281 :: g 282 :: g 283 :: g 284 :: g 285 :: g 286 :: g 287 :: g 288 :: g 289 :: g 290 :: g 291 :: g 292 :: g 293 :: g 294 :: g 295 :: g 296 :: g 297 :: g 298 :: g 299 :: g 300 :: g 301 :: g 302 :: g 303 :: g 304 :: g 305 :: g 306 :: g 307 :: g 308 :: g 309 :: g 310 :: g 311 :: g 312 :: g 313 :: g 314 :: g 315 :: g 316 :: g 317 :: g 318 :: g 319 :: g 320 :: g 321 :: g 322 :: g 323 :: g 324 :: g 325 :: g 326 :: g 327 :: g 328 :: g 329 :: g 330 :: g 331 :: g 332 :: g 333 :: g 334 :: g 335 :: g 336 :: g 337 :: g 338 :: g 339 :: g 340 :: g 341 :: g 342 :: g 343 :: g 344 :: g 345 :: g 346 :: g 347 :: g 348 :: g 349 :: g 350 :: g 351 :: g 352 :: g 353 :: g 354 :: g 355 :: g 356 :: g 357 :: g 358 :: g 359 :: g 360 :: g 361 :: g 362 :: g 363 :: g 364 :: g 365 :: g 366 :: g 367 :: g 368 :: g 369 :: g 370 :: g 371 :: g 372 :: g 373 :: g 374 :: g 375 :: g 376 :: g 377 :: g 378 :: g 379 :: []).toArray, []⟩ wr := by
  obtain rfl := Option.some.inj (show some _ = some C from hC)
  clear hC
  obtain rfl := Option.some.inj (show some _ = some L from hL)
  clear hL
  have hone := cells_one ⟨z.id, z.path, z.anchor, z.disp, z.reason, z.conf, z.mi, .slice x' z.sl z.sl⟩ rfl
  have hsz : (Try.prog.info? 41).map (·.size) = some (PI.cells ⟨z.id, z.path, z.anchor, z.disp, z.reason, z.conf, z.mi, .slice x' z.sl z.sl⟩).toArray.size := by kernel_rfl
  have hsz' : (PI.cells ⟨z.id, z.path, z.anchor, z.disp, z.reason, z.conf, z.mi, .slice x' z.sl z.sl⟩).toArray.size = 27 := rfl
  have hln : (Try.prog.info? 41).map (·.size) = some (PI.cells ⟨z.id, z.path, z.anchor, z.disp, z.reason, z.conf, z.mi, .slice x' z.sl z.sl⟩).length := by kernel_rfl
  have hy0 : ∀ j v, (PI.cells ⟨z.id, z.path, z.anchor, z.disp, z.reason, z.conf, z.mi, .slice x' z.sl z.sl⟩)[j]? = some v → ((wr.alloc (.cells #[.string z.id, .string z.path, .string z.anchor, .string z.disp, .string z.reason, .int .i64 z.conf, .string z.mi, .slice z.sa z.sl z.sc] 28)).alloc (.cells (PI.cells ⟨z.id, z.path, z.anchor, z.disp, z.reason, z.conf, z.mi, .slice x' z.sl z.sl⟩).toArray 41)).cell? ⟨wr.heap.size + 1, j, none⟩ = some v := fun j v h => by
    have := new_cell (wr.alloc (.cells #[.string z.id, .string z.path, .string z.anchor, .string z.disp, .string z.reason, .int .i64 z.conf, .string z.mi, .slice z.sa z.sl z.sc] 28)) (PI.cells ⟨z.id, z.path, z.anchor, z.disp, z.reason, z.conf, z.mi, .slice x' z.sl z.sl⟩).toArray 41 j v (by rw [List.getElem?_toArray]; exact h)
    rwa [show (wr.alloc (.cells #[.string z.id, .string z.path, .string z.anchor, .string z.disp, .string z.reason, .int .i64 z.conf, .string z.mi, .slice z.sa z.sl z.sc] 28)).heap.size = wr.heap.size + 1 by simp] at this
  have hx0 : ∀ j v, (#[.string z.id, .string z.path, .string z.anchor, .string z.disp, .string z.reason, .int .i64 z.conf, .string z.mi, .slice z.sa z.sl z.sc] : Array Value)[j]? = some v → ∀ o, ((wr.alloc (.cells #[.string z.id, .string z.path, .string z.anchor, .string z.disp, .string z.reason, .int .i64 z.conf, .string z.mi, .slice z.sa z.sl z.sc] 28)).alloc o).cell? ⟨wr.heap.size, j, none⟩ = some v := fun j v h o =>
    (World.cell?_alloc_lt _ _ _ (by simp)).trans (new_cell wr _ 28 j v h)
  have hzz := aside hz
  obtain ⟨blt, e0, e1, e2, e3, e4, e5, e6, e7, hss, hbd⟩ := hz
  have HP := aside (And.intro hone (And.intro hsz (And.intro hsz' (And.intro hln (And.intro hp (And.intro hy0 hx0))))))
  clear hone hsz hsz' hln hp hy0 hx0 hbd hss
  have HX := aside (And.intro hx' hnl)
  have HIM := aside him
  clear hx' hnl him
  have hkb : ((k : Int) == (f : Int)) = false := by rw [beq_eq_false_iff_ne]; omega
  have HPC := aside (rfl : PI.cells ⟨z.id, z.path, z.anchor, z.disp, z.reason, z.conf, z.mi, .slice x' z.sl z.sl⟩ = PI.cells ⟨z.id, z.path, z.anchor, z.disp, z.reason, z.conf, z.mi, .slice x' z.sl z.sl⟩)
  generalize hpc : PI.cells ⟨z.id, z.path, z.anchor, z.disp, z.reason, z.conf, z.mi, .slice x' z.sl z.sl⟩ = pc at HP
  go_wp2_with (first
    | (refine wpList_load_mid rfl 41 (.tmp 243) rfl P (k * 27) rfl pc _ (rangeAt_alloc1 HP.out.2.2.2.2.1) Try.underlying41 rfl HP.out.2.2.2.1 ?_)
    | (refine wpList_store_row rfl 41 (.tmp 26) (.tmp 244) rfl (wr.heap.size + 1) pc.toArray rfl rfl 41 _ (heap_alloc2_new _ _ _) HP.out.2.1 (by rw [HP.out.2.2.1]; rfl) HP.out.1 ?_
       rw [alloc2_setRow]
       have hyy := HP.out.2.2.2.2.2.1
       have hxx := fun j v h => HP.out.2.2.2.2.2.2 j v h (.cells pc.toArray 41)
       have him2 := cell_alloc2 HIM.out (.cells #[.string z.id, .string z.path, .string z.anchor, .string z.disp, .string z.reason, .int .i64 z.conf, .string z.mi, .slice z.sa z.sl z.sc] 28) (.cells pc.toArray 41)

       have hbel : Below wr.heap.size wr ((wr.alloc (.cells #[.string z.id, .string z.path, .string z.anchor, .string z.disp, .string z.reason, .int .i64 z.conf, .string z.mi, .slice z.sa z.sl z.sc] 28)).alloc (.cells pc.toArray 41)) := ((Below.refl _ _).alloc (Nat.le_refl _) _).alloc (by simp) _
       generalize hW2 : (wr.alloc (.cells #[.string z.id, .string z.path, .string z.anchor, .string z.disp, .string z.reason, .int .i64 z.conf, .string z.mi, .slice z.sa z.sl z.sc] 28)).alloc (.cells pc.toArray 41) = W2 at *
       subst hpc
       have hrg : W2.rangeAt (wr.heap.size + 1) 1 (finding z.path) := fun j v h => by
         have hj : j < 20 := (List.getElem?_eq_some_iff.1 h).1
         rw [Nat.add_comm 1 j]
         refine hyy (j + 1) v ?_
         show (finding z.path ++ _)[j]? = some v
         rw [List.getElem?_append_left (by exact hj)]; exact h
       have x0 : W2.cell? ⟨wr.heap.size, 0, none⟩ = some (.string z.id) := hxx 0 _ rfl
       have x1 : W2.cell? ⟨wr.heap.size, 1, none⟩ = some (.string z.path) := hxx 1 _ rfl
       have x2 : W2.cell? ⟨wr.heap.size, 2, none⟩ = some (.string z.anchor) := hxx 2 _ rfl
       have x3 : W2.cell? ⟨wr.heap.size, 3, none⟩ = some (.string z.disp) := hxx 3 _ rfl
       have x4 : W2.cell? ⟨wr.heap.size, 4, none⟩ = some (.string z.reason) := hxx 4 _ rfl
       have x5 : W2.cell? ⟨wr.heap.size, 5, none⟩ = some (.int .i64 z.conf) := hxx 5 _ rfl
       have x6 : W2.cell? ⟨wr.heap.size, 6, none⟩ = some (.string z.mi) := hxx 6 _ rfl
       have x7 : W2.cell? ⟨wr.heap.size, 7, none⟩ = some (.slice z.sa z.sl z.sc) := hxx 7 _ rfl
       have y0 : W2.cell? ⟨wr.heap.size + 1, 0, none⟩ = some (.string z.id) := hyy 0 _ rfl
       have y21 : W2.cell? ⟨wr.heap.size + 1, 21, none⟩ = some (.string z.anchor) := hyy 21 _ rfl
       have y22 : W2.cell? ⟨wr.heap.size + 1, 22, none⟩ = some (.string z.disp) := hyy 22 _ rfl
       have y23 : W2.cell? ⟨wr.heap.size + 1, 23, none⟩ = some (.string z.reason) := hyy 23 _ rfl
       have y24 : W2.cell? ⟨wr.heap.size + 1, 24, none⟩ = some (.int .i64 z.conf) := hyy 24 _ rfl
       have y25 : W2.cell? ⟨wr.heap.size + 1, 25, none⟩ = some (.string z.mi) := hyy 25 _ rfl
       have y26 : W2.cell? ⟨wr.heap.size + 1, 26, none⟩ = some (.slice x' z.sl z.sl) := hyy 26 _ rfl
       have HB := aside (And.intro hbel hrg)
       clear hyy hxx hW2 e0 e1 e2 e3 e4 e5 e6 e7 hbel hrg HP)
    | (refine wpList_load36_g (by rfl) (.tmp 251) rfl (wr.heap.size + 1) 1 rfl z.path HB.out.2 ?_)
    | (refine wpList_build36_g (by rfl) (.tmp 254) rfl z.path rfl ?_)
    | (refine wpList_neq36_g (by rfl) (.tmp 252) (.tmp 255) 36 rfl z.path rfl rfl ?_)
    | fail)
  go_at_call 10
  refine (same10 x' z.sa z.sl z.sl z.sc z.src W2 (HX.out.1.below HB.out.1) ((sat_of hzz.out.strs).below HB.out.1) HX.out.2 hsl).mono ?_
  rintro e w5 ⟨rfl, q, rfl⟩
  clear x0 x1 x2 x3 x4 x5 x6 x7 y0 y21 y22 y23 y24 y25 y26 him2
  go_wp2_with fail
  exact hK _ _ (below_draws HB.out.1 q) ⟨rfl, rfl, by simp⟩
end Go.Proofs.Qxb6623500a
