/-
  THE LAW: ZZLead is called; the expected lead; the members' marks.
-/
import Derived.Test.Qxb6623500aLead
namespace Go.Proofs.Qxb6623500a
open Go.ChangeShapes Go.WideShapes Go.ChangeAt Go.RowKit
set_option linter.unusedVariables false      -- a walk need not use every bound

theorem aside {p : Prop} (h : p) : Aside p := h

set_option maxRecDepth 100000 in
set_option maxHeartbeats 8000000 in
theorem chunk6 (C Y : Code) (hC : Try.f3.body = some C) (Q : Ending → World → Prop) (P Mb Ib S n0 n1 n2 n3 : Nat) (v0 v3 : Value) (PS : Nat → PI) (Mf If : Nat → Nat) (R : Nat → ByteArray) (g : Nat → Value) (w : World)
    (hn : n0 ≤ 1048576) (hm0 : 0 < n1) (hm : n1 ≤ 1048576) (hni : n2 ≤ 1048576) (hnr : n3 ≤ 1048576)
    (hP : Pits w P n0 PS) (hMP : Mb ≠ P) (hIP : Ib ≠ P) (hSP : S ≠ P)
    (hM : ∀ k, k < n1 → w.cell? ⟨Mb, k, none⟩ = some (.int .i64 (Mf k))) (hMn : ∀ k, k < n1 → Mf k < n0) (hMi : ∀ k, k < n1 → Mf k < n2)
    (hI : ∀ k, k < n1 → w.cell? ⟨Ib, Mf k, none⟩ = some (.int .i64 (If k))) (hIr : ∀ k, k < n1 → If k < n3)
    (hS : ∀ j, j < n3 → w.cell? ⟨S, j * 6, none⟩ = some (.string (R j)))
    (hY : ∀ a w' fk Sb, IsLead (fun k => (PS (Mf k)).conf) n1 fk → Only P w w' → w.heap.size ≤ Sb →
        (∀ k, k < n1 → w'.cell? ⟨Sb, k, none⟩ = some (.string (R (If k)))) →
        Pits w' P n0 (fun i => if i = Mf fk then { PS (Mf fk) with sv := .slice (some ⟨Sb, 0, none⟩) n1 n1 } else mer PS Mf (Mf fk) n1 i) →
      Holds a 380 [(0, v0), (1, .slice (some ⟨Mb, 0, none⟩) n1 n1), (2, .slice (some ⟨Ib, 0, none⟩) n2 n2), (3, v3), (13, .slice (some ⟨P, 0, none⟩) n0 n0)] → Code.wp Try.prog Y (bodyPost Try.prog Try.f3 Q) a w') :
    Code.wp Try.prog (cutSeq 1 (seqDrop 11 C) Y) (bodyPost Try.prog Try.f3 Q) ⟨(v0 :: .slice (some ⟨Mb, 0, none⟩) n1 n1 :: .slice (some ⟨Ib, 0, none⟩) n2 n2 :: v3 :: g 4 :: g 5 :: g 6 :: g 7 :: g 8 :: g 9 :: g 10 :: g 11 :: g 12 :: .slice (some ⟨P, 0, none⟩) n0 n0 :: g 14 :: g 15 :: .slice (some ⟨S, 0, none⟩) n3 n3 :: g 17 :: g 18 :: g 19 :: g 20 :: g 21 :: g 22 :: g 23 :: g 24 :: g 25 :: g 26 :: g 27 :: g 28 :: g 29 :: g 30 :: g 31 :: g 32 :: g 33 :: g 34 :: g 35 :: g 36 :: g 37 :: g 38 :: g 39 :: g 40 :: g 41 :: g 42 :: g 43 :: g 44 :: g 45 :: g 46 :: g 47 :: g 48 :: g 49 :: g 50 :: g 51 :: g 52 :: g 53 :: g 54 :: g 55 :: g 56 :: g 57 :: g 58 :: g 59 :: g 60 :: g 61 :: g 62 :: g 63 :: g 64 :: g 65 :: g 66 :: g 67 :: g 68 :: g 69 :: g 70 :: g 71 :: g 72 :: g 73 :: g 74 :: g 75 :: g 76 :: g 77 :: g 78 :: g 79 :: g 80 :: g 81 :: g 82 :: g 83 :: g 84 :: g 85 :: g 86 :: g 87 :: g 88 :: g 89 :: g 90 :: g 91 :: g 92 :: g 93 :: g 94 :: g 95 :: g 96 :: g 97 :: g 98 :: g 99 :: g 100 :: g 101 :: g 102 :: g 103 :: g 104 :: g 105 :: g 106 :: g 107 :: g 108 :: g 109 :: g 110 :: g 111 :: g 112 :: g 113 :: g 114 :: g 115 :: g 116 :: g 117 :: g 118 :: g 119 :: g 120 :: g 121 :: g 122 :: g 123 :: g 124 :: g 125 :: g 126 :: g 127 :: g 128 :: g 129 :: g 130 :: g 131 :: g 132 :: g 133 :: g 134 :: g 135 :: g 136 :: g 137 :: g 138 :: g 139 :: g 140 :: g 141 :: g 142 :: g 143 :: g 144 :: g 145 :: g 146 :: g 147 :: g 148 :: g 149 :: g 150 :: g 151 :: g 152 :: g 153 :: g 154 :: g 155 :: g 156 :: g 157 :: g 158 :: g 159 :: g 160 :: g 161 :: g 162 :: g 163 :: g 164 :: g 165 :: g 166 :: g 167 :: g 168 :: g 169 :: g 170 :: g 171 :: g 172 :: g 173 :: g 174 :: g 175 :: g 176 :: g 177 :: g 178 :: g 179 :: g 180 :: g 181 :: g 182 :: g 183 :: g 184 :: g 185 :: g 186 :: g 187 :: g 188 :: g 189 :: g 190 :: g 191 :: g 192 :: g 193 :: g 194 :: g 195 :: g 196 :: g 197 :: g 198 :: g 199 :: g 200 :: g 201 :: g 202 :: g 203 :: g 204 :: g 205 :: g 206 :: g 207 :: g 208 :: g 209 :: g 210 :: g 211 :: g 212 :: g 213 :: g 214 :: g 215 :: g 216 :: g 217 :: g 218 :: g 219 :: g 220 :: g 221 :: g 222 :: g 223 :: g 224 :: g 225 :: g 226 :: g 227 :: g 228 :: g 229 :: g 230 :: g 231 :: g 232 :: g 233 :: g 234 :: g 235 :: g 236 :: g 237 :: g 238 :: g 239 :: g 240 :: g 241 :: g 242 :: g 243 :: g 244 :: g 245 :: g 246 :: g 247 :: g 248 :: g 249 :: g 250 :: g 251 :: g 252 :: g 253 :: g 254 :: g 255 :: g 256 :: g 257 :: g 258 :: g 259 :: g 260 :: g 261 :: g 262 :: g 263 :: g 264 :: g 265 :: g 266 :: g 267 :: g 268 :: g 269 :: g 270 :: g 271 :: g 272 :: g 273 :: g 274 :: g 275 :: g 276 :: g 277 :: g 278 :: g 279 :: g 280 :: g 281 :: g 282 :: g 283 :: g 284 :: g 285 :: g 286 :: g 287 :: g 288 :: g 289 :: g 290 :: g 291 :: g 292 :: g 293 :: g 294 :: g 295 :: g 296 :: g 297 :: g 298 :: g 299 :: g 300 :: g 301 :: g 302 :: g 303 :: g 304 :: g 305 :: g 306 :: g 307 :: g 308 :: g 309 :: g 310 :: g 311 :: g 312 :: g 313 :: g 314 :: g 315 :: g 316 :: g 317 :: g 318 :: g 319 :: g 320 :: g 321 :: g 322 :: g 323 :: g 324 :: g 325 :: g 326 :: g 327 :: g 328 :: g 329 :: g 330 :: g 331 :: g 332 :: g 333 :: g 334 :: g 335 :: g 336 :: g 337 :: g 338 :: g 339 :: g 340 :: g 341 :: g 342 :: g 343 :: g 344 :: g 345 :: g 346 :: g 347 :: g 348 :: g 349 :: g 350 :: g 351 :: g 352 :: g 353 :: g 354 :: g 355 :: g 356 :: g 357 :: g 358 :: g 359 :: g 360 :: g 361 :: g 362 :: g 363 :: g 364 :: g 365 :: g 366 :: g 367 :: g 368 :: g 369 :: g 370 :: g 371 :: g 372 :: g 373 :: g 374 :: g 375 :: g 376 :: g 377 :: g 378 :: g 379 :: []).toArray, []⟩ w := by
  obtain rfl := Option.some.inj (show some _ = some C from hC)
  clear hC
  simp only [seqDrop, cutSeq]
  have key := zzlead9 P Mb Ib S n0 n1 n2 n3 PS Mf If R w hn hm0 hm hni hnr hP hMP hIP hSP hM hMn hMi hI hIr hS
  have K := aside key
  clear key hM hMn hMi hI hIr hS hP
  go_wp2_with fail
  go_at_call 9
  refine (K.out).mono ?_
  rintro e w' ⟨rfl, fk, Sb, r1, r2, r3, r4, r5⟩
  have B := aside (And.intro r1 (And.intro r2 (And.intro r3 (And.intro r4 r5))))
  clear r1 r2 r3 r4 r5 K
  go_wp2_with fail
  exact hY _ _ fk Sb B.out.1 B.out.2.1 B.out.2.2.1 B.out.2.2.2.1 B.out.2.2.2.2 ⟨rfl, rfl, by simp⟩

set_option maxRecDepth 100000 in
set_option maxHeartbeats 8000000 in
theorem chunk7 (C Y : Code) (hC : Try.f3.body = some C) (Q : Ending → World → Prop) (ib io Mb n0 c0 n1 : Nat) (v2 v3 v13 : Value) (Z : Nat → ZI) (Mf : Nat → Nat) (g : Nat → Value) (w : World)
    (hn : n0 ≤ 1048576) (hm0 : 0 < n1) (hm : n1 ≤ 1048576)
    (hM : ∀ k, k < n1 → w.cell? ⟨Mb, k, none⟩ = some (.int .i64 (Mf k))) (hMn : ∀ k, k < n1 → Mf k < n0)
    (hZ : ∀ i, i < n0 → w.cell? ⟨ib, io + i * 8 + 5, none⟩ = some (.int .i64 (Z i).conf))
    (hY : ∀ a bk, IsLead (fun k => (Z (Mf k)).conf) n1 bk → Holds a 380 [(0, .slice (some ⟨ib, io, none⟩) n0 c0), (1, .slice (some ⟨Mb, 0, none⟩) n1 n1), (2, v2), (3, v3), (13, v13), (21, .int .i64 (Mf bk))] → Code.wp Try.prog Y (bodyPost Try.prog Try.f3 Q) a w) :
    Code.wp Try.prog (cutSeq 6 (seqDrop 12 C) Y) (bodyPost Try.prog Try.f3 Q) ⟨(.slice (some ⟨ib, io, none⟩) n0 c0 :: .slice (some ⟨Mb, 0, none⟩) n1 n1 :: v2 :: v3 :: g 4 :: g 5 :: g 6 :: g 7 :: g 8 :: g 9 :: g 10 :: g 11 :: g 12 :: v13 :: g 14 :: g 15 :: g 16 :: g 17 :: g 18 :: g 19 :: g 20 :: g 21 :: g 22 :: g 23 :: g 24 :: g 25 :: g 26 :: g 27 :: g 28 :: g 29 :: g 30 :: g 31 :: g 32 :: g 33 :: g 34 :: g 35 :: g 36 :: g 37 :: g 38 :: g 39 :: g 40 :: g 41 :: g 42 :: g 43 :: g 44 :: g 45 :: g 46 :: g 47 :: g 48 :: g 49 :: g 50 :: g 51 :: g 52 :: g 53 :: g 54 :: g 55 :: g 56 :: g 57 :: g 58 :: g 59 :: g 60 :: g 61 :: g 62 :: g 63 :: g 64 :: g 65 :: g 66 :: g 67 :: g 68 :: g 69 :: g 70 :: g 71 :: g 72 :: g 73 :: g 74 :: g 75 :: g 76 :: g 77 :: g 78 :: g 79 :: g 80 :: g 81 :: g 82 :: g 83 :: g 84 :: g 85 :: g 86 :: g 87 :: g 88 :: g 89 :: g 90 :: g 91 :: g 92 :: g 93 :: g 94 :: g 95 :: g 96 :: g 97 :: g 98 :: g 99 :: g 100 :: g 101 :: g 102 :: g 103 :: g 104 :: g 105 :: g 106 :: g 107 :: g 108 :: g 109 :: g 110 :: g 111 :: g 112 :: g 113 :: g 114 :: g 115 :: g 116 :: g 117 :: g 118 :: g 119 :: g 120 :: g 121 :: g 122 :: g 123 :: g 124 :: g 125 :: g 126 :: g 127 :: g 128 :: g 129 :: g 130 :: g 131 :: g 132 :: g 133 :: g 134 :: g 135 :: g 136 :: g 137 :: g 138 :: g 139 :: g 140 :: g 141 :: g 142 :: g 143 :: g 144 :: g 145 :: g 146 :: g 147 :: g 148 :: g 149 :: g 150 :: g 151 :: g 152 :: g 153 :: g 154 :: g 155 :: g 156 :: g 157 :: g 158 :: g 159 :: g 160 :: g 161 :: g 162 :: g 163 :: g 164 :: g 165 :: g 166 :: g 167 :: g 168 :: g 169 :: g 170 :: g 171 :: g 172 :: g 173 :: g 174 :: g 175 :: g 176 :: g 177 :: g 178 :: g 179 :: g 180 :: g 181 :: g 182 :: g 183 :: g 184 :: g 185 :: g 186 :: g 187 :: g 188 :: g 189 :: g 190 :: g 191 :: g 192 :: g 193 :: g 194 :: g 195 :: g 196 :: g 197 :: g 198 :: g 199 :: g 200 :: g 201 :: g 202 :: g 203 :: g 204 :: g 205 :: g 206 :: g 207 :: g 208 :: g 209 :: g 210 :: g 211 :: g 212 :: g 213 :: g 214 :: g 215 :: g 216 :: g 217 :: g 218 :: g 219 :: g 220 :: g 221 :: g 222 :: g 223 :: g 224 :: g 225 :: g 226 :: g 227 :: g 228 :: g 229 :: g 230 :: g 231 :: g 232 :: g 233 :: g 234 :: g 235 :: g 236 :: g 237 :: g 238 :: g 239 :: g 240 :: g 241 :: g 242 :: g 243 :: g 244 :: g 245 :: g 246 :: g 247 :: g 248 :: g 249 :: g 250 :: g 251 :: g 252 :: g 253 :: g 254 :: g 255 :: g 256 :: g 257 :: g 258 :: g 259 :: g 260 :: g 261 :: g 262 :: g 263 :: g 264 :: g 265 :: g 266 :: g 267 :: g 268 :: g 269 :: g 270 :: g 271 :: g 272 :: g 273 :: g 274 :: g 275 :: g 276 :: g 277 :: g 278 :: g 279 :: g 280 :: g 281 :: g 282 :: g 283 :: g 284 :: g 285 :: g 286 :: g 287 :: g 288 :: g 289 :: g 290 :: g 291 :: g 292 :: g 293 :: g 294 :: g 295 :: g 296 :: g 297 :: g 298 :: g 299 :: g 300 :: g 301 :: g 302 :: g 303 :: g 304 :: g 305 :: g 306 :: g 307 :: g 308 :: g 309 :: g 310 :: g 311 :: g 312 :: g 313 :: g 314 :: g 315 :: g 316 :: g 317 :: g 318 :: g 319 :: g 320 :: g 321 :: g 322 :: g 323 :: g 324 :: g 325 :: g 326 :: g 327 :: g 328 :: g 329 :: g 330 :: g 331 :: g 332 :: g 333 :: g 334 :: g 335 :: g 336 :: g 337 :: g 338 :: g 339 :: g 340 :: g 341 :: g 342 :: g 343 :: g 344 :: g 345 :: g 346 :: g 347 :: g 348 :: g 349 :: g 350 :: g 351 :: g 352 :: g 353 :: g 354 :: g 355 :: g 356 :: g 357 :: g 358 :: g 359 :: g 360 :: g 361 :: g 362 :: g 363 :: g 364 :: g 365 :: g 366 :: g 367 :: g 368 :: g 369 :: g 370 :: g 371 :: g 372 :: g 373 :: g 374 :: g 375 :: g 376 :: g 377 :: g 378 :: g 379 :: []).toArray, []⟩ w := by
  obtain rfl := Option.some.inj (show some _ = some C from hC)
  clear hC
  simp only [seqDrop, cutSeq]
  have q0 := hM 0 hm0
  have q1 := hMn 0 hm0
  have q2 := hZ (Mf 0) q1
  go_wp2_with fail
  go_loopg [18, 19] (n1 - 1) (fun m b i wr => ∃ k bk : Nat, 1 ≤ k ∧ k ≤ n1 ∧ m = n1 - k ∧ IsLead (fun k => (Z (Mf k)).conf) k bk ∧ b = .int .i64 (Z (Mf bk)).conf ∧ i = .int .i64 k ∧ wr = w)
  case atStart => exact ⟨1, 0, by omega, by omega, rfl, IsLead.one _, rfl, rfl, rfl⟩
  case round =>
    obtain ⟨k, bk, hk1, hk, hmm, hl, rfl, rfl, rfl⟩ := hrel
    have A : Aside (gk = n1 - k ∧ IsLead (fun k => (Z (Mf k)).conf) k bk) := ⟨hmm, hl⟩
    clear hmm hl q0 q1 q2
    by_cases hlt : k < n1
    · have c1 := hM k hlt
      have c2 := hMn k hlt
      have c3 := hZ (Mf k) c2
      have D : Aside ((∀ k, k < n1 → wr.cell? ⟨Mb, k, none⟩ = some (.int .i64 (Mf k))) ∧ (∀ k, k < n1 → Mf k < n0) ∧ (∀ i, i < n0 → wr.cell? ⟨ib, io + i * 8 + 5, none⟩ = some (.int .i64 (Z i).conf))) := ⟨hM, hMn, hZ⟩
      clear hM hMn hZ
      by_cases hc : (Z (Mf bk)).conf < (Z (Mf k)).conf
      · go_wp2_with fail
        go_roundg (n1 - (k + 1))
        case measure => rw [A.out.1]; omega
        case rel => exact ⟨k + 1, k, by omega, by omega, rfl, A.out.2.turn hc, rfl, by go_num, rfl⟩
      · go_wp2_with fail
        go_roundg (n1 - (k + 1))
        case measure => rw [A.out.1]; omega
        case rel => exact ⟨k + 1, bk, by omega, by omega, rfl, A.out.2.keep (Int.not_lt.2 hc), rfl, by go_num, rfl⟩
    · obtain rfl : k = n1 := by omega
      have D : Aside ((∀ j, j < k → wr.cell? ⟨Mb, j, none⟩ = some (.int .i64 (Mf j))) ∧ (∀ j, j < k → Mf j < n0) ∧ (∀ i, i < n0 → wr.cell? ⟨ib, io + i * 8 + 5, none⟩ = some (.int .i64 (Z i).conf))) := ⟨hM, hMn, hZ⟩
      clear hM hMn hZ
      have hbk := A.out.2.lt
      go_wp2_with fail
      go_loopg [20] (bk + 1) (fun m i wr' => ∃ j : Nat, j ≤ bk ∧ m = bk + 1 - j ∧ i = .int .i64 j ∧ wr' = wr)
      case atStart => exact ⟨0, Nat.zero_le _, rfl, rfl, rfl⟩
      case round =>
        obtain ⟨j, hj, hmj, rfl, rfl⟩ := hrel
        have A' : Aside (gk = bk + 1 - j) := hmj
        clear hmj
        have c1 := D.out.1 j (by omega)
        have c2 := D.out.2.1 j (by omega)
        have c3 := D.out.2.2 (Mf j) c2
        have j1 : (j : Int) < (k : Int) := by omega
        by_cases hjb : j < bk
        · have hne : ((Z (Mf j)).conf != (Z (Mf bk)).conf) = true := by
            have := A.out.2.first j hjb
            simp only [bne_iff_ne, ne_eq]; omega
          go_wp2_with fail
          go_roundg (bk + 1 - (j + 1))
          case measure => rw [A'.out]; omega
          case rel => exact ⟨j + 1, by omega, rfl, by go_num, rfl⟩
        · obtain rfl : j = bk := by omega
          go_wp2_with fail
          exact hY _ j A.out.2 ⟨rfl, rfl, by simp⟩

/-- is i the item of one of the first k members? -/
def isMem (Mf : Nat → Nat) (k i : Nat) : Bool := (List.range k).any (fun j => Mf j == i)
theorem isMem_succ (Mf : Nat → Nat) (k i : Nat) : isMem Mf (k + 1) i = (isMem Mf k i || Mf k == i) := by
  simp [isMem, List.range_succ]
theorem isMem_iff (Mf : Nat → Nat) (k i : Nat) : isMem Mf k i = true ↔ ∃ j, j < k ∧ Mf j = i := by
  simp [isMem]

set_option maxRecDepth 100000 in
set_option maxHeartbeats 8000000 in
theorem chunk9 (C Y : Code) (hC : Try.f3.body = some C) (Q : Ending → World → Prop) (x0 : Option Addr) (Mb n0 c0 n1 : Nat) (v2 v3 v13 v21 : Value) (Mf : Nat → Nat) (g : Nat → Value) (w : World)
    (hn : n0 ≤ 1048576) (hm : n1 ≤ 1048576)
    (hM : ∀ k, k < n1 → w.cell? ⟨Mb, k, none⟩ = some (.int .i64 (Mf k))) (hMb : Mb < w.heap.size) (hMn : ∀ k, k < n1 → Mf k < n0)
    (hY : ∀ a w', Below w.heap.size w w' → w.heap.size < w'.heap.size → (∀ i, i < n0 → w'.cell? ⟨w.heap.size, i, none⟩ = some (.bool (isMem Mf n1 i))) → Holds a 380 [(0, .slice x0 n0 c0), (1, .slice (some ⟨Mb, 0, none⟩) n1 n1), (2, v2), (3, v3), (13, v13), (21, v21), (22, .slice (some ⟨w.heap.size, 0, none⟩) n0 n0)] → Code.wp Try.prog Y (bodyPost Try.prog Try.f3 Q) a w') :
    Code.wp Try.prog (cutSeq 2 (seqDrop 18 C) Y) (bodyPost Try.prog Try.f3 Q) ⟨(.slice x0 n0 c0 :: .slice (some ⟨Mb, 0, none⟩) n1 n1 :: v2 :: v3 :: g 4 :: g 5 :: g 6 :: g 7 :: g 8 :: g 9 :: g 10 :: g 11 :: g 12 :: v13 :: g 14 :: g 15 :: g 16 :: g 17 :: g 18 :: g 19 :: g 20 :: v21 :: g 22 :: g 23 :: g 24 :: g 25 :: g 26 :: g 27 :: g 28 :: g 29 :: g 30 :: g 31 :: g 32 :: g 33 :: g 34 :: g 35 :: g 36 :: g 37 :: g 38 :: g 39 :: g 40 :: g 41 :: g 42 :: g 43 :: g 44 :: g 45 :: g 46 :: g 47 :: g 48 :: g 49 :: g 50 :: g 51 :: g 52 :: g 53 :: g 54 :: g 55 :: g 56 :: g 57 :: g 58 :: g 59 :: g 60 :: g 61 :: g 62 :: g 63 :: g 64 :: g 65 :: g 66 :: g 67 :: g 68 :: g 69 :: g 70 :: g 71 :: g 72 :: g 73 :: g 74 :: g 75 :: g 76 :: g 77 :: g 78 :: g 79 :: g 80 :: g 81 :: g 82 :: g 83 :: g 84 :: g 85 :: g 86 :: g 87 :: g 88 :: g 89 :: g 90 :: g 91 :: g 92 :: g 93 :: g 94 :: g 95 :: g 96 :: g 97 :: g 98 :: g 99 :: g 100 :: g 101 :: g 102 :: g 103 :: g 104 :: g 105 :: g 106 :: g 107 :: g 108 :: g 109 :: g 110 :: g 111 :: g 112 :: g 113 :: g 114 :: g 115 :: g 116 :: g 117 :: g 118 :: g 119 :: g 120 :: g 121 :: g 122 :: g 123 :: g 124 :: g 125 :: g 126 :: g 127 :: g 128 :: g 129 :: g 130 :: g 131 :: g 132 :: g 133 :: g 134 :: g 135 :: g 136 :: g 137 :: g 138 :: g 139 :: g 140 :: g 141 :: g 142 :: g 143 :: g 144 :: g 145 :: g 146 :: g 147 :: g 148 :: g 149 :: g 150 :: g 151 :: g 152 :: g 153 :: g 154 :: g 155 :: g 156 :: g 157 :: g 158 :: g 159 :: g 160 :: g 161 :: g 162 :: g 163 :: g 164 :: g 165 :: g 166 :: g 167 :: g 168 :: g 169 :: g 170 :: g 171 :: g 172 :: g 173 :: g 174 :: g 175 :: g 176 :: g 177 :: g 178 :: g 179 :: g 180 :: g 181 :: g 182 :: g 183 :: g 184 :: g 185 :: g 186 :: g 187 :: g 188 :: g 189 :: g 190 :: g 191 :: g 192 :: g 193 :: g 194 :: g 195 :: g 196 :: g 197 :: g 198 :: g 199 :: g 200 :: g 201 :: g 202 :: g 203 :: g 204 :: g 205 :: g 206 :: g 207 :: g 208 :: g 209 :: g 210 :: g 211 :: g 212 :: g 213 :: g 214 :: g 215 :: g 216 :: g 217 :: g 218 :: g 219 :: g 220 :: g 221 :: g 222 :: g 223 :: g 224 :: g 225 :: g 226 :: g 227 :: g 228 :: g 229 :: g 230 :: g 231 :: g 232 :: g 233 :: g 234 :: g 235 :: g 236 :: g 237 :: g 238 :: g 239 :: g 240 :: g 241 :: g 242 :: g 243 :: g 244 :: g 245 :: g 246 :: g 247 :: g 248 :: g 249 :: g 250 :: g 251 :: g 252 :: g 253 :: g 254 :: g 255 :: g 256 :: g 257 :: g 258 :: g 259 :: g 260 :: g 261 :: g 262 :: g 263 :: g 264 :: g 265 :: g 266 :: g 267 :: g 268 :: g 269 :: g 270 :: g 271 :: g 272 :: g 273 :: g 274 :: g 275 :: g 276 :: g 277 :: g 278 :: g 279 :: g 280 :: g 281 :: g 282 :: g 283 :: g 284 :: g 285 :: g 286 :: g 287 :: g 288 :: g 289 :: g 290 :: g 291 :: g 292 :: g 293 :: g 294 :: g 295 :: g 296 :: g 297 :: g 298 :: g 299 :: g 300 :: g 301 :: g 302 :: g 303 :: g 304 :: g 305 :: g 306 :: g 307 :: g 308 :: g 309 :: g 310 :: g 311 :: g 312 :: g 313 :: g 314 :: g 315 :: g 316 :: g 317 :: g 318 :: g 319 :: g 320 :: g 321 :: g 322 :: g 323 :: g 324 :: g 325 :: g 326 :: g 327 :: g 328 :: g 329 :: g 330 :: g 331 :: g 332 :: g 333 :: g 334 :: g 335 :: g 336 :: g 337 :: g 338 :: g 339 :: g 340 :: g 341 :: g 342 :: g 343 :: g 344 :: g 345 :: g 346 :: g 347 :: g 348 :: g 349 :: g 350 :: g 351 :: g 352 :: g 353 :: g 354 :: g 355 :: g 356 :: g 357 :: g 358 :: g 359 :: g 360 :: g 361 :: g 362 :: g 363 :: g 364 :: g 365 :: g 366 :: g 367 :: g 368 :: g 369 :: g 370 :: g 371 :: g 372 :: g 373 :: g 374 :: g 375 :: g 376 :: g 377 :: g 378 :: g 379 :: []).toArray, []⟩ w := by
  obtain rfl := Option.some.inj (show some _ = some C from hC)
  clear hC
  simp only [seqDrop, cutSeq]
  have hmk := run_make_row' (P := Try.prog) 50 4 (.bool false) 1 Try.underlying50 (by kernel_rfl) rfl .i64 .i64 n0 (by omega) (by omega)
  go_wp2_with fail
  go_loopg [23] n1 (fun m i wr => ∃ k : Nat, k ≤ n1 ∧ m = n1 - k ∧ i = .int .i64 k ∧ Below w.heap.size w wr ∧ wr.rowIs w.heap.size 4 n0 (fun i => .bool (isMem Mf k i)))
  case atStart => exact ⟨0, Nat.zero_le _, rfl, rfl, (Below.refl _ _).alloc (Nat.le_refl _) _, (World.rowIs_made _ _ _ _).congr (fun i hi => by simp [isMem])⟩
  case round =>
    obtain ⟨k, hk, hmm, rfl, hb, hrow⟩ := hrel
    have A : Aside (gk = n1 - k ∧ Below w.heap.size w wr ∧ wr.rowIs w.heap.size 4 n0 (fun i => .bool (isMem Mf k i))) := ⟨hmm, hb, hrow⟩
    have hlt' := hrow.lt
    by_cases hlt : k < n1
    · have c1 : wr.cell? ⟨Mb, k, none⟩ = some (.int .i64 (Mf k)) := (hb.cell (p := ⟨Mb, k, none⟩) hMb).trans (hM k hlt)
      have c2 := hMn k hlt
      have c3 := hrow.cell c2
      have c4 := hrow.frozen (Mf k)
      have c5 : (0 : Int) ≤ (Mf k : Int) := by omega
      clear hM hMn hmm hb hrow
      go_wp2_with fail
      go_roundg (n1 - (k + 1))
      case measure => rw [A.out.1]; omega
      case rel =>
        refine ⟨k + 1, by omega, rfl, by go_num, A.out.2.1.setCell (Nat.le_refl _) _, (A.out.2.2.set (Mf k) _).congr (fun i hi => ?_)⟩
        rw [isMem_succ]
        by_cases e : i = Mf k
        · subst e; simp
        · simp [e, Ne.symm e]
    · obtain rfl : k = n1 := by omega
      clear hM hMn hmm hb hrow
      go_wp2_with fail
      exact hY _ _ A.out.2.1 hlt' (fun i hi => A.out.2.2.cell hi) ⟨rfl, rfl, by simp⟩
end Go.Proofs.Qxb6623500a
