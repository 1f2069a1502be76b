/-
  THE LAW: the loop that looks at every member.
-/
import Derived.Test.Qxb6623500aLead
import Derived.Test.Qxb6623500aLawA
namespace Go.Proofs.Qxb6623500a
open Go.ChangeShapes Go.WideShapes Go.ChangeAt Go.RowKit
set_option linter.unusedVariables false      -- a walk need not use every bound

set_option maxRecDepth 100000 in
set_option maxHeartbeats 8000000 in
theorem chunk3 (C Y : Code) (hC : Try.f3.body = some C) (Mb Ib : Nat) (x0 x2 x3 : Option Addr) (n0 c0 n1 n2 n3 c3 : Nat) (M I : Nat → Int) (g : Nat → Value) (w0 w : World)
    (h0 : n0 ≤ 1048576) (h1 : n1 ≤ 1048576) (h2 : n2 ≤ 1048576) (h3 : n3 ≤ 1048576) (hB : Below w0.heap.size w0 w) (hx2 : x2 = some ⟨Ib, 0, none⟩ ∨ n2 = 0)
    (hM : ∀ k, k < n1 → w.cell? ⟨Mb, k, none⟩ = some (.int .i64 (M k))) (hI : ∀ k, k < n2 → w.cell? ⟨Ib, k, none⟩ = some (.int .i64 (I k)))
    (hY : ∀ a, (∀ k, k < n1 → 0 ≤ M k ∧ M k < n0 ∧ M k < n2 ∧ 0 ≤ I (M k).toNat ∧ I (M k).toNat < n3) →
      Holds a 380 [(0, .slice x0 n0 c0), (1, .slice (some ⟨Mb, 0, none⟩) n1 n1), (2, .slice x2 n2 n2), (3, .slice x3 n3 c3)] → Code.wp Try.prog Y (bodyPost Try.prog Try.f3 (RR w0)) a w) :
    Code.wp Try.prog (cutSeq 1 (seqDrop 6 C) Y) (bodyPost Try.prog Try.f3 (RR w0)) ⟨(.slice x0 n0 c0 :: .slice (some ⟨Mb, 0, none⟩) n1 n1 :: .slice x2 n2 n2 :: .slice x3 n3 c3 :: g 4 :: g 5 :: g 6 :: g 7 :: g 8 :: g 9 :: g 10 :: g 11 :: g 12 :: g 13 :: g 14 :: g 15 :: g 16 :: g 17 :: g 18 :: g 19 :: g 20 :: g 21 :: g 22 :: g 23 :: g 24 :: g 25 :: g 26 :: g 27 :: g 28 :: g 29 :: g 30 :: g 31 :: g 32 :: g 33 :: g 34 :: g 35 :: g 36 :: g 37 :: g 38 :: g 39 :: g 40 :: g 41 :: g 42 :: g 43 :: g 44 :: g 45 :: g 46 :: g 47 :: g 48 :: g 49 :: g 50 :: g 51 :: g 52 :: g 53 :: g 54 :: g 55 :: g 56 :: g 57 :: g 58 :: g 59 :: g 60 :: g 61 :: g 62 :: g 63 :: g 64 :: g 65 :: g 66 :: g 67 :: g 68 :: g 69 :: g 70 :: g 71 :: g 72 :: g 73 :: g 74 :: g 75 :: g 76 :: g 77 :: g 78 :: g 79 :: g 80 :: g 81 :: g 82 :: g 83 :: g 84 :: g 85 :: g 86 :: g 87 :: g 88 :: g 89 :: g 90 :: g 91 :: g 92 :: g 93 :: g 94 :: g 95 :: g 96 :: g 97 :: g 98 :: g 99 :: g 100 :: g 101 :: g 102 :: g 103 :: g 104 :: g 105 :: g 106 :: g 107 :: g 108 :: g 109 :: g 110 :: g 111 :: g 112 :: g 113 :: g 114 :: g 115 :: g 116 :: g 117 :: g 118 :: g 119 :: g 120 :: g 121 :: g 122 :: g 123 :: g 124 :: g 125 :: g 126 :: g 127 :: g 128 :: g 129 :: g 130 :: g 131 :: g 132 :: g 133 :: g 134 :: g 135 :: g 136 :: g 137 :: g 138 :: g 139 :: g 140 :: g 141 :: g 142 :: g 143 :: g 144 :: g 145 :: g 146 :: g 147 :: g 148 :: g 149 :: g 150 :: g 151 :: g 152 :: g 153 :: g 154 :: g 155 :: g 156 :: g 157 :: g 158 :: g 159 :: g 160 :: g 161 :: g 162 :: g 163 :: g 164 :: g 165 :: g 166 :: g 167 :: g 168 :: g 169 :: g 170 :: g 171 :: g 172 :: g 173 :: g 174 :: g 175 :: g 176 :: g 177 :: g 178 :: g 179 :: g 180 :: g 181 :: g 182 :: g 183 :: g 184 :: g 185 :: g 186 :: g 187 :: g 188 :: g 189 :: g 190 :: g 191 :: g 192 :: g 193 :: g 194 :: g 195 :: g 196 :: g 197 :: g 198 :: g 199 :: g 200 :: g 201 :: g 202 :: g 203 :: g 204 :: g 205 :: g 206 :: g 207 :: g 208 :: g 209 :: g 210 :: g 211 :: g 212 :: g 213 :: g 214 :: g 215 :: g 216 :: g 217 :: g 218 :: g 219 :: g 220 :: g 221 :: g 222 :: g 223 :: g 224 :: g 225 :: g 226 :: g 227 :: g 228 :: g 229 :: g 230 :: g 231 :: g 232 :: g 233 :: g 234 :: g 235 :: g 236 :: g 237 :: g 238 :: g 239 :: g 240 :: g 241 :: g 242 :: g 243 :: g 244 :: g 245 :: g 246 :: g 247 :: g 248 :: g 249 :: g 250 :: g 251 :: g 252 :: g 253 :: g 254 :: g 255 :: g 256 :: g 257 :: g 258 :: g 259 :: g 260 :: g 261 :: g 262 :: g 263 :: g 264 :: g 265 :: g 266 :: g 267 :: g 268 :: g 269 :: g 270 :: g 271 :: g 272 :: g 273 :: g 274 :: g 275 :: g 276 :: g 277 :: g 278 :: g 279 :: g 280 :: g 281 :: g 282 :: g 283 :: g 284 :: g 285 :: g 286 :: g 287 :: g 288 :: g 289 :: g 290 :: g 291 :: g 292 :: g 293 :: g 294 :: g 295 :: g 296 :: g 297 :: g 298 :: g 299 :: g 300 :: g 301 :: g 302 :: g 303 :: g 304 :: g 305 :: g 306 :: g 307 :: g 308 :: g 309 :: g 310 :: g 311 :: g 312 :: g 313 :: g 314 :: g 315 :: g 316 :: g 317 :: g 318 :: g 319 :: g 320 :: g 321 :: g 322 :: g 323 :: g 324 :: g 325 :: g 326 :: g 327 :: g 328 :: g 329 :: g 330 :: g 331 :: g 332 :: g 333 :: g 334 :: g 335 :: g 336 :: g 337 :: g 338 :: g 339 :: g 340 :: g 341 :: g 342 :: g 343 :: g 344 :: g 345 :: g 346 :: g 347 :: g 348 :: g 349 :: g 350 :: g 351 :: g 352 :: g 353 :: g 354 :: g 355 :: g 356 :: g 357 :: g 358 :: g 359 :: g 360 :: g 361 :: g 362 :: g 363 :: g 364 :: g 365 :: g 366 :: g 367 :: g 368 :: g 369 :: g 370 :: g 371 :: g 372 :: g 373 :: g 374 :: g 375 :: g 376 :: g 377 :: g 378 :: g 379 :: []).toArray, []⟩ w := by
  obtain rfl := Option.some.inj (show some _ = some C from hC)
  clear hC
  simp only [seqDrop, cutSeq]
  go_wp2_with fail
  go_loopg [11] n1 (fun m i wr => ∃ k : Nat, k ≤ n1 ∧ m = n1 - k ∧ i = .int .i64 k ∧ wr = w ∧ ∀ j, j < k → 0 ≤ M j ∧ M j < n0 ∧ M j < n2 ∧ 0 ≤ I (M j).toNat ∧ I (M j).toNat < n3)
  case atStart => exact ⟨0, Nat.zero_le _, rfl, rfl, rfl, fun j hj => by omega⟩
  case round =>
    obtain ⟨k, hk, hmm, rfl, rfl, hall⟩ := hrel
    have A : Aside (gk = n1 - k ∧ (∀ j, j < k → 0 ≤ M j ∧ M j < n0 ∧ M j < n2 ∧ 0 ≤ I (M j).toNat ∧ I (M j).toNat < n3)) := ⟨hmm, hall⟩
    clear hmm hall
    by_cases hlt : k < n1
    · have c1 := hM k hlt
      by_cases a1 : M k < 0
      · clear hM hI
        go_wp2_with fail
        go_ret
        exact ⟨rfl, hB⟩
      by_cases a2 : (n0 : Int) ≤ M k
      · clear hM hI
        go_wp2_with fail
        go_ret
        exact ⟨rfl, hB⟩
      by_cases a3 : (n2 : Int) ≤ M k
      · clear hM hI
        go_wp2_with fail
        go_ret
        exact ⟨rfl, hB⟩
      obtain ⟨mk, hmk⟩ : ∃ c : Nat, M k = (c : Int) := ⟨(M k).toNat, by omega⟩
      have E : Aside (M k = (mk : Int)) := hmk
      rw [hmk] at c1 a1 a2 a3
      have c2 := hI mk (by omega)
      obtain rfl : x2 = some ⟨Ib, 0, none⟩ := by rcases hx2 with h | h; · exact h
                                                 · exact absurd h (by omega)
      clear hM hI hmk hx2
      by_cases a4 : I mk < 0
      · go_wp2_with fail
        go_ret
        exact ⟨rfl, hB⟩
      by_cases a5 : (n3 : Int) ≤ I mk
      · go_wp2_with fail
        go_ret
        exact ⟨rfl, hB⟩
      have b1 : decide ((mk : Int) < 0) = false := by simp
      have b2 : decide (n0 ≤ mk) = false := by simp; omega
      have b3 : decide (n2 ≤ mk) = false := by simp; omega
      have b4 : decide (I mk < 0) = false := by simp; omega
      have b5 : decide ((n3 : Int) ≤ I mk) = false := by simp; omega
      go_wp2_with fail
      go_roundg (n1 - (k + 1))
      case measure => rw [A.out.1]; omega
      case rel =>
        refine ⟨k + 1, by omega, rfl, by go_num, rfl, fun j hj => ?_⟩
        by_cases c : j < k
        · exact A.out.2 j c
        · obtain rfl : j = k := by omega
          rw [E.out]; simp only [Int.toNat_natCast]; omega
    · clear hM hI
      go_wp2_with fail
      exact hY _ (fun j hj => A.out.2 j (by omega)) ⟨rfl, rfl, by simp⟩
end Go.Proofs.Qxb6623500a
