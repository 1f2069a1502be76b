/-
  THE LAW: the sets are made.
-/
import Derived.Test.Qxb6623500aLawD
namespace Go.Proofs.Qxb6623500a
open Go.ChangeShapes Go.WideShapes Go.ChangeAt Go.RowKit
set_option linter.unusedVariables false      -- a walk need not use every bound

theorem info47 : ∃ i z, Try.prog.info? 47 = some i ∧ i.size = 6 ∧ i.zero = some z ∧ z.cells.size = 6 := ⟨_, _, rfl, rfl, rfl, rfl⟩

theorem set_step {F : Nat → Value} {R : Nat → ByteArray} {k : Nat} (hF : ∀ j, j < k → F (j * 6) = .string (R j)) :
    ∀ j, j < k + 1 → (fun j => if k * 6 ≤ j ∧ j < k * 6 + [Value.string (R k), .string ⟨#[]⟩, .slice none 0 0, .string ⟨#[]⟩, .slice none 0 0, .slice none 0 0].length then [Value.string (R k), .string ⟨#[]⟩, .slice none 0 0, .string ⟨#[]⟩, .slice none 0 0, .slice none 0 0].getD (j - k * 6) undef else F j) (j * 6) = .string (R j) := by
  intro j hj
  show (if k * 6 ≤ j * 6 ∧ j * 6 < k * 6 + 6 then [Value.string (R k), .string ⟨#[]⟩, .slice none 0 0, .string ⟨#[]⟩, .slice none 0 0, .slice none 0 0].getD (j * 6 - k * 6) undef else F (j * 6)) = _
  by_cases e : j = k
  · subst e; rw [if_pos (by omega), Nat.sub_self]; rfl
  · rw [if_neg (by omega)]; exact hF j (by omega)

set_option maxRecDepth 100000 in
set_option maxHeartbeats 8000000 in
theorem chunk5 (C Y : Code) (hC : Try.f3.body = some C) (Q : Ending → World → Prop) (rb ro n3 c3 : Nat) (v0 v1 v2 v13 : Value) (R : Nat → ByteArray) (g : Nat → Value) (w : World)
    (h3 : n3 ≤ 1048576) (hR : Strs w w.heap.size (some ⟨rb, ro, none⟩) n3 R)
    (hY : ∀ a w', Below w.heap.size w w' → w.heap.size < w'.heap.size → (∀ j, j < n3 → w'.cell? ⟨w.heap.size, j * 6, none⟩ = some (.string (R j))) →
      Holds a 380 [(0, v0), (1, v1), (2, v2), (3, .slice (some ⟨rb, ro, none⟩) n3 c3), (13, v13), (16, .slice (some ⟨w.heap.size, 0, none⟩) n3 n3)] → Code.wp Try.prog Y (bodyPost Try.prog Try.f3 Q) a w') :
    Code.wp Try.prog (cutSeq 2 (seqDrop 9 C) Y) (bodyPost Try.prog Try.f3 Q) ⟨(v0 :: v1 :: v2 :: .slice (some ⟨rb, ro, none⟩) n3 c3 :: g 4 :: g 5 :: g 6 :: g 7 :: g 8 :: g 9 :: g 10 :: g 11 :: g 12 :: v13 :: g 14 :: g 15 :: g 16 :: g 17 :: g 18 :: g 19 :: g 20 :: g 21 :: g 22 :: g 23 :: g 24 :: g 25 :: g 26 :: g 27 :: g 28 :: g 29 :: g 30 :: g 31 :: g 32 :: g 33 :: g 34 :: g 35 :: g 36 :: g 37 :: g 38 :: g 39 :: g 40 :: g 41 :: g 42 :: g 43 :: g 44 :: g 45 :: g 46 :: g 47 :: g 48 :: g 49 :: g 50 :: g 51 :: g 52 :: g 53 :: g 54 :: g 55 :: g 56 :: g 57 :: g 58 :: g 59 :: g 60 :: g 61 :: g 62 :: g 63 :: g 64 :: g 65 :: g 66 :: g 67 :: g 68 :: g 69 :: g 70 :: g 71 :: g 72 :: g 73 :: g 74 :: g 75 :: g 76 :: g 77 :: g 78 :: g 79 :: g 80 :: g 81 :: g 82 :: g 83 :: g 84 :: g 85 :: g 86 :: g 87 :: g 88 :: g 89 :: g 90 :: g 91 :: g 92 :: g 93 :: g 94 :: g 95 :: g 96 :: g 97 :: g 98 :: g 99 :: g 100 :: g 101 :: g 102 :: g 103 :: g 104 :: g 105 :: g 106 :: g 107 :: g 108 :: g 109 :: g 110 :: g 111 :: g 112 :: g 113 :: g 114 :: g 115 :: g 116 :: g 117 :: g 118 :: g 119 :: g 120 :: g 121 :: g 122 :: g 123 :: g 124 :: g 125 :: g 126 :: g 127 :: g 128 :: g 129 :: g 130 :: g 131 :: g 132 :: g 133 :: g 134 :: g 135 :: g 136 :: g 137 :: g 138 :: g 139 :: g 140 :: g 141 :: g 142 :: g 143 :: g 144 :: g 145 :: g 146 :: g 147 :: g 148 :: g 149 :: g 150 :: g 151 :: g 152 :: g 153 :: g 154 :: g 155 :: g 156 :: g 157 :: g 158 :: g 159 :: g 160 :: g 161 :: g 162 :: g 163 :: g 164 :: g 165 :: g 166 :: g 167 :: g 168 :: g 169 :: g 170 :: g 171 :: g 172 :: g 173 :: g 174 :: g 175 :: g 176 :: g 177 :: g 178 :: g 179 :: g 180 :: g 181 :: g 182 :: g 183 :: g 184 :: g 185 :: g 186 :: g 187 :: g 188 :: g 189 :: g 190 :: g 191 :: g 192 :: g 193 :: g 194 :: g 195 :: g 196 :: g 197 :: g 198 :: g 199 :: g 200 :: g 201 :: g 202 :: g 203 :: g 204 :: g 205 :: g 206 :: g 207 :: g 208 :: g 209 :: g 210 :: g 211 :: g 212 :: g 213 :: g 214 :: g 215 :: g 216 :: g 217 :: g 218 :: g 219 :: g 220 :: g 221 :: g 222 :: g 223 :: g 224 :: g 225 :: g 226 :: g 227 :: g 228 :: g 229 :: g 230 :: g 231 :: g 232 :: g 233 :: g 234 :: g 235 :: g 236 :: g 237 :: g 238 :: g 239 :: g 240 :: g 241 :: g 242 :: g 243 :: g 244 :: g 245 :: g 246 :: g 247 :: g 248 :: g 249 :: g 250 :: g 251 :: g 252 :: g 253 :: g 254 :: g 255 :: g 256 :: g 257 :: g 258 :: g 259 :: g 260 :: g 261 :: g 262 :: g 263 :: g 264 :: g 265 :: g 266 :: g 267 :: g 268 :: g 269 :: g 270 :: g 271 :: g 272 :: g 273 :: g 274 :: g 275 :: g 276 :: g 277 :: g 278 :: g 279 :: g 280 :: g 281 :: g 282 :: g 283 :: g 284 :: g 285 :: g 286 :: g 287 :: g 288 :: g 289 :: g 290 :: g 291 :: g 292 :: g 293 :: g 294 :: g 295 :: g 296 :: g 297 :: g 298 :: g 299 :: g 300 :: g 301 :: g 302 :: g 303 :: g 304 :: g 305 :: g 306 :: g 307 :: g 308 :: g 309 :: g 310 :: g 311 :: g 312 :: g 313 :: g 314 :: g 315 :: g 316 :: g 317 :: g 318 :: g 319 :: g 320 :: g 321 :: g 322 :: g 323 :: g 324 :: g 325 :: g 326 :: g 327 :: g 328 :: g 329 :: g 330 :: g 331 :: g 332 :: g 333 :: g 334 :: g 335 :: g 336 :: g 337 :: g 338 :: g 339 :: g 340 :: g 341 :: g 342 :: g 343 :: g 344 :: g 345 :: g 346 :: g 347 :: g 348 :: g 349 :: g 350 :: g 351 :: g 352 :: g 353 :: g 354 :: g 355 :: g 356 :: g 357 :: g 358 :: g 359 :: g 360 :: g 361 :: g 362 :: g 363 :: g 364 :: g 365 :: g 366 :: g 367 :: g 368 :: g 369 :: g 370 :: g 371 :: g 372 :: g 373 :: g 374 :: g 375 :: g 376 :: g 377 :: g 378 :: g 379 :: []).toArray, []⟩ w := by
  obtain rfl := Option.some.inj (show some _ = some C from hC)
  clear hC
  simp only [seqDrop, cutSeq]
  obtain ⟨zc, hmk⟩ : ∃ zc : Array Value, ∀ w, (Instr.makeSlice 44 (.int .i64 0) (.int .i64 (n3 : Int))).run Try.prog w = .ok (.slice (some ⟨w.heap.size, 0, none⟩) 0 n3) (w.alloc (.cells (madeCells zc (n3 * 6)) 47)) := by
    obtain ⟨i, z, hi, hsz, hz, hzs⟩ := info47
    have hb : i.bytes = 120 := by
      have : (Try.prog.info? 47).map (·.bytes) = some 120 := by kernel_rfl
      rw [hi] at this; simpa using this
    exact ⟨z.cells, fun w => run_make0 (P := Try.prog) 44 47 z 6 120 Try.underlying44 (by rw [hi]; simp [hsz, hz, hb]) n3 (by omega) (by omega) w⟩
  go_wp2_with fail
  go_loopg [16, 17] n3 (fun m v i wr => ∃ (k : Nat) (F : Nat → Value), k ≤ n3 ∧ m = n3 - k ∧ v = .slice (some ⟨w.heap.size, 0, none⟩) k n3 ∧ i = .int .i64 k ∧ Below w.heap.size w wr ∧
    wr.rowIs w.heap.size 47 (n3 * 6) F ∧ (∀ j, j < k → F (j * 6) = .string (R j)))
  case atStart =>
    obtain ⟨F, hF⟩ := rowIs_made0 w zc (n3 * 6) 47
    exact ⟨0, F, Nat.zero_le _, rfl, rfl, rfl, (Below.refl _ _).alloc (Nat.le_refl _) _, hF, fun i hi => by omega⟩
  case round =>
    obtain ⟨k, F, hk, hmm, rfl, rfl, hb, hrow, hF⟩ := hrel
    have A : Aside (gk = n3 - k ∧ Below w.heap.size w wr ∧ wr.rowIs w.heap.size 47 (n3 * 6) F ∧ (∀ j, j < k → F (j * 6) = .string (R j))) := ⟨hmm, hb, hrow, hF⟩
    have hPlt := hrow.lt
    by_cases hlt : k < n3
    · obtain ⟨b, off, e, _, hc⟩ := (hR.below hb) k hlt
      cases e
      clear hmm hrow hF hb hR
      obtain ⟨i47, z47, hi47⟩ : ∃ i z, Aside (Try.prog.info? 47 = some i ∧ i.size = 6 ∧ i.zero = some z ∧ z.cells.size = 6) := info47
      go_wp2_with (first
        | (go_at_call 8; refine (make8 _ _).mono ?_; rintro e w3 ⟨rfl, rfl⟩)
        | (at_builtin; refine wpList_append_row rfl (.tmp 141) (.tmp 147) 44 rfl 47 i47 6 Try.underlying44 hi47.out.1 hi47.out.2.1 w.heap.size k n3 rfl 47 F ((A.out.2.2.1.alloc _).alloc _) ⟨wr.heap.size + 1, 0, none⟩ 1 1 rfl [.string (R k), .string ⟨#[]⟩, .slice none 0 0, .string ⟨#[]⟩, .slice none 0 0, .slice none 0 0] rfl (news_new _ _ _ _) (by simp [Value.oneCell']) (by omega) ?_
           intro w4 hrow4 honly4 hsz4
           have B : Aside (Below w.heap.size w w4 ∧ w4.rowIs w.heap.size 47 (n3 * 6) _ ∧ _) := ⟨A.out.2.1.trans ((((Only.refl w.heap.size wr).alloc _).alloc _).trans honly4 |>.below _ (Nat.le_refl _) (by omega)), hrow4, set_step A.out.2.2.2⟩
           clear hrow4 honly4 hsz4)
        | go_in)
      go_roundg (n3 - (k + 1))
      case measure => rw [A.out.1]; omega
      case rel => exact ⟨k + 1, _, by omega, rfl, rfl, by go_num, B.out⟩
    · obtain rfl : k = n3 := by omega
      clear hmm hrow hF hb
      go_wp2_with fail
      exact hY _ _ A.out.2.1 hPlt (fun j hj => by rw [A.out.2.2.1.cell (show j * 6 < k * 6 by omega), A.out.2.2.2 j hj]) ⟨rfl, rfl, by simp⟩
end Go.Proofs.Qxb6623500a
