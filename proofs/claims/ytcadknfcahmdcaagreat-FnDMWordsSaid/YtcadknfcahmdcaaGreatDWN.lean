/-
  lookAheadTest, walked. No condition beyond the bounds that each theorem states.
-/
import Derived.Test.YtcadknfcahmdcaaGreatDWL
import Derived.Test.YtcadknfcahmdcaaGreatDWI
import Derived.BigQuiet
import Derived.Deep.DeepCutAuto
import Derived.Deep.LoopGhost
namespace Go.Proofs.YtcadknfcahmdcaaGreat
open Go.RowKit Go.Qz Go.Qz.DF
open Go.Qz.DV hiding val run
set_option linter.unusedVariables false

/-- Six floats. -/
def fl6 (A C T X E B : Nat) : List Value := [.float .f64 A, .float .f64 C, .float .f64 T, .float .f64 X, .float .f64 E, .float .f64 B]
def AheadPost (msg : List Nat) (p mode : Nat) (w : World) (e : Ending) (w' : World) : Prop := ∃ r : Nat, e = .returned (.int .i64 r) ∧ Hid (Look msg p mode r) ∧ Hid (Below w.heap.size w w')
/-- The counts in memory. -/
def Cts (w wx : World) (mode : Nat) (msg : List Nat) (p n : Nat) (A C T X E B : Nat) : Prop :=
  Cnt mode (fun i => nth msg (p + i)) n A C T X E B ∧ Arr wx 135 w.heap.size (fl6 A C T X E B) ∧ Below w.heap.size w wx
set_option maxRecDepth 100000 in
/-- The frame of lookAheadTest at its loop: all other slots hold anything. -/
def lkF (A0 : Option Addr) (L cap p mode cB n : Nat) (u : Nat → Value) : Act := ⟨List.toArray (.slice A0 L cap :: .int .i64 p :: .int .i64 mode :: u 3 :: u 4 :: u 5 :: u 6 :: .slice (some ⟨cB, 0, none⟩) 6 6 :: .int .i64 n :: u 9 :: u 10 :: u 11 :: u 12 :: u 13 :: u 14 :: u 15 :: u 16 :: u 17 :: u 18 :: u 19 :: u 20 :: u 21 :: u 22 :: u 23 :: u 24 :: u 25 :: u 26 :: u 27 :: u 28 :: u 29 :: u 30 :: u 31 :: u 32 :: u 33 :: u 34 :: u 35 :: u 36 :: u 37 :: u 38 :: u 39 :: u 40 :: u 41 :: u 42 :: u 43 :: u 44 :: u 45 :: u 46 :: u 47 :: u 48 :: u 49 :: u 50 :: u 51 :: u 52 :: u 53 :: u 54 :: u 55 :: u 56 :: u 57 :: u 58 :: u 59 :: u 60 :: u 61 :: u 62 :: u 63 :: u 64 :: u 65 :: u 66 :: u 67 :: u 68 :: u 69 :: u 70 :: u 71 :: u 72 :: u 73 :: u 74 :: u 75 :: u 76 :: u 77 :: u 78 :: u 79 :: u 80 :: u 81 :: u 82 :: u 83 :: u 84 :: u 85 :: u 86 :: u 87 :: u 88 :: u 89 :: u 90 :: u 91 :: u 92 :: u 93 :: u 94 :: u 95 :: u 96 :: u 97 :: u 98 :: u 99 :: u 100 :: u 101 :: u 102 :: u 103 :: u 104 :: u 105 :: u 106 :: u 107 :: u 108 :: u 109 :: u 110 :: u 111 :: u 112 :: u 113 :: u 114 :: u 115 :: u 116 :: u 117 :: u 118 :: u 119 :: u 120 :: u 121 :: u 122 :: u 123 :: u 124 :: u 125 :: u 126 :: u 127 :: u 128 :: u 129 :: u 130 :: u 131 :: u 132 :: u 133 :: u 134 :: u 135 :: u 136 :: u 137 :: u 138 :: u 139 :: u 140 :: u 141 :: u 142 :: u 143 :: u 144 :: u 145 :: u 146 :: u 147 :: u 148 :: u 149 :: u 150 :: u 151 :: u 152 :: u 153 :: u 154 :: u 155 :: u 156 :: u 157 :: u 158 :: u 159 :: u 160 :: u 161 :: u 162 :: u 163 :: u 164 :: u 165 :: u 166 :: u 167 :: u 168 :: u 169 :: u 170 :: u 171 :: u 172 :: u 173 :: u 174 :: u 175 :: u 176 :: u 177 :: u 178 :: u 179 :: u 180 :: u 181 :: u 182 :: u 183 :: u 184 :: u 185 :: u 186 :: u 187 :: u 188 :: u 189 :: u 190 :: u 191 :: u 192 :: u 193 :: u 194 :: u 195 :: u 196 :: u 197 :: u 198 :: u 199 :: u 200 :: u 201 :: u 202 :: u 203 :: u 204 :: u 205 :: u 206 :: u 207 :: u 208 :: u 209 :: u 210 :: u 211 :: u 212 :: u 213 :: u 214 :: u 215 :: u 216 :: u 217 :: u 218 :: u 219 :: u 220 :: u 221 :: u 222 :: u 223 :: u 224 :: u 225 :: u 226 :: u 227 :: u 228 :: u 229 :: u 230 :: u 231 :: u 232 :: u 233 :: u 234 :: u 235 :: u 236 :: u 237 :: u 238 :: u 239 :: u 240 :: u 241 :: u 242 :: u 243 :: u 244 :: u 245 :: u 246 :: u 247 :: u 248 :: u 249 :: u 250 :: u 251 :: u 252 :: u 253 :: u 254 :: u 255 :: u 256 :: u 257 :: u 258 :: u 259 :: u 260 :: u 261 :: u 262 :: u 263 :: u 264 :: u 265 :: u 266 :: u 267 :: u 268 :: u 269 :: u 270 :: u 271 :: u 272 :: u 273 :: u 274 :: u 275 :: u 276 :: u 277 :: u 278 :: u 279 :: u 280 :: u 281 :: u 282 :: u 283 :: u 284 :: u 285 :: u 286 :: u 287 :: u 288 :: u 289 :: u 290 :: u 291 :: u 292 :: u 293 :: u 294 :: u 295 :: u 296 :: u 297 :: u 298 :: u 299 :: u 300 :: u 301 :: u 302 :: u 303 :: u 304 :: u 305 :: u 306 :: u 307 :: u 308 :: u 309 :: u 310 :: u 311 :: u 312 :: u 313 :: u 314 :: u 315 :: u 316 :: u 317 :: u 318 :: u 319 :: u 320 :: u 321 :: u 322 :: u 323 :: u 324 :: u 325 :: u 326 :: u 327 :: u 328 :: u 329 :: u 330 :: u 331 :: u 332 :: u 333 :: u 334 :: u 335 :: u 336 :: u 337 :: u 338 :: u 339 :: u 340 :: u 341 :: u 342 :: u 343 :: u 344 :: u 345 :: u 346 :: u 347 :: u 348 :: u 349 :: u 350 :: u 351 :: u 352 :: u 353 :: u 354 :: u 355 :: u 356 :: u 357 :: u 358 :: u 359 :: u 360 :: u 361 :: u 362 :: u 363 :: u 364 :: u 365 :: u 366 :: u 367 :: u 368 :: u 369 :: u 370 :: u 371 :: u 372 :: u 373 :: u 374 :: u 375 :: u 376 :: u 377 :: u 378 :: u 379 :: u 380 :: u 381 :: u 382 :: []), []⟩
def lkS (A0 : Option Addr) (L cap p mode cB n : Nat) (u : Nat → Value) (k : Nat) : Value :=
  if k = 0 then .slice A0 L cap else if k = 1 then .int .i64 p else if k = 2 then .int .i64 mode else if k = 7 then .slice (some ⟨cB, 0, none⟩) 6 6 else if k = 8 then .int .i64 n else u k
set_option maxRecDepth 100000 in
theorem lkF_eq (A0 : Option Addr) (L cap p mode cB n : Nat) (u : Nat → Value) : lkF A0 L cap p mode cB n u = ⟨List.toArray ((List.range 383).map (lkS A0 L cap p mode cB n u)), []⟩ := by kernel_rfl
theorem lk_intro {A0 : Option Addr} {L cap p mode cB n : Nat} {l : List Value} (hl : l.length = 383) (h0 : l.getD 0 undef = .slice A0 L cap) (h1 : l.getD 1 undef = .int .i64 p) (h2 : l.getD 2 undef = .int .i64 mode) (h7 : l.getD 7 undef = .slice (some ⟨cB, 0, none⟩) 6 6) (h8 : l.getD 8 undef = .int .i64 n) :
    (⟨l.toArray, []⟩ : Act) = lkF A0 L cap p mode cB n (fun k => l.getD k undef) := by
  rw [lkF_eq]
  congr 2
  apply List.ext_getElem (by simp [hl])
  intro i h3 h4
  simp only [List.getElem_map, List.getElem_range]
  have e : l.getD i undef = l[i] := by simp [List.getD_eq_getElem?_getD, List.getElem?_eq_getElem h3]
  unfold lkS
  split
  · rename_i e1; subst e1; rw [← h0, e]
  · split
    · rename_i e1; subst e1; rw [← h1, e]
    · split
      · rename_i e1; subst e1; rw [← h2, e]
      · split
        · rename_i e1; subst e1; rw [← h7, e]
        · split
          · rename_i e1; subst e1; rw [← h8, e]
          · exact e.symm
theorem Tryz.infoU8 : (Tryz.prog.info? 5).map (fun i => (i.zero, i.size, i.bytes)) = some (some (.int .u8 0), 1, 1) := by kernel_rfl
theorem fadd_run {n x y : Nat} (h : AddOk n x y) (W : World) : (binOp .add 135 (.float .f64 x) (.float .f64 y)).run Tryz.prog W = .ok (.float .f64 (fadd x y)) W := run_float_arith W .add 135 .f64 x y _ h.1
theorem fin_facts {z : Nat → Nat} {m : Nat} (h1 : ∀ j, j < 6 → m ≤ ci z j) (h2 : ∃ j, j < 6 ∧ ci z j = m) : Least m (ci z 0) (ci z 1) (ci z 2) (ci z 3) (ci z 4) (ci z 5) ∧ sm (ms z 6 m) 6 = many m (ci z 0) (ci z 1) (ci z 2) (ci z 3) (ci z 4) (ci z 5) := by
  refine ⟨⟨⟨h1 0 (by omega), h1 1 (by omega), h1 2 (by omega), h1 3 (by omega), h1 4 (by omega), h1 5 (by omega)⟩, ?_⟩, ?_⟩
  · obtain ⟨j, hj, e⟩ := h2
    rcases (show j = 0 ∨ j = 1 ∨ j = 2 ∨ j = 3 ∨ j = 4 ∨ j = 5 by omega) with rfl | rfl | rfl | rfl | rfl | rfl
    · exact .inl e.symm
    · exact .inr (.inl e.symm)
    · exact .inr (.inr (.inl e.symm))
    · exact .inr (.inr (.inr (.inl e.symm)))
    · exact .inr (.inr (.inr (.inr (.inl e.symm))))
    · exact .inr (.inr (.inr (.inr (.inr e.symm))))
  · simp [sm, ms, many]
/-- Six words by their number. -/
def z6 (A C T X E B : Nat) (j : Nat) : Nat := nth [A, C, T, X, E, B] j
theorem z6_row (A C T X E B : Nat) : rowV (fun j => .float .f64 (z6 A C T X E B j)) 6 = fl6 A C T X E B := rfl
theorem cnt_words {mode n A C T X E B : Nat} {f : Nat → Nat} (hn : n ≤ 1000) (h : Cnt mode f n A C T X E B) : ∀ j, j < 6 → OkW (z6 A C T X E B j) ∧ DF.val (z6 A C T X E B j) ≤ 4095 * 2 ^ 60 := by
  have hx : ∀ x, Ok n x → OkW x ∧ DF.val x ≤ 4095 * 2 ^ 60 := fun x hx => ⟨hx.1, by
    have := hx.2
    rw [p60]
    rw [show 4095 * 1152921504606846976 = 4721213561365038366720 by decide]
    generalize DF.val x = v at *
    clear hx
    omega⟩
  intro j hj
  rcases (show j = 0 ∨ j = 1 ∨ j = 2 ∨ j = 3 ∨ j = 4 ∨ j = 5 by omega) with rfl | rfl | rfl | rfl | rfl | rfl
  · exact hx _ h.a
  · exact hx _ h.c
  · exact hx _ h.t
  · exact hx _ h.x
  · exact hx _ h.e
  · exact hx _ h.b
/-- Behind findMinimums: the ceilings in block ib, who is least in block mb. -/
structure FinM (w wx : World) (mode : Nat) (msg : List Nat) (p n A C T X E B ib mb m i0 i1 i2 i3 i4 i5 b0 b1 b2 b3 b4 b5 : Nat) : Prop where
  cts : Cts w wx mode msg p n A C T X E B
  ia : Arr wx 3 ib [.int .i64 i0, .int .i64 i1, .int .i64 i2, .int .i64 i3, .int .i64 i4, .int .i64 i5]
  ma : Arr wx 5 mb [.int .u8 b0, .int .u8 b1, .int .u8 b2, .int .u8 b3, .int .u8 b4, .int .u8 b5]
theorem FinM.drew {w wx : World} {mode : Nat} {msg : List Nat} {p n A C T X E B ib mb m i0 i1 i2 i3 i4 i5 b0 b1 b2 b3 b4 b5 : Nat} (h : FinM w wx mode msg p n A C T X E B ib mb m i0 i1 i2 i3 i4 i5 b0 b1 b2 b3 b4 b5) : FinM w wx.drew mode msg p n A C T X E B ib mb m i0 i1 i2 i3 i4 i5 b0 b1 b2 b3 b4 b5 :=
  ⟨⟨h.cts.1, h.cts.2.1, below_drewN h.cts.2.2 1⟩, h.ia, h.ma⟩
theorem FinM.drewN {w wx : World} {mode : Nat} {msg : List Nat} {p n A C T X E B ib mb m i0 i1 i2 i3 i4 i5 b0 b1 b2 b3 b4 b5 : Nat} (h : FinM w wx mode msg p n A C T X E B ib mb m i0 i1 i2 i3 i4 i5 b0 b1 b2 b3 b4 b5) (q : Nat) : FinM w (wx.drewN q) mode msg p n A C T X E B ib mb m i0 i1 i2 i3 i4 i5 b0 b1 b2 b3 b4 b5 :=
  ⟨⟨h.cts.1, h.cts.2.1, below_drewN h.cts.2.2 q⟩, h.ia, h.ma⟩
/-- The numbers behind findMinimums. -/
structure FinN (mode : Nat) (msg : List Nat) (p n m k i0 i1 i2 i3 i4 i5 b0 b1 b2 b3 b4 b5 : Nat) : Prop where
  ints : Ints mode msg p n i0 i1 i2 i3 i4 i5
  least : Least m i0 i1 i2 i3 i4 i5
  k : k = many m i0 i1 i2 i3 i4 i5
  e0 : b0 = if i0 = m then 1 else 0
  e1 : b1 = if i1 = m then 1 else 0
  e2 : b2 = if i2 = m then 1 else 0
  e3 : b3 = if i3 = m then 1 else 0
  e4 : b4 = if i4 = m then 1 else 0
  e5 : b5 = if i5 = m then 1 else 0
  hm : m ≤ 4095
  h0 : i0 ≤ 4095
  h1 : i1 ≤ 4095
  h2 : i2 ≤ 4095
  h3 : i3 ≤ 4095
  h4 : i4 ≤ 4095
  h5 : i5 ≤ 4095
theorem two_make (w6 : World) (ta tb : TypeId) (za zb : Value) : ∃ ib mb w8, ib = w6.heap.size ∧ mb = w6.heap.size + 1 ∧ (w6.alloc (.cells (zeros 6 za) ta)).heap.size = mb ∧ w8 = (w6.alloc (.cells (zeros 6 za) ta)).alloc (.cells (zeros 6 zb) tb) ∧ Arr w8 ta ib (rowV (fun _ => za) 6) ∧ Arr w8 tb mb (rowV (fun _ => zb) 6) ∧ Below w6.heap.size w6 w8 ∧ ib ≠ mb := by
  refine ⟨_, _, _, rfl, rfl, by simp, rfl, ?_, ?_, ((Below.refl _ _).alloc (Nat.le_refl _) _).alloc (by simp) _, by omega⟩
  · rw [rowV_const]
    have h1 := Arr.new w6 ta (List.replicate 6 za)
    exact h1.below (B := (w6.alloc (.cells (zeros 6 za) ta)).heap.size) ((Below.refl _ _).alloc (Nat.le_refl _) _) (by simp)
  · rw [rowV_const]
    have h1 := Arr.new (w6.alloc (.cells (zeros 6 za) ta)) tb (List.replicate 6 zb)
    have e : (w6.alloc (.cells (zeros 6 za) ta)).heap.size = w6.heap.size + 1 := by simp
    rw [e] at h1
    exact h1
section
variable {mode p n m k i0 i1 i2 i3 i4 i5 b0 b1 b2 b3 b4 b5 : Nat} {msg : List Nat}
theorem FinN.ret4 (h : FinN mode msg p n m k i0 i1 i2 i3 i4 i5 b0 b1 b2 b3 b4 b5) (hn : 0 < n ∧ p + n ≤ msg.length) (hl : ¬ Low i0 i1 i2 i3 i4) (hK : p + n = msg.length ∨ 4 ≤ n) (hk : k = 1 ∧ 0 < b4) : Look msg p mode 4 := by
  obtain ⟨h1, h2⟩ := hk
  have e : i4 = m := by
    rcases Nat.decEq i4 m with hne | he
    · rw [h.e4, if_neg hne] at h2; omega
    · exact he
  exact h.ints.look hn.1 hn.2 hl hK (by omega) (fun e => by omega) fun _ => one4 (by rw [← h.k]; exact h1) e h.least
theorem FinN.ret3 (h : FinN mode msg p n m k i0 i1 i2 i3 i4 i5 b0 b1 b2 b3 b4 b5) (hn : 0 < n ∧ p + n ≤ msg.length) (hl : ¬ Low i0 i1 i2 i3 i4) (hK : p + n = msg.length ∨ 4 ≤ n) (hk : k = 1 ∧ 0 < b3) : Look msg p mode 3 := by
  obtain ⟨h1, h2⟩ := hk
  have e : i3 = m := by
    rcases Nat.decEq i3 m with hne | he
    · rw [h.e3, if_neg hne] at h2; omega
    · exact he
  exact h.ints.look hn.1 hn.2 hl hK (by omega) (fun _ => .inl (one3 (by rw [← h.k]; exact h1) e h.least)) fun e => by omega
theorem FinN.retX (h : FinN mode msg p n m k i0 i1 i2 i3 i4 i5 b0 b1 b2 b3 b4 b5) (hn : 0 < n ∧ p + n ≤ msg.length) (hl : ¬ Low i0 i1 i2 i3 i4) (hK : p + n = msg.length ∨ 4 ≤ n) {q : Nat} (h1 : p ≤ q) (h2 : q < msg.length) (h3 : isS (nth msg q) = true) : Look msg p mode 3 :=
  h.ints.look hn.1 hn.2 hl hK (by omega) (fun _ => .inr ⟨q, h1, h2, h3⟩) fun e => by omega
theorem FinN.ret12 (h : FinN mode msg p n m k i0 i1 i2 i3 i4 i5 b0 b1 b2 b3 b4 b5) (hn : 0 < n ∧ p + n ≤ msg.length) (hl : ¬ Low i0 i1 i2 i3 i4) (hK : p + n = msg.length ∨ 4 ≤ n) {r : Nat} (hr : r = 1 ∨ r = 2) : Look msg p mode r :=
  h.ints.look hn.1 hn.2 hl hK (by omega) (fun e => by omega) fun e => by omega
end
theorem fin_make {w w6 w8 w9 : World} {mode : Nat} {msg : List Nat} {p n A C T X E B ib mb m : Nat} (hn : n ≤ 1000) (h : Cts w w6 mode msg p n A C T X E B) (h6 : Below w6.heap.size w6 w8) (hib : w6.heap.size ≤ ib) (hmb : w6.heap.size ≤ mb)
    (h1 : (∀ j, j < 6 → m ≤ ci (z6 A C T X E B) j) ∧ ∃ j, j < 6 ∧ ci (z6 A C T X E B) j = m) (hi : Arr w9 3 ib (rowV (fun j => .int .i64 (ci (z6 A C T X E B) j : Nat)) 6)) (hm : Arr w9 5 mb (rowV (fun j => .int .u8 (ms (z6 A C T X E B) 6 m j : Nat)) 6)) (hmod : Mod (fun b => b = ib ∨ b = mb) w8 w9) :
    ∃ i0 i1 i2 i3 i4 i5 b0 b1 b2 b3 b4 b5, FinM w w9 mode msg p n A C T X E B ib mb m i0 i1 i2 i3 i4 i5 b0 b1 b2 b3 b4 b5 ∧ FinN mode msg p n m (sm (ms (z6 A C T X E B) 6 m) 6) i0 i1 i2 i3 i4 i5 b0 b1 b2 b3 b4 b5 := by
  obtain ⟨f1, f2⟩ := fin_facts h1.1 h1.2
  have hw := cnt_words hn h.1
  have hle : ∀ j, j < 6 → ci (z6 A C T X E B) j ≤ 4095 := fun j hj => ci_le (hw j hj).1 (hw j hj).2
  have hB : Below w.heap.size w w9 := by
    have := h.2.2
    have hb := this.trans (⟨h6.os, h6.tape, h6.output, h6.size, fun i hi => h6.block i (by have := this.size; omega)⟩ : Below w.heap.size w6 w8)
    exact hb.trans ⟨hmod.os, hmod.tape, hmod.output, hmod.size, fun i hi => hmod.block i (by have := hb.size; omega) (by have := this.size; omega)⟩
  have hA : Arr w9 135 w.heap.size (fl6 A C T X E B) := by
    have := h.2.1
    exact (this.below h6 this.lt).mod hmod (by have := this.lt; omega)
  have hE : ∀ j, ms (z6 A C T X E B) 6 m j = if j < 6 ∧ ci (z6 A C T X E B) j = m then 1 else 0 := fun j => rfl
  refine ⟨ci (z6 A C T X E B) 0, ci (z6 A C T X E B) 1, ci (z6 A C T X E B) 2, ci (z6 A C T X E B) 3, ci (z6 A C T X E B) 4, ci (z6 A C T X E B) 5, ms (z6 A C T X E B) 6 m 0, ms (z6 A C T X E B) 6 m 1, ms (z6 A C T X E B) 6 m 2, ms (z6 A C T X E B) 6 m 3, ms (z6 A C T X E B) 6 m 4, ms (z6 A C T X E B) 6 m 5, ⟨⟨h.1, hA, hB⟩, hi, hm⟩, h.1.ints hn, f1, f2, ?_, ?_, ?_, ?_, ?_, ?_, ?_, hle 0 (by omega), hle 1 (by omega), hle 2 (by omega), hle 3 (by omega), hle 4 (by omega), hle 5 (by omega)⟩
  · rw [hE]; simp
  · rw [hE]; simp
  · rw [hE]; simp
  · rw [hE]; simp
  · rw [hE]; simp
  · rw [hE]; simp
  · have := hle 0 (by omega); have := f1.1.1; omega
/-- What holds at the loop. -/
def lkI (w : World) (A0 : Option Addr) (L cap p mode cB : Nat) (msg : List Nat) (k : Nat) (a : Act) (wr : World) : Prop :=
  ∃ (n A C T X E B : Nat) (u : Nat → Value), (n + p ≤ L ∧ k = 1000 - n ∧ Cts w wr mode msg p n A C T X E B) ∧ a = lkF A0 L cap p mode cB n u
set_option maxRecDepth 100000 in
set_option maxHeartbeats 16000000 in
theorem lookAhead (w : World) (A0 : Option Addr) (cap : Nat) (msg : List Nat) (p mode : Nat) (hlen : msg.length ≤ 1000) (hm : mode ≤ 4) (hp : p ≤ 2000) (hb : ∀ i, i < msg.length → nth msg i < 128) (hR : Rd w A0 msg.length (fun j => .int .u8 (nth msg j : Nat))) :
    Calls Tryz.prog 105 #[.slice A0 msg.length cap, .int .i64 p, .int .i64 mode] w (AheadPost msg p mode w) := by
  have hst : ∀ (W : World) (a : Addr) (x : Nat) (m : Mode), (store a (.float .f64 x) m).run Tryz.prog W = stored Tryz.prog W a (.float .f64 x) m := fun W a x m => run_store Tryz.prog W a _ m rfl
  obtain ⟨L, hL⟩ : ∃ L, L = msg.length := ⟨_, rfl⟩
  have HL := Lib.hid hL
  have HR := Lib.hid hR
  have HB := Lib.hid hb
  rw [← hL] at hlen ⊢
  have hb0 : Below w.heap.size w w := Below.refl _ _
  have HW0 := Lib.hid hb0
  clear hR hb hL hb0
  by_cases hpl : L ≤ p
  · have hpl' : (L : Int) ≤ (p : Int) := by omega
    have HQ := Lib.hid (Look.over hm (show msg.length ≤ p by have := HL.out; omega))
    go_enter Tryz.func105, Tryz.ntmps105
    go_wp2_with fail
    go_ret
    exact ⟨mode, rfl, HQ, HW0⟩
  · have hpl' : (p : Int) < (L : Int) := by omega
    obtain ⟨cB, hcB⟩ : ∃ cB, cB = w.heap.size := ⟨_, rfl⟩
    have HCB := Lib.hid hcB
    clear hcB
    go_enter Tryz.func105, Tryz.ntmps105
    go_upto_if 25 with (fail)
    go_cut [7] from 26 to 30 (fun v wx => v = .slice (some ⟨cB, 0, none⟩) 6 6 ∧ ∃ A C T X E B : Nat, Hid (Cts w wx mode msg p 0 A C T X E B))
    case first =>
      --[start
      rcases (show mode = 0 ∨ mode = 1 ∨ mode = 2 ∨ mode = 3 ∨ mode = 4 by omega) with rfl | rfl | rfl | rfl | rfl
      · go_wp2_with fail
        go_meet
        case rel => exact ⟨by rw [HCB.out], _, _, _, _, _, _, Lib.hid ⟨Cnt.start0 _, Arr.new w 135 (fl6 0 kOne kOne kOne kOne k125), (Below.refl _ _).alloc (Nat.le_refl _) _⟩⟩
      · have hne : (((1 : Nat) : Int) == 0) = false := by decide
        go_wp2_with fail
        go_meet
        case rel => exact ⟨by rw [HCB.out], _, _, _, _, _, _, Lib.hid ⟨Cnt.start1 _ (by omega) (by omega), Arr.new w 135 (fl6 kOne 0 kTwo kTwo kTwo k225), (Below.refl _ _).alloc (Nat.le_refl _) _⟩⟩
      · have hne : (((2 : Nat) : Int) == 0) = false := by decide
        go_wp2_with fail
        go_meet
        case rel => exact ⟨by rw [HCB.out], _, _, _, _, _, _, Lib.hid ⟨Cnt.start1 _ (by omega) (by omega), Arr.new w 135 (fl6 kOne kTwo 0 kTwo kTwo k225), (Below.refl _ _).alloc (Nat.le_refl _) _⟩⟩
      · have hne : (((3 : Nat) : Int) == 0) = false := by decide
        go_wp2_with fail
        go_meet
        case rel => exact ⟨by rw [HCB.out], _, _, _, _, _, _, Lib.hid ⟨Cnt.start1 _ (by omega) (by omega), Arr.new w 135 (fl6 kOne kTwo kTwo 0 kTwo k225), (Below.refl _ _).alloc (Nat.le_refl _) _⟩⟩
      · have hne : (((4 : Nat) : Int) == 0) = false := by decide
        go_wp2_with fail
        go_meet
        case rel => exact ⟨by rw [HCB.out], _, _, _, _, _, _, Lib.hid ⟨Cnt.start1 _ (by omega) (by omega), Arr.new w 135 (fl6 kOne kTwo kTwo kTwo 0 k225), (Below.refl _ _).alloc (Nat.le_refl _) _⟩⟩
      --]start
    case rest =>
      obtain ⟨rfl, A, C, T, X, E, B, HC0⟩ := hcut
      go_wp2_with fail
      refine wp_loop_ghost_k (lkI w A0 L cap p mode cB msg) 1000 ⟨0, A, C, T, X, E, B, _, ⟨by omega, rfl, HC0.out⟩, lk_intro rfl rfl rfl rfl rfl rfl⟩ ?_
      intro k0 a0 wo hI J K hJ hK
      obtain ⟨n, A, C, T, X, E, B, u, ⟨hn, hk, HC0⟩, rfl⟩ := hI
      have HC := Lib.hid HC0
      have HK := Lib.hid hk
      clear HC0 hk
      unfold lkF
      obtain ⟨pn, hpn⟩ : ∃ pn, pn = p + n := ⟨_, rfl⟩
      have wpn : IntKind.i64.wrap ((p : Int) + (n : Int)) = (pn : Int) := by rw [IntKind.wrap_i64]; omega
      have HPN := Lib.hid hpn
      by_cases hlt : pn < L
      · have hpn1 : (pn : Int) < (L : Int) := by omega
        have hpn0 : (0 : Int) ≤ (pn : Int) := by omega
        have hpnb : ((pn : Int) == (L : Int)) = false := by simp; omega
        have hn1 : (n : Int) ≤ 1000 := by omega
        obtain ⟨c, hc⟩ : ∃ c, c = nth msg pn := ⟨_, rfl⟩
        have hc128 : c < 128 := by rw [hc]; exact HB.out pn (by rw [← HL.out]; exact hlt)
        have HRb := (HR.out.below HC.out.2.2)
        obtain ⟨b0, off, rfl, hb0, hcl⟩ := HRb (by rw [← HL.out]; omega)
        have cc := hcl pn (by rw [← HL.out]; exact hlt)
        dsimp only at cc
        rw [← hc] at cc
        have HCC := Lib.hid hc
        clear hc hpn hb0 hcl HRb
        go_wp2_with fail
        --[body
        have HA : Hid (Arr wo 135 cB (fl6 A C T X E B)) := Lib.hid (by rw [HCB.out]; exact HC.out.2.1)
        have hn2 : n ≤ 1000 := by omega
        obtain ⟨A1, hA1⟩ : ∃ z, z = stA c A := ⟨_, rfl⟩
        have HSA := Lib.hid hA1
        clear hA1
        obtain ⟨C1, hC1⟩ : ∃ z, z = stC c C := ⟨_, rfl⟩
        have HSC := Lib.hid hC1
        clear hC1
        obtain ⟨T1, hT1⟩ : ∃ z, z = stT c T := ⟨_, rfl⟩
        have HST := Lib.hid hT1
        clear hT1
        obtain ⟨X1, hX1⟩ : ∃ z, z = stX c X := ⟨_, rfl⟩
        have HSX := Lib.hid hX1
        clear hX1
        obtain ⟨E1, hE1⟩ : ∃ z, z = stE c E := ⟨_, rfl⟩
        have HSE := Lib.hid hE1
        clear hE1
        obtain ⟨B1, hB1⟩ : ∃ z, z = stB B := ⟨_, rfl⟩
        have HSB := Lib.hid hB1
        clear hB1
        refine (isDigit c hc128 _).mono ?_
        rintro e w' ⟨rfl, rfl⟩
        obtain ⟨d, hd⟩ : ∃ d, d = isD c := ⟨_, rfl⟩
        rw [← hd]
        have HD := Lib.hid hd
        clear hd
        go_upto_if 92 with (fail)
        go_cut [] from 93 to 121 (fun wx => Hid (Arr wx 135 cB (fl6 A1 C T X E B)) ∧ Hid (Mod (· = cB) wo wx))
        case first =>
          --[L
          have a0 := HA.out.cell? 0
          have f0 := HA.out.free 0
          simp only [fl6, List.getElem?_cons_zero] at a0
          cases d
          · have had := fun W => fadd_run (addOne hn2 (ceilW_le hn2 HC.out.1.a).2.2) W
            have hce := fun W => ceil_walk A HC.out.1.a.1 W
            obtain ⟨y, hy⟩ : ∃ y, y = ceilW A := ⟨_, rfl⟩
            obtain ⟨A2, hA2⟩ : ∃ A2, A2 = fadd (ceilW A) kOne := ⟨_, rfl⟩
            have HQ : Hid (Arr ((wo.setCell ⟨cB, 0, none⟩ (.float .f64 y)).setCell ⟨cB, 0, none⟩ (.float .f64 A2)) 135 cB (fl6 A1 C T X E B)) := Lib.hid (by
              rw [HSA.out]; unfold stA; rw [← HD.out, if_neg (by decide), ← hA2]
              exact (HA.out.set_ 0 (.float .f64 y)).set_ 0 (.float .f64 A2))
            have HM : Hid (Mod (· = cB) wo ((wo.setCell ⟨cB, 0, none⟩ (.float .f64 y)).setCell ⟨cB, 0, none⟩ (.float .f64 A2))) := Lib.hid ((Mod.set1 wo cB 0 _).trans (Mod.set1 _ cB 0 _))
            rw [← hA2, ← hy] at had
            rw [← hy] at hce
            unfold kOne at had
            clear hA2 hy
            go_wp2_with fail
            refine (isExt c hc128 _).mono ?_
            rintro e w' ⟨rfl, rfl⟩
            go_wp2_with (go_at_call 111; refine (hce _).mono ?_; rintro e w' ⟨rfl, rfl⟩)
            go_meet
            case rel => exact ⟨HQ, HM⟩
          · have had := fun W => fadd_run (addHalf hn2 HC.out.1.a) W
            obtain ⟨A2, hA2⟩ : ∃ A2, A2 = fadd A kHalf := ⟨_, rfl⟩
            have HQ : Hid (Arr (wo.setCell ⟨cB, 0, none⟩ (.float .f64 A2)) 135 cB (fl6 A1 C T X E B)) := Lib.hid (by
              rw [HSA.out]; unfold stA; rw [← HD.out, if_pos rfl, ← hA2]
              exact HA.out.set_ 0 (.float .f64 A2))
            have HM := Lib.hid (Mod.set1 wo cB 0 (.float .f64 A2))
            rw [← hA2] at had
            unfold kHalf at had
            clear hA2
            go_wp2_with fail
            go_meet
            case rel => exact ⟨HQ, HM⟩
          --]L
        case rest =>
          obtain ⟨w1, hw1⟩ : ∃ wz, wz = wc := ⟨_, rfl⟩
          rw [← hw1] at hcut ⊢
          clear hw1
          obtain ⟨HA1, HM1⟩ := hcut
          go_wp2_with fail
          refine (isNatC c hc128 _).mono ?_
          rintro e w' ⟨rfl, rfl⟩
          obtain ⟨d0, hd⟩ : ∃ d, d = isC c := ⟨_, rfl⟩
          rw [← hd]
          have HD0 := Lib.hid hd
          clear hd
          go_upto_if 123 with (fail)
          go_cut [] from 124 to 140 (fun wx => Hid (Arr wx 135 cB (fl6 A1 C1 T X E B)) ∧ Hid (Mod (· = cB) wo wx))
          case first =>
            --[SC
            have a0 := HA1.out.cell? 1
            have f0 := HA1.out.free 1
            simp only [fl6, List.getElem?_cons_zero, List.getElem?_cons_succ] at a0
            cases d0
            · have had := fun W => fadd_run (add43 hn2 HC.out.1.c) W
              obtain ⟨A2, hA2⟩ : ∃ A2, A2 = fadd C k43 := ⟨_, rfl⟩
              have HQ : Hid (Arr (w1.setCell ⟨cB, 1, none⟩ (.float .f64 A2)) 135 cB (fl6 A1 C1 T X E B)) := Lib.hid (by
                rw [HSC.out]; unfold stC; rw [← HD0.out, if_neg (by decide), ← hA2]
                exact HA1.out.set_ 1 (.float .f64 A2))
              have HM := Lib.hid (HM1.out.trans (Mod.set1 w1 cB 1 (.float .f64 A2)))
              rw [← hA2] at had
              unfold k43 at had
              clear hA2
              go_wp2_with fail
              refine (isExt c hc128 _).mono ?_
              rintro e w' ⟨rfl, rfl⟩
              go_wp2_with fail
              go_meet
              case rel => exact ⟨HQ, HM⟩
            · have had := fun W => fadd_run (add23 hn2 HC.out.1.c) W
              obtain ⟨A2, hA2⟩ : ∃ A2, A2 = fadd C k23 := ⟨_, rfl⟩
              have HQ : Hid (Arr (w1.setCell ⟨cB, 1, none⟩ (.float .f64 A2)) 135 cB (fl6 A1 C1 T X E B)) := Lib.hid (by
                rw [HSC.out]; unfold stC; rw [← HD0.out, if_pos rfl, ← hA2]
                exact HA1.out.set_ 1 (.float .f64 A2))
              have HM := Lib.hid (HM1.out.trans (Mod.set1 w1 cB 1 (.float .f64 A2)))
              rw [← hA2] at had
              unfold k23 at had
              clear hA2
              go_wp2_with fail
              go_meet
              case rel => exact ⟨HQ, HM⟩
            --]SC
          case rest =>
            obtain ⟨w2, hw2⟩ : ∃ wz, wz = wc := ⟨_, rfl⟩
            rw [← hw2] at hcut ⊢
            clear hw2
            obtain ⟨HA2, HM2⟩ := hcut
            go_wp2_with fail
            refine (isNatT c hc128 _).mono ?_
            rintro e w' ⟨rfl, rfl⟩
            obtain ⟨d1, hd⟩ : ∃ d, d = isT c := ⟨_, rfl⟩
            rw [← hd]
            have HD1 := Lib.hid hd
            clear hd
            go_upto_if 142 with (fail)
            go_cut [] from 143 to 159 (fun wx => Hid (Arr wx 135 cB (fl6 A1 C1 T1 X E B)) ∧ Hid (Mod (· = cB) wo wx))
            case first =>
              --[ST
              have a0 := HA2.out.cell? 2
              have f0 := HA2.out.free 2
              simp only [fl6, List.getElem?_cons_zero, List.getElem?_cons_succ] at a0
              cases d1
              · have had := fun W => fadd_run (add43 hn2 HC.out.1.t) W
                obtain ⟨A2, hA2⟩ : ∃ A2, A2 = fadd T k43 := ⟨_, rfl⟩
                have HQ : Hid (Arr (w2.setCell ⟨cB, 2, none⟩ (.float .f64 A2)) 135 cB (fl6 A1 C1 T1 X E B)) := Lib.hid (by
                  rw [HST.out]; unfold stT; rw [← HD1.out, if_neg (by decide), ← hA2]
                  exact HA2.out.set_ 2 (.float .f64 A2))
                have HM := Lib.hid (HM2.out.trans (Mod.set1 w2 cB 2 (.float .f64 A2)))
                rw [← hA2] at had
                unfold k43 at had
                clear hA2
                go_wp2_with fail
                refine (isExt c hc128 _).mono ?_
                rintro e w' ⟨rfl, rfl⟩
                go_wp2_with fail
                go_meet
                case rel => exact ⟨HQ, HM⟩
              · have had := fun W => fadd_run (add23 hn2 HC.out.1.t) W
                obtain ⟨A2, hA2⟩ : ∃ A2, A2 = fadd T k23 := ⟨_, rfl⟩
                have HQ : Hid (Arr (w2.setCell ⟨cB, 2, none⟩ (.float .f64 A2)) 135 cB (fl6 A1 C1 T1 X E B)) := Lib.hid (by
                  rw [HST.out]; unfold stT; rw [← HD1.out, if_pos rfl, ← hA2]
                  exact HA2.out.set_ 2 (.float .f64 A2))
                have HM := Lib.hid (HM2.out.trans (Mod.set1 w2 cB 2 (.float .f64 A2)))
                rw [← hA2] at had
                unfold k23 at had
                clear hA2
                go_wp2_with fail
                go_meet
                case rel => exact ⟨HQ, HM⟩
              --]ST
            case rest =>
              obtain ⟨w3, hw3⟩ : ∃ wz, wz = wc := ⟨_, rfl⟩
              rw [← hw3] at hcut ⊢
              clear hw3
              obtain ⟨HA3, HM3⟩ := hcut
              go_wp2_with fail
              refine (isNatX c hc128 _).mono ?_
              rintro e w' ⟨rfl, rfl⟩
              obtain ⟨d2, hd⟩ : ∃ d, d = isX c := ⟨_, rfl⟩
              rw [← hd]
              have HD2 := Lib.hid hd
              clear hd
              go_upto_if 161 with (fail)
              go_cut [] from 162 to 178 (fun wx => Hid (Arr wx 135 cB (fl6 A1 C1 T1 X1 E B)) ∧ Hid (Mod (· = cB) wo wx))
              case first =>
                --[SX
                have a0 := HA3.out.cell? 3
                have f0 := HA3.out.free 3
                simp only [fl6, List.getElem?_cons_zero, List.getElem?_cons_succ] at a0
                cases d2
                · have had := fun W => fadd_run (add103 hn2 HC.out.1.x) W
                  obtain ⟨A2, hA2⟩ : ∃ A2, A2 = fadd X k103 := ⟨_, rfl⟩
                  have HQ : Hid (Arr (w3.setCell ⟨cB, 3, none⟩ (.float .f64 A2)) 135 cB (fl6 A1 C1 T1 X1 E B)) := Lib.hid (by
                    rw [HSX.out]; unfold stX; rw [← HD2.out, if_neg (by decide), ← hA2]
                    exact HA3.out.set_ 3 (.float .f64 A2))
                  have HM := Lib.hid (HM3.out.trans (Mod.set1 w3 cB 3 (.float .f64 A2)))
                  rw [← hA2] at had
                  unfold k103 at had
                  clear hA2
                  go_wp2_with fail
                  refine (isExt c hc128 _).mono ?_
                  rintro e w' ⟨rfl, rfl⟩
                  go_wp2_with fail
                  go_meet
                  case rel => exact ⟨HQ, HM⟩
                · have had := fun W => fadd_run (add23 hn2 HC.out.1.x) W
                  obtain ⟨A2, hA2⟩ : ∃ A2, A2 = fadd X k23 := ⟨_, rfl⟩
                  have HQ : Hid (Arr (w3.setCell ⟨cB, 3, none⟩ (.float .f64 A2)) 135 cB (fl6 A1 C1 T1 X1 E B)) := Lib.hid (by
                    rw [HSX.out]; unfold stX; rw [← HD2.out, if_pos rfl, ← hA2]
                    exact HA3.out.set_ 3 (.float .f64 A2))
                  have HM := Lib.hid (HM3.out.trans (Mod.set1 w3 cB 3 (.float .f64 A2)))
                  rw [← hA2] at had
                  unfold k23 at had
                  clear hA2
                  go_wp2_with fail
                  go_meet
                  case rel => exact ⟨HQ, HM⟩
                --]SX
              case rest =>
                obtain ⟨w4, hw4⟩ : ∃ wz, wz = wc := ⟨_, rfl⟩
                rw [← hw4] at hcut ⊢
                clear hw4
                obtain ⟨HA4, HM4⟩ := hcut
                go_wp2_with fail
                refine (isNatE c hc128 _).mono ?_
                rintro e w' ⟨rfl, rfl⟩
                obtain ⟨d3, hd⟩ : ∃ d, d = isE c := ⟨_, rfl⟩
                rw [← hd]
                have HD3 := Lib.hid hd
                clear hd
                go_upto_if 180 with (fail)
                go_cut [] from 181 to 197 (fun wx => Hid (Arr wx 135 cB (fl6 A1 C1 T1 X1 E1 B)) ∧ Hid (Mod (· = cB) wo wx))
                case first =>
                  --[SE
                  have a0 := HA4.out.cell? 4
                  have f0 := HA4.out.free 4
                  simp only [fl6, List.getElem?_cons_zero, List.getElem?_cons_succ] at a0
                  cases d3
                  · have had := fun W => fadd_run (add134 hn2 HC.out.1.e) W
                    obtain ⟨A2, hA2⟩ : ∃ A2, A2 = fadd E k134 := ⟨_, rfl⟩
                    have HQ : Hid (Arr (w4.setCell ⟨cB, 4, none⟩ (.float .f64 A2)) 135 cB (fl6 A1 C1 T1 X1 E1 B)) := Lib.hid (by
                      rw [HSE.out]; unfold stE; rw [← HD3.out, if_neg (by decide), ← hA2]
                      exact HA4.out.set_ 4 (.float .f64 A2))
                    have HM := Lib.hid (HM4.out.trans (Mod.set1 w4 cB 4 (.float .f64 A2)))
                    rw [← hA2] at had
                    unfold k134 at had
                    clear hA2
                    go_wp2_with fail
                    refine (isExt c hc128 _).mono ?_
                    rintro e w' ⟨rfl, rfl⟩
                    go_wp2_with fail
                    go_meet
                    case rel => exact ⟨HQ, HM⟩
                  · have had := fun W => fadd_run (add34 hn2 HC.out.1.e) W
                    obtain ⟨A2, hA2⟩ : ∃ A2, A2 = fadd E k34 := ⟨_, rfl⟩
                    have HQ : Hid (Arr (w4.setCell ⟨cB, 4, none⟩ (.float .f64 A2)) 135 cB (fl6 A1 C1 T1 X1 E1 B)) := Lib.hid (by
                      rw [HSE.out]; unfold stE; rw [← HD3.out, if_pos rfl, ← hA2]
                      exact HA4.out.set_ 4 (.float .f64 A2))
                    have HM := Lib.hid (HM4.out.trans (Mod.set1 w4 cB 4 (.float .f64 A2)))
                    rw [← hA2] at had
                    unfold k34 at had
                    clear hA2
                    go_wp2_with fail
                    go_meet
                    case rel => exact ⟨HQ, HM⟩
                  --]SE
                case rest =>
                  obtain ⟨w5, hw5⟩ : ∃ wz, wz = wc := ⟨_, rfl⟩
                  rw [← hw5] at hcut ⊢
                  clear hw5
                  obtain ⟨HA5, HM5⟩ := hcut
                  have a0 := HA5.out.cell? 5
                  have f0 := HA5.out.free 5
                  simp only [fl6, List.getElem?_cons_zero, List.getElem?_cons_succ] at a0
                  have had := fun W => fadd_run (addOne hn2 HC.out.1.b) W
                  have HCt : Hid (Cts w (w5.setCell ⟨cB, 5, none⟩ (.float .f64 B1)) mode msg p (n + 1) A1 C1 T1 X1 E1 B1) := Lib.hid (by
                    have h1 := HC.out.1.step (by omega) hn2
                    have e : nth msg (p + n) = c := by rw [HCC.out, HPN.out]
                    rw [e] at h1
                    have h2 := HA5.out.set_ 5 (.float .f64 B1)
                    have h3 := HM5.out.trans (Mod.set1 w5 cB 5 (.float .f64 B1))
                    refine ⟨by rw [HSA.out, HSC.out, HST.out, HSX.out, HSE.out, HSB.out]; exact h1, by rw [← HCB.out]; exact h2, HC.out.2.2.trans ⟨h3.os, h3.tape, h3.output, h3.size, fun i hi => h3.block i (by have := HC.out.2.2.size; omega) (by have := HCB.out; omega)⟩⟩)
                  have eB : fadd B kOne = B1 := by rw [HSB.out]; rfl
                  rw [eB] at had
                  unfold kOne at had
                  clear eB
                  go_wp2_with fail
                  refine (isB256 c hc128 _).mono ?_
                  rintro e w' ⟨rfl, rfl⟩
                  obtain ⟨n1, hn1'⟩ : ∃ n1, n1 = n + 1 := ⟨_, rfl⟩
                  have en1 : (n : Int) + 1 = (n1 : Int) := by omega
                  have HN1 := Lib.hid hn1'
                  have hn1l : n1 ≤ 1000 := by have := HPN.out; omega
                  rw [← hn1'] at HCt
                  rw [en1]
                  clear hn1' hn1
                  obtain ⟨w6, hw6⟩ : ∃ wz, wz = w5.setCell ⟨cB, 5, none⟩ (.float .f64 B1) := ⟨_, rfl⟩
                  rw [← hw6] at HCt
                  by_cases h4 : 4 ≤ n1
                  · have h4' : (4 : Int) ≤ (n1 : Int) := by omega
                    have hmM := fun X => run_make1 (P := Tryz.prog) 24 5 (.int .u8 0) 1 Tryz.underlying24 Tryz.infoU8 rfl (by decide) 6 (by omega) .i64 .i64 6 rfl X
                    have hmI := fun X => run_make1 (P := Tryz.prog) 99 3 (.int .i64 0) 8 Tryz.underlying99 Tryz.infoInt rfl (by decide) 6 (by omega) .i64 .i64 6 rfl X
                    have HW6 := Lib.hid hw6
                    clear hw6 HA HA1 HA2 HA3 HA4 HA5 HM1 HM2 HM3 HM4 HM5 HD HD0 HD1 HD2 HD3 HSA HSC HST HSX HSE HSB HC
                    go_wp2_with fail
                    have hsz : w6.heap.size = w5.heap.size := by rw [HW6.out]; simp [World.setCell]
                    rw [← HW6.out, ← hsz]
                    clear HW6 a0 f0 had hsz
                    --[R
                    obtain ⟨ib, mb, w8, hib, hmb, hs7, hw8, HI8, HM8, h68, hne⟩ := two_make w6 3 5 (.int .i64 0) (.int .u8 0)
                    rw [← hw8, ← hmb]
                    rw [← hib]
                    have hcl : cB < w6.heap.size := by have := HCt.out.2.1.lt; rw [HCB.out]; exact this
                    have HC8 : Arr w8 135 cB (rowV (fun j => .float .f64 (z6 A1 C1 T1 X1 E1 B1 j)) 6) := by
                      rw [z6_row, HCB.out]; exact HCt.out.2.1.below h68 HCt.out.2.1.lt
                    have HIB := Lib.hid (And.intro hib (And.intro hmb (And.intro h68 hne)))
                    refine (findMins w8 cB ib mb 6 6 6 (z6 A1 C1 T1 X1 E1 B1) (cnt_words hn1l HCt.out.1) (by omega) (by omega) hne HC8 HI8 HM8).mono ?_
                    rintro e w9 ⟨m, rfl, HQ9, HI9, HM9, HD9⟩
                    clear hib hmb hs7 hw8 HI8 HM8 h68 hne HC8 hcl hmM hmI
                    go_wp2_with fail
                    --[R2
                    refine (minCount w9 mb 6 (ms (z6 A1 C1 T1 X1 E1 B1) 6 m) (ms_le _ _ _) HM9.out).mono ?_
                    rintro e w' ⟨rfl, rfl⟩
                    obtain ⟨i0, i1, i2, i3, i4, i5, b0', b1, b2, b3, b4, b5, HF, HNN⟩ := fin_make hn1l HCt.out HIB.out.2.2.1 (by have := HIB.out; omega) (by have := HIB.out; omega) HQ9.out HI9.out HM9.out HD9.out
                    obtain ⟨k, hk⟩ : ∃ k, k = sm (ms (z6 A1 C1 T1 X1 E1 B1) 6 m) 6 := ⟨_, rfl⟩
                    rw [← hk] at HNN ⊢
                    have HFM := Lib.hid HF
                    have HFN := Lib.hid HNN
                    clear hk HQ9 HI9 HM9 HD9 HCt HIB HF HNN
                    have a0 := HFM.out.ia.cell? 0
                    have a1 := HFM.out.ia.cell? 1
                    have a2 := HFM.out.ia.cell? 2
                    have a3 := HFM.out.ia.cell? 3
                    have a4 := HFM.out.ia.cell? 4
                    have a5 := HFM.out.ia.cell? 5
                    have c1 := HFM.out.ma.cell? 1
                    have c2 := HFM.out.ma.cell? 2
                    have c3 := HFM.out.ma.cell? 3
                    have c4 := HFM.out.ma.cell? 4
                    simp only [List.getElem?_cons_zero, List.getElem?_cons_succ] at a0 a1 a2 a3 a4 a5 c1 c2 c3 c4
                    have l0 := HFN.out.h0
                    have l1 := HFN.out.h1
                    have l2 := HFN.out.h2
                    have l3 := HFN.out.h3
                    have l4 := HFN.out.h4
                    have l5 := HFN.out.h5
                    have hab : i0 < i5 := HFN.out.ints.ab
                    go_upto_region 63 with (fail)
                    go_cut [262] from 220 to 261 (fun b wx => Hid (FinM w wx mode msg p n1 A1 C1 T1 X1 E1 B1 ib mb m i0 i1 i2 i3 i4 i5 b0' b1 b2 b3 b4 b5) ∧ ∃ bb : Bool, b = .bool bb ∧ Hid (bb = true ↔ Low i0 i1 i2 i3 i4))
                    case first =>
                      --[c63
                      by_cases g0 : i0 < i1
                      · have q0 : (i0 < i1) = True := by simp [g0]
                        by_cases g1 : i0 < i2
                        · have q1 : (i0 < i2) = True := by simp [g1]
                          by_cases g2 : i0 < i3
                          · have q2 : (i0 < i3) = True := by simp [g2]
                            by_cases g3 : i0 < i4
                            · have q3 : (i0 < i4) = True := by simp [g3]
                              go_quiet (fail)
                              go_wp2_with fail
                              go_meet
                              case rel => exact ⟨Lib.hid (HFM.out.drewN _), true, rfl, Lib.hid ⟨fun _ => ⟨g0, g1, g2, g3⟩, fun _ => rfl⟩⟩
                            · have q3 : (i0 < i4) = False := by simp; omega
                              go_quiet (fail)
                              go_wp2_with fail
                              go_meet
                              case rel => exact ⟨Lib.hid (HFM.out.drewN _), false, rfl, Lib.hid ⟨fun h => (by cases h), fun h => absurd h.2.2.2 g3⟩⟩
                          · have q2 : (i0 < i3) = False := by simp; omega
                            go_quiet (fail)
                            go_wp2_with fail
                            go_meet
                            case rel => exact ⟨Lib.hid (HFM.out.drewN _), false, rfl, Lib.hid ⟨fun h => (by cases h), fun h => absurd h.2.2.1 g2⟩⟩
                        · have q1 : (i0 < i2) = False := by simp; omega
                          go_quiet (fail)
                          go_wp2_with fail
                          go_meet
                          case rel => exact ⟨Lib.hid (HFM.out.drewN _), false, rfl, Lib.hid ⟨fun h => (by cases h), fun h => absurd h.2.1 g1⟩⟩
                      · have q0 : (i0 < i1) = False := by simp; omega
                        go_quiet (fail)
                        go_wp2_with fail
                        go_meet
                        case rel => exact ⟨Lib.hid (HFM.out.drewN _), false, rfl, Lib.hid ⟨fun h => (by cases h), fun h => absurd h.1 g0⟩⟩
                      --]c63
                    case rest =>
                      --[R3
                      clear a0 a1 a2 a3 a4 a5 c1 c2 c3 c4 HFM
                      obtain ⟨w10, hren⟩ : ∃ wz, wz = wc := ⟨_, rfl⟩
                      rw [← hren] at hcut ⊢
                      clear hren
                      obtain ⟨HFM, bb, rfl, HLOW⟩ := hcut
                      cases bb
                      · have hnl : ¬ Low i0 i1 i2 i3 i4 := fun h => by have := HLOW.out.2 h; cases this
                        have HNL := Lib.hid hnl
                        have HLN : Hid (0 < n1 ∧ p + n1 ≤ msg.length) := Lib.hid (by have := HN1.out; have := HPN.out; have := HL.out; omega)
                        clear hnl HLOW
                        have a0 := HFM.out.ia.cell? 0
                        have a5 := HFM.out.ia.cell? 5
                        have c1 := HFM.out.ma.cell? 1
                        have c2 := HFM.out.ma.cell? 2
                        have c3 := HFM.out.ma.cell? 3
                        have c4 := HFM.out.ma.cell? 4
                        simp only [List.getElem?_cons_zero, List.getElem?_cons_succ] at a0 a5 c1 c2 c3 c4
                        have hba : (i5 < i0) = False := by simp; omega
                        have hbb : b1 ≤ 1 ∧ b2 ≤ 1 ∧ b3 ≤ 1 ∧ b4 ≤ 1 := by rw [HFN.out.e1, HFN.out.e2, HFN.out.e3, HFN.out.e4]; refine ⟨?_, ?_, ?_, ?_⟩ <;> split <;> omega
                        have hbs : ¬ (b1 = 0 ∧ b2 = 0 ∧ b3 = 0 ∧ b4 = 0) := fun ⟨z1, z2, z3, z4⟩ => by
                          rw [HFN.out.e1] at z1; rw [HFN.out.e2] at z2; rw [HFN.out.e3] at z3; rw [HFN.out.e4] at z4
                          refine HNL.out (HFN.out.ints.none4 HFN.out.least (fun e => ?_) (fun e => ?_) (fun e => ?_) (fun e => ?_))
                          · rw [if_pos e] at z1; omega
                          · rw [if_pos e] at z2; omega
                          · rw [if_pos e] at z3; omega
                          · rw [if_pos e] at z4; omega
                        obtain ⟨s1, hs1⟩ : ∃ s1, s1 = b1 + b2 := ⟨_, rfl⟩
                        obtain ⟨s2, hs2⟩ : ∃ s2, s2 = s1 + b3 := ⟨_, rfl⟩
                        obtain ⟨s3, hs3⟩ : ∃ s3, s3 = s2 + b4 := ⟨_, rfl⟩
                        have ws1 : IntKind.u8.wrap ((b1 : Int) + (b2 : Int)) = (s1 : Int) := by rw [IntKind.wrap_u8]; omega
                        have ws2 : IntKind.u8.wrap ((s1 : Int) + (b3 : Int)) = (s2 : Int) := by rw [IntKind.wrap_u8]; omega
                        have ws3 : IntKind.u8.wrap ((s2 : Int) + (b4 : Int)) = (s3 : Int) := by rw [IntKind.wrap_u8]; omega
                        have hs30 : ((s3 : Int) == 0) = false := by simp; omega
                        have hs31 : ¬ s3 = 0 := by omega
                        have HBB := Lib.hid hbb
                        clear hs1 hs2 hs3 hbs hbb
                        go_upto_region 65 with (fail)
                        go_cut [287] from 263 to 286 (fun b wx => b = .bool false ∧ Hid (FinM w wx mode msg p n1 A1 C1 T1 X1 E1 B1 ib mb m i0 i1 i2 i3 i4 i5 b0' b1 b2 b3 b4 b5))
                        case first =>
                          --[c65
                          go_quiet (fail)
                          go_wp2_with fail
                          go_meet
                          case rel => exact ⟨rfl, Lib.hid (HFM.out.drewN _)⟩
                          --]c65
                        case rest =>
                          clear a0 a5 c1 c2 c3 c4 HFM ws1 ws2 ws3 hs30 hs31 hba
                          obtain ⟨w11, hren⟩ : ∃ wz, wz = wc := ⟨_, rfl⟩
                          rw [← hren] at hcut ⊢
                          clear hren
                          obtain ⟨rfl, HFM⟩ := hcut
                          have c2 := HFM.out.ma.cell? 2
                          have c3 := HFM.out.ma.cell? 3
                          have c4 := HFM.out.ma.cell? 4
                          simp only [List.getElem?_cons_zero, List.getElem?_cons_succ] at c2 c3 c4
                          go_upto_region 67 with (fail)
                          go_cut [295] from 288 to 294 (fun b wx => w11 = wx ∧ ∃ bb : Bool, b = .bool bb ∧ Hid (bb = true → k = 1 ∧ 0 < b4))
                          case first =>
                            --[c67
                            by_cases hk1 : k = 1
                            · subst hk1
                              by_cases hbj : 0 < b4
                              · have hbj' : (0 < b4) = True := by simp [hbj]
                                go_wp2_with fail
                                go_meet
                                case rel => exact ⟨rfl, true, rfl, Lib.hid (fun _ => by first | exact ⟨rfl, hbj⟩ | exact ⟨trivial, hbj⟩)⟩
                              · have hbj' : (0 < b4) = False := by simp; omega
                                go_wp2_with fail
                                go_meet
                                case rel => exact ⟨rfl, false, rfl, Lib.hid (fun h => by cases h)⟩
                            · have hk2 : ((k : Int) == 1) = false := by simp; omega
                              go_wp2_with fail
                              go_meet
                              case rel => exact ⟨rfl, false, rfl, Lib.hid (fun h => by cases h)⟩
                            --]c67
                          case rest =>
                            obtain ⟨rfl, bb, rfl, HB3⟩ := hcut
                            cases bb
                            rotate_left
                            · --[t67
                              have HLK := Lib.hid (HFN.out.ret4 HLN.out HNL.out (.inr h4) (HB3.out rfl))
                              go_wp2_with fail
                              go_ret
                              exact ⟨4, rfl, HLK, Lib.hid HFM.out.cts.2.2⟩
                              --]t67
                            · clear HB3
                              go_upto_region 69 with (fail)
                              go_cut [303] from 296 to 302 (fun b wx => w11 = wx ∧ ∃ bb : Bool, b = .bool bb ∧ Hid (bb = true → k = 1 ∧ 0 < b2))
                              case first =>
                                --[c69
                                by_cases hk1 : k = 1
                                · subst hk1
                                  by_cases hbj : 0 < b2
                                  · have hbj' : (0 < b2) = True := by simp [hbj]
                                    go_wp2_with fail
                                    go_meet
                                    case rel => exact ⟨rfl, true, rfl, Lib.hid (fun _ => by first | exact ⟨rfl, hbj⟩ | exact ⟨trivial, hbj⟩)⟩
                                  · have hbj' : (0 < b2) = False := by simp; omega
                                    go_wp2_with fail
                                    go_meet
                                    case rel => exact ⟨rfl, false, rfl, Lib.hid (fun h => by cases h)⟩
                                · have hk2 : ((k : Int) == 1) = false := by simp; omega
                                  go_wp2_with fail
                                  go_meet
                                  case rel => exact ⟨rfl, false, rfl, Lib.hid (fun h => by cases h)⟩
                                --]c69
                              case rest =>
                                obtain ⟨rfl, bb, rfl, HB3⟩ := hcut
                                cases bb
                                rotate_left
                                · --[t69
                                  have HLK := Lib.hid (HFN.out.ret12 HLN.out HNL.out (.inr h4) (.inr rfl))
                                  go_wp2_with fail
                                  go_ret
                                  exact ⟨2, rfl, HLK, Lib.hid HFM.out.cts.2.2⟩
                                  --]t69
                                · clear HB3
                                  go_upto_region 71 with (fail)
                                  go_cut [311] from 304 to 310 (fun b wx => w11 = wx ∧ ∃ bb : Bool, b = .bool bb ∧ Hid (bb = true → k = 1 ∧ 0 < b3))
                                  case first =>
                                    --[c71
                                    by_cases hk1 : k = 1
                                    · subst hk1
                                      by_cases hbj : 0 < b3
                                      · have hbj' : (0 < b3) = True := by simp [hbj]
                                        go_wp2_with fail
                                        go_meet
                                        case rel => exact ⟨rfl, true, rfl, Lib.hid (fun _ => by first | exact ⟨rfl, hbj⟩ | exact ⟨trivial, hbj⟩)⟩
                                      · have hbj' : (0 < b3) = False := by simp; omega
                                        go_wp2_with fail
                                        go_meet
                                        case rel => exact ⟨rfl, false, rfl, Lib.hid (fun h => by cases h)⟩
                                    · have hk2 : ((k : Int) == 1) = false := by simp; omega
                                      go_wp2_with fail
                                      go_meet
                                      case rel => exact ⟨rfl, false, rfl, Lib.hid (fun h => by cases h)⟩
                                    --]c71
                                  case rest =>
                                    obtain ⟨rfl, bb, rfl, HB3⟩ := hcut
                                    cases bb
                                    rotate_left
                                    · --[t71
                                      have HLK := Lib.hid (HFN.out.ret3 HLN.out HNL.out (.inr h4) (HB3.out rfl))
                                      go_wp2_with fail
                                      go_ret
                                      exact ⟨3, rfl, HLK, Lib.hid HFM.out.cts.2.2⟩
                                      --]t71
                                    · clear HB3
                                      clear c2 c3 c4
                                      have a0 := HFM.out.ia.cell? 0
                                      have a1 := HFM.out.ia.cell? 1
                                      have a2 := HFM.out.ia.cell? 2
                                      have a4 := HFM.out.ia.cell? 4
                                      have a5 := HFM.out.ia.cell? 5
                                      simp only [List.getElem?_cons_zero, List.getElem?_cons_succ] at a0 a1 a2 a4 a5
                                      obtain ⟨j1, hj1⟩ : ∃ j1, j1 = i1 + 1 := ⟨_, rfl⟩
                                      have wj1 : IntKind.i64.wrap ((i1 : Int) + 1) = (j1 : Int) := by rw [IntKind.wrap_i64]; omega
                                      clear hj1
                                      go_upto_region 73 with (fail)
                                      go_cut [349] from 312 to 348 (fun b wx => Hid (FinM w wx mode msg p n1 A1 C1 T1 X1 E1 B1 ib mb m i0 i1 i2 i3 i4 i5 b0' b1 b2 b3 b4 b5) ∧ ∃ bb : Bool, b = .bool bb)
                                      case first =>
                                        --[c73
                                        by_cases g0 : j1 < i0
                                        · have q0 : (j1 < i0) = True := by simp [g0]
                                          by_cases g1 : j1 < i5
                                          · have q1 : (j1 < i5) = True := by simp [g1]
                                            by_cases g2 : j1 < i4
                                            · have q2 : (j1 < i4) = True := by simp [g2]
                                              by_cases g3 : j1 < i2
                                              · have q3 : (j1 < i2) = True := by simp [g3]
                                                go_quiet (fail)
                                                go_wp2_with fail
                                                go_meet
                                                case rel => exact ⟨Lib.hid (HFM.out.drewN _), true, rfl⟩
                                              · have q3 : (j1 < i2) = False := by simp; omega
                                                go_quiet (fail)
                                                go_wp2_with fail
                                                go_meet
                                                case rel => exact ⟨Lib.hid (HFM.out.drewN _), false, rfl⟩
                                            · have q2 : (j1 < i4) = False := by simp; omega
                                              go_quiet (fail)
                                              go_wp2_with fail
                                              go_meet
                                              case rel => exact ⟨Lib.hid (HFM.out.drewN _), false, rfl⟩
                                          · have q1 : (j1 < i5) = False := by simp; omega
                                            go_quiet (fail)
                                            go_wp2_with fail
                                            go_meet
                                            case rel => exact ⟨Lib.hid (HFM.out.drewN _), false, rfl⟩
                                        · have q0 : (j1 < i0) = False := by simp; omega
                                          go_quiet (fail)
                                          go_wp2_with fail
                                          go_meet
                                          case rel => exact ⟨Lib.hid (HFM.out.drewN _), false, rfl⟩
                                        --]c73
                                      case rest =>
                                        clear a0 a1 a2 a4 a5 HFM wj1 j1
                                        obtain ⟨w12, hren⟩ : ∃ wz, wz = wc := ⟨_, rfl⟩
                                        rw [← hren] at hcut ⊢
                                        clear hren
                                        obtain ⟨HFM, bb, rfl⟩ := hcut
                                        cases bb
                                        · go_wp2_with fail
                                          refine Handed.intro (1000 - n1) (by have := HK.out; have := HN1.out; have := HPN.out; omega) ?_
                                          go_step
                                          exact ⟨n1, A1, C1, T1, X1, E1, B1, _, ⟨by have := HN1.out; have := HPN.out; omega, rfl, HFM.out.cts⟩, lk_intro rfl rfl rfl rfl rfl rfl⟩
                                        · skip
                                          --[R4
                                          have a1 := HFM.out.ia.cell? 1
                                          have a3 := HFM.out.ia.cell? 3
                                          simp only [List.getElem?_cons_zero, List.getElem?_cons_succ] at a1 a3
                                          go_upto_region 74 with (fail)
                                          by_cases h13 : i1 < i3
                                          · have h13' : (i1 < i3) = True := by simp [h13]
                                            have HLK := Lib.hid (HFN.out.ret12 HLN.out HNL.out (.inr h4) (.inl rfl : 1 = 1 ∨ 1 = 2))
                                            go_quiet (fail)
                                            have HBE := Lib.hid (HFM.out.drewN nq).cts.2.2
                                            go_wp2_with fail
                                            go_ret
                                            exact ⟨1, rfl, HLK, HBE⟩
                                          · have h13' : (i1 < i3) = False := by simp; omega
                                            go_quiet (fail)
                                            have HFM13 := Lib.hid (HFM.out.drewN nq)
                                            obtain ⟨w13, hw13⟩ : ∃ wz, wz = w12.drewN nq := ⟨_, rfl⟩
                                            rw [← hw13] at HFM13 ⊢
                                            clear hw13 a1 a3 HFM h13'
                                            have a1 := HFM13.out.ia.cell? 1
                                            have a3 := HFM13.out.ia.cell? 3
                                            simp only [List.getElem?_cons_zero, List.getElem?_cons_succ] at a1 a3
                                            go_upto_region 76 with (fail)
                                            by_cases he : i1 = i3
                                            · have he' : ((i1 : Int) == (i3 : Int)) = true := by simp [he]
                                              have he2 : (i1 == i3) = true := by simp [he]
                                              have HE := Lib.hid he
                                              clear he
                                              go_quiet (fail)
                                              have HFM14 := Lib.hid (HFM13.out.drewN nq)
                                              obtain ⟨w14, hw14⟩ : ∃ wz, wz = w13.drewN nq := ⟨_, rfl⟩
                                              rw [← hw14] at HFM14 ⊢
                                              clear hw14 a1 a3 HFM13 he' he2
                                              have HLK := Lib.hid (HFN.out.ret12 HLN.out HNL.out (.inr h4) (.inl rfl : 1 = 1 ∨ 1 = 2))
                                              have HBE := Lib.hid HFM14.out.cts.2.2
                                              obtain ⟨q1, hq1⟩ : ∃ q1, q1 = p + n1 := ⟨_, rfl⟩
                                              obtain ⟨q2, hq2⟩ : ∃ q2, q2 = q1 + 1 := ⟨_, rfl⟩
                                              have hq1l : q1 ≤ 3000 := by omega
                                              have wq1 : IntKind.i64.wrap ((p : Int) + (n1 : Int)) = (q1 : Int) := by rw [IntKind.wrap_i64]; omega
                                              have wq2 : IntKind.i64.wrap ((q1 : Int) + 1) = (q2 : Int) := by rw [IntKind.wrap_i64]; omega
                                              have hpq : p ≤ q2 := by omega
                                              have hq2l : q2 ≤ 3001 := by omega
                                              clear hq1 hq2
                                              go_wp2_with fail
                                              go_loopw [17] (fun v wr => ∃ q : Nat, p ≤ q ∧ q ≤ 4000 ∧ v = .int .i64 q ∧ w14 = wr) (fun v _ => 4000 - (intOf v).toNat)
                                              case atStart => exact ⟨q2, hpq, by omega, rfl, rfl⟩
                                              case round =>
                                                obtain ⟨q, hq, hq4, rfl, hwr⟩ := hrel
                                                subst hwr
                                                by_cases hql : q < L
                                                · have hql' : (q : Int) < (L : Int) := by omega
                                                  have hq0 : (0 : Int) ≤ (q : Int) := by omega
                                                  obtain ⟨tc, htc⟩ : ∃ tc, tc = nth msg q := ⟨_, rfl⟩
                                                  have htc128 : tc < 128 := by rw [htc]; exact HB.out q (by rw [← HL.out]; exact hql)
                                                  have cq := ((HR.out.below HBE.out) (by rw [← HL.out]; omega))
                                                  obtain ⟨b9, off9, e9, hb9, hcl9⟩ := cq
                                                  have cq := hcl9 q (by rw [← HL.out]; exact hql)
                                                  injection e9 with e9
                                                  injection e9 with e9a e9b
                                                  subst e9a e9b
                                                  dsimp only at cq
                                                  rw [← htc] at cq
                                                  have HTC := Lib.hid htc
                                                  clear htc hb9 hcl9
                                                  go_wp2_with fail
                                                  refine (isSep tc htc128 _).mono ?_
                                                  rintro e w' ⟨rfl, rfl⟩
                                                  obtain ⟨ds, hds⟩ : ∃ d, d = isS tc := ⟨_, rfl⟩
                                                  rw [← hds]
                                                  have HDS := Lib.hid hds
                                                  clear hds
                                                  cases ds
                                                  · go_wp2_with fail
                                                    refine (isNatX tc htc128 _).mono ?_
                                                    rintro e w' ⟨rfl, rfl⟩
                                                    obtain ⟨dx, hdx⟩ : ∃ d, d = isX tc := ⟨_, rfl⟩
                                                    rw [← hdx]
                                                    clear hdx
                                                    cases dx
                                                    · go_wp2_with fail
                                                      go_ret
                                                      exact ⟨1, rfl, HLK, HBE⟩
                                                    · go_wp2_with fail
                                                      go_roundw
                                                      case rel => exact ⟨q + 1, by omega, by omega, by go_num, trivial⟩
                                                      case measure => simp [intOf]; omega
                                                  · have HLX := Lib.hid (HFN.out.retX HLN.out HNL.out (.inr h4) hq (show q < msg.length by rw [← HL.out]; exact hql) (show isS (nth msg q) = true by rw [← HTC.out]; exact HDS.out.symm))
                                                    go_wp2_with fail
                                                    go_ret
                                                    exact ⟨3, rfl, HLX, HBE⟩
                                                · have hql' : ((q : Int) < (L : Int)) = False := by simp; omega
                                                  go_wp2_with fail
                                                  go_ret
                                                  exact ⟨1, rfl, HLK, HBE⟩
                                            · have he' : ((i1 : Int) == (i3 : Int)) = false := by simp; omega
                                              have he2 : (i1 == i3) = false := by simp [he]
                                              go_quiet (fail)
                                              have HFM15 := Lib.hid (HFM13.out.drewN nq)
                                              obtain ⟨w14, hw14⟩ : ∃ wz, wz = w13.drewN nq := ⟨_, rfl⟩
                                              rw [← hw14] at HFM15 ⊢
                                              clear hw14 a1 a3 HFM13
                                              go_wp2_with fail
                                              refine Handed.intro (1000 - n1) (by have := HK.out; have := HN1.out; have := HPN.out; omega) ?_
                                              go_step
                                              exact ⟨n1, A1, C1, T1, X1, E1, B1, _, ⟨by have := HN1.out; have := HPN.out; omega, rfl, HFM15.out.cts⟩, lk_intro rfl rfl rfl rfl rfl rfl⟩
                                          --]R4
                      · clear HLOW
                        go_wp2_with fail
                        go_ret
                        exact ⟨0, rfl, Lib.hid (Look.zero _ _ _), Lib.hid HFM.out.cts.2.2⟩
                      --]R3
                    --]R2
                    --]R
                  · have h4' : ((4 : Int) ≤ (n1 : Int)) = False := by simp; omega
                    have HW6 := Lib.hid hw6
                    clear hw6 HA HA1 HA2 HA3 HA4 HA5 HM1 HM2 HM3 HM4 HM5 HD HD0 HD1 HD2 HD3 HSA HSC HST HSX HSE HSB HC
                    go_wp2_with fail
                    rw [← HW6.out]
                    refine Handed.intro (1000 - n1) (by have := HK.out; have := HN1.out; have := HPN.out; omega) ?_
                    go_step
                    exact ⟨n1, A1, C1, T1, X1, E1, B1, _, ⟨by have := HN1.out; have := HPN.out; omega, rfl, HCt.out⟩, lk_intro rfl rfl rfl rfl rfl rfl⟩
        --]body
      · skip
        --[stepK
        obtain rfl : pn = L := by omega
        have HLN : Hid (0 < n ∧ p + n ≤ msg.length) := Lib.hid (by have := HPN.out; have := HL.out; omega)
        have HKK : Hid (p + n = msg.length ∨ 4 ≤ n) := Lib.hid (by have := HPN.out; have := HL.out; omega)
        have hn1l : n ≤ 1000 := by omega
        have hpnb : ((pn : Int) == (pn : Int)) = true := by simp
        have hmM := fun X => run_make1 (P := Tryz.prog) 24 5 (.int .u8 0) 1 Tryz.underlying24 Tryz.infoU8 rfl (by decide) 6 (by omega) .i64 .i64 6 rfl X
        have hmI := fun X => run_make1 (P := Tryz.prog) 99 3 (.int .i64 0) 8 Tryz.underlying99 Tryz.infoInt rfl (by decide) 6 (by omega) .i64 .i64 6 rfl X
        obtain ⟨mb, ib, w8, hmb, hib, hs7, hw8, HM8, HI8, h68, hne⟩ := two_make wo 5 3 (.int .u8 0) (.int .i64 0)
        have hcl : cB < wo.heap.size := by have := HC.out.2.1.lt; rw [HCB.out]; exact this
        have HC8 : Arr w8 135 cB (rowV (fun j => .float .f64 (z6 A C T X E B j)) 6) := by
          rw [z6_row, HCB.out]; exact HC.out.2.1.below h68 HC.out.2.1.lt
        have HIB := Lib.hid (And.intro hib (And.intro hmb (And.intro h68 hne)))
        have HF8 := Lib.hid (findMins w8 cB ib mb 6 6 6 (z6 A C T X E B) (cnt_words hn1l HC.out.1) (by omega) (by omega) (Ne.symm hne) HC8 HI8 HM8)
        have HE8 := Lib.hid (And.intro hmb (And.intro hib hw8))
        clear hib hmb hs7 hw8 HI8 HM8 h68 hne HC8 hcl hpn
        go_wp2_with fail
        rw [← HE8.out.2.2, ← HE8.out.2.1, ← HE8.out.1]
        refine HF8.out.mono ?_
        rintro e w9 ⟨m, rfl, HQ9, HI9, HM9, HD9⟩
        clear HE8 HF8 hmM hmI
        go_wp2_with fail
        refine (minCount w9 mb 6 (ms (z6 A C T X E B) 6 m) (ms_le _ _ _) HM9.out).mono ?_
        rintro e w' ⟨rfl, rfl⟩
        obtain ⟨i0, i1, i2, i3, i4, i5, b0', b1, b2, b3, b4, b5, HF, HNN⟩ := fin_make hn1l HC.out HIB.out.2.2.1 (by have := HIB.out; omega) (by have := HIB.out; omega) HQ9.out HI9.out HM9.out HD9.out
        obtain ⟨k, hk⟩ : ∃ k, k = sm (ms (z6 A C T X E B) 6 m) 6 := ⟨_, rfl⟩
        rw [← hk] at HNN ⊢
        have HFM := Lib.hid HF
        have HFN := Lib.hid HNN
        have HBE := Lib.hid HF.cts.2.2
        clear hk HQ9 HI9 HM9 HD9 HIB HF HNN HC
        have a0 := HFM.out.ia.cell? 0
        have c2 := HFM.out.ma.cell? 2
        have c3 := HFM.out.ma.cell? 3
        have c4 := HFM.out.ma.cell? 4
        have c5 := HFM.out.ma.cell? 5
        simp only [List.getElem?_cons_zero, List.getElem?_cons_succ] at a0 c2 c3 c4 c5
        by_cases he : i0 = m
        · subst he
          have he' : ((i0 : Int) == (i0 : Int)) = true := by simp
          go_wp2_with fail
          go_ret
          exact ⟨0, rfl, Lib.hid (Look.zero _ _ _), HBE⟩
        · have he' : ((i0 : Int) == (m : Int)) = false := by simp; omega
          have he2 : (i0 == m) = false := by simp [he]
          have HNL := Lib.hid (HFN.out.ints.notA HFN.out.least he)
          have hb5 : (0 < b5) = False := by
            have := HFN.out.e5
            rw [if_neg (HFN.out.ints.no5 HFN.out.least)] at this
            simp; omega
          by_cases hk1 : k = 1
          · skip
            have HK1 := Lib.hid hk1
            have hk2 : ((k : Int) == 1) = true := by simp [hk1]
            clear hk1
            by_cases g4 : 0 < b4
            · have g4' : (0 < b4) = True := by simp [g4]
              have HLK := Lib.hid (HFN.out.ret4 HLN.out HNL.out HKK.out ⟨HK1.out, g4⟩)
              go_wp2_with fail
              go_ret
              exact ⟨4, rfl, HLK, HBE⟩
            · have g4' : (0 < b4) = False := by simp; omega
              by_cases g2 : 0 < b2
              · have g2' : (0 < b2) = True := by simp [g2]
                have HLK := Lib.hid (HFN.out.ret12 HLN.out HNL.out HKK.out (.inr rfl : 2 = 1 ∨ 2 = 2))
                go_wp2_with fail
                go_ret
                exact ⟨2, rfl, HLK, HBE⟩
              · have g2' : (0 < b2) = False := by simp; omega
                by_cases g3 : 0 < b3
                · have g3' : (0 < b3) = True := by simp [g3]
                  have HLK := Lib.hid (HFN.out.ret3 HLN.out HNL.out HKK.out ⟨HK1.out, g3⟩)
                  go_wp2_with fail
                  go_ret
                  exact ⟨3, rfl, HLK, HBE⟩
                · have g3' : (0 < b3) = False := by simp; omega
                  have HLK := Lib.hid (HFN.out.ret12 HLN.out HNL.out HKK.out (.inl rfl : 1 = 1 ∨ 1 = 2))
                  go_wp2_with fail
                  go_ret
                  exact ⟨1, rfl, HLK, HBE⟩
          · skip
            have hk2 : ((k : Int) == 1) = false := by simp; omega
            have HLK := Lib.hid (HFN.out.ret12 HLN.out HNL.out HKK.out (.inl rfl : 1 = 1 ∨ 1 = 2))
            go_wp2_with fail
            go_ret
            exact ⟨1, rfl, HLK, HBE⟩
        --]stepK
end Go.Proofs.YtcadknfcahmdcaaGreat
