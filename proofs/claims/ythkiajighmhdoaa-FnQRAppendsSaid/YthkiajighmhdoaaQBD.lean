/-
  Segments of bytes read, walked; the segments of bytes in memory. No condition beyond the bounds that each theorem states.
-/
import Derived.Test.YthkiajighmhdoaaQBC
namespace Go.Proofs.Ythkiajighmhdoaa
open Go.RowKit Go.Qz Go.Qz.BS Go.Qz.QA
set_option linter.unusedVariables false

theorem Try.infoRowsQ : (Try.prog.info? 30).map (fun i => (i.zero, i.size, i.bytes)) = some (some (.slice none 0 0), 1, 24) := by kernel_rfl
def sg (L : List (List Nat)) (j : Nat) : List Nat := L.getD j []
/-- Segments of bytes in memory. -/
structure Bsg (w : World) (p : Nat) (v bv : Value) (L : List (List Nat)) (V : List Value) : Prop where
  own : w.ownsRow (p + 1) 30 1 bv L.length V
  ne : ∀ k, bv.ownBlock = some k → v.ownBlock ≠ some k
  each : ∀ j, j < L.length → ∃ A c, V.getD j undef = .slice A (sg L j).length c ∧ (sg L j).length ≤ c ∧ Rd w A (sg L j).length (fun i => .int .u8 (nth (sg L j) i : Nat)) ∧ ∀ a, A = some a → p + 1 ≤ a.block ∧ a.block < w.heap.size ∧ v.ownBlock ≠ some a.block ∧ bv.ownBlock ≠ some a.block
theorem Bsg.mod {M : Nat → Prop} {w w' : World} {p : Nat} {v v' bv : Value} {L : List (List Nat)} {V : List Value} (h : Bsg w p v bv L V) (hm : Mod M w w') (hbv : ∀ k, bv.ownBlock = some k → ¬ M k) (ht : ∀ k, p + 1 ≤ k → v.ownBlock ≠ some k → ¬ M k)
    (hv : ∀ k, k < w.heap.size → v.ownBlock ≠ some k → v'.ownBlock ≠ some k) : Bsg w' p v' bv L V := by
  refine ⟨own_mod h.own hm hbv, fun k hk => hv k (h.own.lt k hk).2 (h.ne k hk), fun j hj => ?_⟩
  obtain ⟨A, c, e, hc, hr, hf⟩ := h.each j hj
  refine ⟨A, c, e, hc, rd_mod2 hr hm (fun a ha => ht _ (hf a ha).1 (hf a ha).2.2.1), fun a ha => ?_⟩
  obtain ⟨h1, h2, h3, h4⟩ := hf a ha
  exact ⟨h1, Nat.lt_of_lt_of_le h2 hm.size, hv _ h2 h3, h4⟩
theorem Bsg.stay {w w' : World} {p : Nat} {v v' bv : Value} {L : List (List Nat)} {V : List Value} (h : Bsg w p v bv L V) (hs : Stay w w' p v v') : Bsg w' p v' bv L V :=
  h.mod hs.1 (fun k hk e => by
    rcases e with e | e
    · have := (h.own.lt k hk).1; omega
    · exact h.ne k hk e) (fun k h1 h2 e => by
    rcases e with e | e
    · omega
    · exact h2 e) (fun k h1 h2 e => by
    rcases hs.2 with h3 | ⟨j, h3, h4⟩
    · rw [h3] at e; exact h2 e
    · rw [h3] at e; injection e with e; omega)
def rowT (T : List Nat) (t i : Nat) : List Value := (List.range t).map fun j => if j < i then .int .u8 (nth T j : Nat) else .int .u8 0
theorem rowT_len (T : List Nat) (t i : Nat) : (rowT T t i).length = t := by simp [rowT]
theorem rowT_at (T : List Nat) (t i j : Nat) (h : j < t) : (rowT T t i)[j]? = some (if j < i then .int .u8 (nth T j : Nat) else .int .u8 0) := by
  unfold rowT; rw [List.getElem?_map, List.getElem?_range h]; rfl
theorem rowT_zero (T : List Nat) (t : Nat) : zeros t (.int .u8 0) = (rowT T t 0).toArray := by
  unfold zeros rowT
  congr 1
  apply List.ext_getElem
  · simp
  · intro i h1 h2; simp
theorem rowT_set (T : List Nat) (t i : Nat) : (rowT T t i).set i (.int .u8 (nth T i : Nat)) = rowT T t (i + 1) := by
  apply List.ext_getElem?
  intro j
  by_cases hj : j < t
  · rw [rowT_at _ _ _ _ hj, List.getElem?_set]
    by_cases hij : i = j
    · subst hij
      rw [if_pos rfl, if_pos (by rw [rowT_len]; exact hj), if_pos (by omega)]
    · rw [if_neg hij, rowT_at _ _ _ _ hj]
      by_cases h : j < i
      · rw [if_pos h, if_pos (by omega)]
      · rw [if_neg h, if_neg (by omega)]
  · rw [List.getElem?_eq_none (by rw [List.length_set, rowT_len]; omega), List.getElem?_eq_none (by rw [rowT_len]; omega)]
theorem rowT_rd {w : World} {E : Nat} {T : List Nat} (h : Arr w 5 E (rowT T T.length T.length)) : Rd w (some ⟨E, 0, none⟩) T.length (fun j => .int .u8 (nth T j : Nat)) := by
  have := h.rd (fun j => .int .u8 (nth T j : Nat)) (fun j hj => by
    rw [rowT_len] at hj
    rw [rowT_at _ _ _ _ hj, if_pos hj])
  rwa [rowT_len] at this
theorem range_bl (l : List Nat) : (List.range l.length).map (fun j => Value.int .u8 (nth l j : Nat)) = bl l := by
  unfold bl
  apply List.ext_getElem
  · simp
  · intro i h1 h2
    have h3 : i < l.length := by simpa using h1
    simp [nth_eq h3]
theorem dat4_len : ∀ T : List Nat, (dat 4 T).length = 8 * T.length
  | [] => rfl
  | a :: r => by rw [dat4_one, List.length_append, bo_len, dat4_len r]; simp; omega
theorem Bsg.push {w w' : World} {p E : Nat} {v bv bv' : Value} {L : List (List Nat)} {V : List Value} {T : List Nat} (h : Bsg w p v bv L V) (hown : w'.ownsRow (p + 1) 30 1 bv' (L.length + 1) (V ++ [.slice (some ⟨E, 0, none⟩) T.length T.length]))
    (hg : w.grownBy w' bv.ownBlock) (hl : bv'.ownBlock = bv.ownBlock ∨ ∃ k, bv'.ownBlock = some k ∧ w.heap.size ≤ k) (hE : Arr w 5 E (rowT T T.length T.length)) (hpE : p + 1 ≤ E) (hvE : v.ownBlock ≠ some E) (hbE : bv.ownBlock ≠ some E) (hv : ∀ k, v.ownBlock = some k → k < w.heap.size) :
    Bsg w' p v bv' (L ++ [T]) (V ++ [.slice (some ⟨E, 0, none⟩) T.length T.length]) := by
  have hm := Mod.of_grown hg
  have key : ∀ k, k < w.heap.size → bv.ownBlock ≠ some k → bv'.ownBlock ≠ some k := fun k h1 h2 e => by
    rcases hl with h3 | ⟨j, h3, h4⟩
    · rw [h3] at e; exact h2 e
    · rw [h3] at e; injection e with e; omega
  have hV : V.length = L.length := by have := h.own.1; omega
  refine ⟨by rw [List.length_append]; exact hown, fun k hk e => ?_, fun j hj => ?_⟩
  · rcases hl with h3 | ⟨j, h3, h4⟩
    · rw [h3] at hk; exact h.ne k hk e
    · rw [h3] at hk; injection hk with hk; have := hv k e; omega
  · have hj1 : j < L.length + 1 := by rw [List.length_append] at hj; exact hj
    by_cases hjL : j < L.length
    · obtain ⟨A, c, e, hc, hr, hf⟩ := h.each j hjL
      have e1 : sg (L ++ [T]) j = sg L j := by unfold sg; rw [List.getD_eq_getElem?_getD, List.getD_eq_getElem?_getD, List.getElem?_append_left hjL]
      have e2 : (V ++ [Value.slice (some ⟨E, 0, none⟩) T.length T.length]).getD j undef = V.getD j undef := by rw [List.getD_eq_getElem?_getD, List.getD_eq_getElem?_getD, List.getElem?_append_left (by omega)]
      rw [e1, e2]
      refine ⟨A, c, e, hc, rd_mod2 hr hm (fun a ha => (hf a ha).2.2.2), fun a ha => ?_⟩
      obtain ⟨h1, h2, h3, h4⟩ := hf a ha
      exact ⟨h1, Nat.lt_of_lt_of_le h2 hm.size, h3, key _ h2 h4⟩
    · obtain rfl : j = L.length := by omega
      have e1 : sg (L ++ [T]) L.length = T := by unfold sg; rw [List.getD_eq_getElem?_getD, List.getElem?_append_right (Nat.le_refl _)]; simp
      have e2 : (V ++ [Value.slice (some ⟨E, 0, none⟩) T.length T.length]).getD L.length undef = .slice (some ⟨E, 0, none⟩) T.length T.length := by rw [List.getD_eq_getElem?_getD, ← hV, List.getElem?_append_right (Nat.le_refl _)]; simp
      rw [e1, e2]
      refine ⟨_, _, rfl, Nat.le_refl _, rd_mod2 (rowT_rd hE) hm (fun a ha e => ?_), fun a ha => ?_⟩
      · injection ha with ha; subst ha; exact hbE e
      · injection ha with ha; subst ha
        exact ⟨hpE, Nat.lt_of_lt_of_le hE.lt hm.size, hvE, key _ hE.lt hbE⟩
def BytPost (B : List Nat) (S rest : List Bool) (p : Nat) (A : Option Addr) (c : Nat) (R : List Nat) (L : List (List Nat)) (w : World) (e : Ending) (w' : World) : Prop :=
  ∃ (P : Nat) (v' bv' : Value) (V' : List Value), e = .returned (.tuple #[v', bv', .nilIface]) ∧ Hid (QSt B p A c P v' R w') ∧ Hid (Bsg w' p v' bv' L V') ∧ Hid (S.drop P = rest) ∧ Hid (Below p w w')
set_option maxRecDepth 100000 in
set_option maxHeartbeats 12800000 in
theorem byteSeg (B : List Nat) (S rest : List Bool) (hB : B = by8 S) (hBn : B.length < 1000000) (hr : 8 ≤ rest.length) (p : Nat) (A : Option Addr) (c P : Nat) (v bv : Value) (R T : List Nat) (L : List (List Nat)) (V : List Value) (hL : L.length < 10000) (hT : ∀ y ∈ T, y < 256) (hRT : (R ++ T).length ≤ 10000) (hS : S.drop P = dat 4 T ++ rest) (w : World) (h : QSt B p A c P v R w) (hG : Bsg w p v bv L V) :
    Calls Try.prog 62 #[.pointer (some ⟨p, 0, none⟩), v, .int .i64 T.length, .pointer none, bv, .map none] w (BytPost B S rest p A c (R ++ T) (L ++ [T]) w) := by
  have HBE := Lib.hid hB
  have HBN := Lib.hid hBn
  have HR := Lib.hid hr
  have HT := Lib.hid hT
  have HRT := Lib.hid hRT
  have HS := Lib.hid hS
  have HQ := Lib.hid h
  have HG := Lib.hid hG
  have HLL := Lib.hid hL
  have hroom := room hS hr
  rw [dat4_len] at hroom
  have hBl : B.length = S.length / 8 := by rw [hB, by8_len]
  obtain ⟨t, ht⟩ : ∃ t, t = T.length := ⟨_, rfl⟩
  rw [← ht] at hroom ⊢
  have HTL := Lib.hid ht
  obtain ⟨m, hm⟩ : ∃ m, m = 8 * B.length - P := ⟨_, rfl⟩
  have HAV := Lib.hid (avF m (by omega) hBn h)
  have htb : t ≤ 10000 := by rw [List.length_append] at hRT; omega
  obtain ⟨t8, ht8⟩ : ∃ t8, t8 = 8 * t := ⟨_, rfl⟩
  have e8 : (8 : Int) * (t : Int) = (t8 : Int) := by omega
  have ht8b : t8 ≤ 80000 := by omega
  have hgt : ((m : Int) < (t8 : Int)) = False := by simp; omega
  have hmk : ∀ W, (Instr.makeSlice 30 (.int .i64 t) (.int .i64 t)).run Try.prog W = .ok (.slice (some ⟨W.heap.size, 0, none⟩) t t) (W.alloc (.cells (zeros t (.int .u8 0)) 5)) := fun W => run_make1 (P := Try.prog) 30 5 (.int .u8 0) 1 Try.underlying30 Try.infoU8Q rfl (by decide) t (by omega) .i64 .i64 t rfl W
  have HMK := Lib.hid hmk
  clear hmk hB hBn hr hT hRT hS h hL ht hm hroom hBl ht8 hG
  go_enter Try.func62, Try.ntmps62
  go_wp2_with fail
  refine HAV.out.mono ?_
  rintro e w1 ⟨rfl, k1, rfl⟩
  have hmk := HMK.out
  clear HMK HAV
  go_wp2_with fail
  obtain ⟨W1, hW1⟩ : ∃ W1, W1 = (w.drewN k1).alloc (.cells (zeros t (.int .u8 0)) 5) := ⟨_, rfl⟩
  obtain ⟨E, hE⟩ : ∃ E, E = (w.drewN k1).heap.size := ⟨_, rfl⟩
  have hEw : E = w.heap.size := hE
  rw [← hW1, ← hEw]
  have hA1 : Arr W1 5 E (rowT T t 0) := by rw [hW1, hE, rowT_zero]; exact Arr.new _ _ _
  have hb1 : Below w.heap.size w W1 := by rw [hW1]; exact (Go.Qz.below_drewN (Below.refl _ _) k1).alloc (by simp) _
  have HQ1 : Hid (QSt B p A c P v R W1) := Lib.hid (HQ.out.grow (hb1.mono HQ.out.plt) (own_below HQ.out.own hb1))
  have HNE : Hid (v.ownBlock ≠ some E) := Lib.hid (fun e => by have := (HQ.out.own.lt E e).2; omega)
  have HBN2 : Hid (bv.ownBlock ≠ some E) := Lib.hid (fun e => by have := (HG.out.own.lt E e).2; omega)
  have HA1 := Lib.hid hA1
  have HM1 : Hid (Mod (· = p) w W1) := Lib.hid (Mod.of_below hb1)
  have HEW := Lib.hid hEw
  have HPE : Hid (p + 1 ≤ E) := Lib.hid (by have := HQ.out.plt; omega)
  clear hW1 hE hEw hA1 hb1 hmk
  go_loopw [16] (fun i wr => ∃ (k P : Nat), k ≤ t ∧ i = .int .i64 k ∧ Hid (QSt B p A c P v R wr) ∧ Hid (Arr wr 5 E (rowT T t k)) ∧ Hid (Mod (· = p) w wr) ∧ Hid (S.drop P = dat 4 (T.drop k) ++ rest)) (fun i _ => t - (intOf i).toNat)
  case atStart => exact ⟨0, P, Nat.zero_le _, rfl, HQ1, HA1, HM1, Lib.hid (by rw [List.drop_zero]; exact HS.out)⟩
  case round =>
    obtain ⟨k, P, hk, rfl, HD, HA, HM, HS⟩ := hrel
    obtain ⟨wi, hwi⟩ : ∃ wi, wi = wr := ⟨_, rfl⟩
    rw [← hwi] at HD HA HM ⊢
    clear hwi HQ1 HA1 HM1 hgt e8
    by_cases hkt : k < t
    · have hki : (k : Int) < (t : Int) := by omega
      have hk0 : (0 : Int) ≤ (k : Int) := by omega
      have hkl : k < T.length := by rw [← HTL.out]; exact hkt
      obtain ⟨x, hx⟩ : ∃ x, x = nth T k := ⟨_, rfl⟩
      have hx2 : x < 256 := by rw [hx]; exact HT.out _ (nth_mem hkl)
      have HS2 : S.drop P = bo x 8 ++ (dat 4 (T.drop (k + 1)) ++ rest) := by
        have := HS.out
        rw [drop_nth hkl, dat4_one, List.append_assoc, ← hx] at this; exact this
      have HRD := Lib.hid (rdF 8 8 rfl S HBE.out HBN.out x (by omega) (by omega) (by omega) (dat 4 (T.drop (k + 1)) ++ rest) HS2 (by have := HR.out; rw [List.length_append]; omega) HD.out)
      have HS3 : Hid (S.drop (P + 8) = dat 4 (T.drop (k + 1)) ++ rest) := Lib.hid (drop_field HS2 (bo_len _ _))
      have HX := Lib.hid hx
      clear HS2 hx hkl
      go_wp2_with fail
      refine HRD.out.mono ?_
      rintro e w2 ⟨rfl, HD2, hm2⟩
      have HA2 : Hid (Arr w2 5 E (rowT T t k)) := Lib.hid (HA.out.mod hm2.out (by have := HPE.out; omega))
      have HM2 := Lib.hid (HM.out.trans hm2.out)
      have c0 := HA2.out.cell? k
      rw [rowT_at _ _ _ _ hkt, if_neg (Nat.lt_irrefl _)] at c0
      have fr := HA2.out.free k
      clear hm2 HRD HA HM HD
      go_wp2_with fail
      have HX3 : Hid (Arr (w2.setCell ⟨E, k, none⟩ (.int .u8 (x : Nat))) 5 E (rowT T t (k + 1))) := Lib.hid (by rw [← rowT_set, ← HX.out]; exact HA2.out.set_ k _)
      have HD3 : Hid (QSt B p A c (P + 8) v R (w2.setCell ⟨E, k, none⟩ (.int .u8 (x : Nat)))) := Lib.hid (HD2.out.grow ((Below.refl _ _).setCell (p := ⟨E, k, none⟩) HPE.out _) (own_mod HD2.out.own (Mod.set1 w2 E k _) (fun j hj e => by have e : j = E := e; subst e; exact HNE.out hj)))
      have HM3 : Hid (Mod (· = p) w (w2.setCell ⟨E, k, none⟩ (.int .u8 (x : Nat)))) := Lib.hid (HM2.out.setCell (p := ⟨E, k, none⟩) (.inr (by show w.heap.size ≤ E; rw [HEW.out]; exact Nat.le_refl _)) _)
      go_roundw
      case rel => exact ⟨k + 1, P + 8, by omega, by go_num, HD3, HX3, HM3, HS3⟩
      case measure => simp [intOf]; omega
    · obtain rfl : k = t := by omega
      have hS3 := HS.out
      rw [show T.drop k = [] from List.drop_eq_nil_of_le (by rw [← HTL.out]; exact Nat.le_refl _), show dat 4 [] = [] from rfl, List.nil_append] at hS3
      have HS3 := Lib.hid hS3
      have HRD : Hid (Rd wi (some ⟨E, 0, none⟩) k (fun j => .int .u8 (nth T j : Nat))) := Lib.hid (by
        have h1 := HA.out
        have h2 := HTL.out
        rw [h2] at h1 ⊢
        exact rowT_rd h1)
      have HO := Lib.hid HD.out.own
      have HPL := Lib.hid HD.out.plt
      have HL4 : Hid (R.length + k < 1099511627776) := Lib.hid (by have := HRT.out; rw [List.length_append] at this; have := HTL.out; omega)
      have hGw : Bsg wi p v bv L V := HG.out.mod HM.out (fun j hj e => by have := (HG.out.own.lt j hj).1; have e : j = p := e; omega) (fun j h1 _ e => by have e : j = p := e; omega) (fun j _ h => h)
      have HGW := Lib.hid hGw
      have HBW : Hid (Below p w wi) := Lib.hid (HM.out.below (Nat.le_of_lt HQ.out.plt) (fun j e => by have e : j = p := e; omega))
      clear hS3 hGw HM HG HQ
      go_wp2_with (at_builtin; refine wpList_copyAtS _ _ 30 (p + 1) 5 (.int .u8 0) 1 _ R.length _ _ k k (fun j => .int .u8 (nth T j : Nat)) rfl rfl rfl rfl Try.underlying30 Try.infoU8Q rfl (fun j _ => rfl) (by decide) HO.out HRD.out HL4.out HPL.out ?_)
      intro v2 w2 hown hg hb hl
      have hl2 : v2.ownBlock = v.ownBlock ∨ ∃ j, v2.ownBlock = some j ∧ wi.heap.size ≤ j := hl.imp id (fun h => ⟨_, h, Nat.le_refl _⟩)
      have hM2 := Mod.of_grown hg
      have HQ2 : Hid (QSt B p A c P v2 (R ++ T) w2) := Lib.hid (HD.out.grow hb (by
        have h2 := HTL.out
        rw [h2, range_bl] at hown
        rw [List.length_append, show bl (R ++ T) = bl R ++ bl T by simp [bl]]; exact hown))
      have HG2 : Hid (Bsg w2 p v2 bv L V) := Lib.hid (HGW.out.stay ((Stay.refl wi p v).grow hg hl2))
      have HA2 : Hid (Arr w2 5 E (rowT T k k)) := Lib.hid (HA.out.mod hM2 HNE.out)
      have HNE2 : Hid (v2.ownBlock ≠ some E) := Lib.hid (fun e => by
        rcases hl2 with h | ⟨j, h, h2⟩
        · rw [h] at e; exact HNE.out e
        · rw [h] at e; injection e with e; have := HA.out.lt; omega)
      have HB2 : Hid (Below p w w2) := Lib.hid (HBW.out.trans (hb.mono (Nat.le_succ p)))
      have HO2 := Lib.hid HG2.out.own
      have HPL2 := Lib.hid HQ2.out.plt
      clear hown hg hb hl hl2 hM2 HO HPL HRD HGW HA HNE HBW HD
      go_wp2_with (at_builtin; refine wpList_pushAt _ _ 32 (p + 1) 30 (.slice none 0 0) 24 _ L.length V (.slice (some ⟨E, 0, none⟩) k k) rfl rfl rfl rfl Try.underlying32 Try.infoRowsQ rfl rfl (by decide) HO2.out (by have := HLL.out; omega) HPL2.out ?_)
      intro bv2 w3 hown hg hb hl
      have hl2 : bv2.ownBlock = bv.ownBlock ∨ ∃ j, bv2.ownBlock = some j ∧ w2.heap.size ≤ j := hl.imp id (fun h => ⟨_, h, Nat.le_succ _⟩)
      have hG3 : Bsg w3 p v2 bv2 (L ++ [T]) (V ++ [.slice (some ⟨E, 0, none⟩) T.length T.length]) := HG2.out.push (by rw [← HTL.out]; exact hown) hg hl2 (by have := HA2.out; have h2 := HTL.out; rw [h2] at this; exact this) HPE.out HNE2.out HBN2.out (fun j hj => (HQ2.out.own.lt j hj).2)
      have hQ3 : QSt B p A c P v2 (R ++ T) w3 := HQ2.out.grow hb (own_mod HQ2.out.own (Mod.of_grown hg) (fun j hj e => HG2.out.ne j e hj))
      have HG3 := Lib.hid hG3
      have HQ3 := Lib.hid hQ3
      have HB3 : Hid (Below p w w3) := Lib.hid (HB2.out.trans (hb.mono (Nat.le_succ p)))
      clear hown hg hb hl hl2 hG3 hQ3
      go_wp2_with fail
      refine bodyPost_ret (v := .tuple #[v2, bv2, .nilIface]) (by simp [results, Try.results62, go_sem]) rfl ?_
      exact ⟨P, v2, bv2, _, rfl, HQ3, HG3, HS3, HB3⟩
end Go.Proofs.Ythkiajighmhdoaa
