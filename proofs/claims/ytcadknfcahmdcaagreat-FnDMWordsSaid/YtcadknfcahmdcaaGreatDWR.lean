/-
  Words of values, digits, walked (printed in part by genDWR.py). No condition beyond the bounds that each theorem states.
-/
import Derived.Test.YtcadknfcahmdcaaGreatDWQ
import Derived.Test.YtcadknfcahmdcaaGreatDWI
import Derived.BigQuiet
import Derived.Deep.DeepCutAuto
namespace Go.Proofs.YtcadknfcahmdcaaGreat
open Go.RowKit Go.Qz Go.Qz.DF
set_option linter.unusedVariables false

theorem and255 (y : Nat) (h : y < 9223372036854775808) : bits .and .i64 (y : Int) 255 = ((y % 256 : Nat) : Int) := by
  have e : y &&& 255 = y % 256 := Nat.and_two_pow_sub_one_eq_mod y 8
  rw [← e]
  exact i64_and y 255 h (by omega)
/-- Words in a new block. -/
def NewPost (l : List Nat) (w : World) (e : Ending) (w' : World) : Prop := ∃ b c, e = .returned (.slice (some ⟨b, 0, none⟩) l.length c) ∧ Hid (∀ j u, (bys l)[j]? = some u → w'.cell? ⟨b, 0 + j, none⟩ = some u) ∧ Hid (Below w.heap.size w w') ∧ Hid (w.heap.size ≤ b)
set_option maxRecDepth 100000 in
set_option maxHeartbeats 1600000 in
theorem toWords (a b c : Nat) (ha : a < 40) (hb : b < 40) (hc : c < 40) (g off n cap : Nat) (hn : 3 ≤ n) (hn2 : n < 100000) (w : World) (c0 : w.cell? ⟨g, off, none⟩ = some (.int .u8 a)) (c1 : w.cell? ⟨g, off + 1, none⟩ = some (.int .u8 b)) (c2 : w.cell? ⟨g, off + 2, none⟩ = some (.int .u8 c)) :
    Calls Tryz.prog 140 #[.slice (some ⟨g, off, none⟩) n cap] w (NewPost (DV.trip a b c) w) := by
  obtain ⟨m1, hm1⟩ : ∃ m1, m1 = 1600 * a := ⟨_, rfl⟩
  obtain ⟨m2, hm2⟩ : ∃ m2, m2 = 40 * b := ⟨_, rfl⟩
  obtain ⟨s1, hs1⟩ : ∃ s1, s1 = m1 + m2 := ⟨_, rfl⟩
  obtain ⟨s2, hs2⟩ : ∃ s2, s2 = s1 + c := ⟨_, rfl⟩
  obtain ⟨s3, hs3⟩ : ∃ s3, s3 = s2 + 1 := ⟨_, rfl⟩
  obtain ⟨q, hq⟩ : ∃ q, q = s3 / 256 := ⟨_, rfl⟩
  obtain ⟨r, hr⟩ : ∃ r, r = s3 % 256 := ⟨_, rfl⟩
  have hT : DV.trip a b c = [q, r] := by unfold DV.trip; rw [hq, hr, hs3, hs2, hs1, hm1, hm2]
  rw [hT]
  have w1 : IntKind.i64.wrap ((1600 : Int) * (a : Int)) = (m1 : Int) := by rw [IntKind.wrap_i64]; omega
  have w2 : IntKind.i64.wrap ((40 : Int) * (b : Int)) = (m2 : Int) := by rw [IntKind.wrap_i64]; omega
  have w3 : IntKind.i64.wrap ((m1 : Int) + (m2 : Int)) = (s1 : Int) := by rw [IntKind.wrap_i64]; omega
  have w4 : IntKind.i64.wrap ((s1 : Int) + (c : Int)) = (s2 : Int) := by rw [IntKind.wrap_i64]; omega
  have w5 : IntKind.i64.wrap ((s2 : Int) + 1) = (s3 : Int) := by rw [IntKind.wrap_i64]; omega
  have w6 : IntKind.i64.wrap ((s3 : Int) / 256) = (q : Int) := by rw [IntKind.wrap_i64]; omega
  have w7 : (s3 : Int).tdiv 256 = (q : Int) := by rw [Int.tdiv_eq_ediv_of_nonneg (by omega)]; omega
  have w8 : (s3 : Int).tmod 256 = (r : Int) := by rw [Int.tmod_eq_emod_of_nonneg (by omega)]; omega
  have w9 : (s3 : Int) / 256 = (q : Int) := by omega
  have w10 : (s3 : Int) % 256 = (r : Int) := by omega
  have hq1 : q < 256 := by omega
  have hr1 : r < 256 := by omega
  have hs3l : s3 ≤ 70000 := by omega
  have hn0 : (3 : Int) ≤ (n : Int) := by omega
  have HA := Lib.hid (fun W => Arr.new W 5 [.int .u8 q, .int .u8 r])
  clear hm1 hm2 hs1 hs2 hs3 hq hr hT
  go_enter Tryz.func140, Tryz.ntmps140
  go_wp2_with fail
  go_quiet (fail)
  go_wp2_with fail
  go_ret
  refine ⟨_, _, rfl, Lib.hid (fun j u hu => ?_), Lib.hid ((Go.Qz.below_drewN (Below.refl w.heap.size w) nq).alloc (by simp) _), Lib.hid (by simp)⟩
  have := (HA.out (w.drewN nq)).cell? j
  rw [Nat.zero_add]
  exact this.trans hu
/-- The first three of a buffer are written. -/
def TripPost (p : Nat) (K : CK) (ws : List Nat) (pos : Nat) (enc : Int) (sy : Option (Nat × Nat)) (v : Value) (g n base : Nat) (l : List Nat) (w : World) (e : Ending) (w' : World) : Prop := ∃ v' off' cap', e = .returned (.slice (some ⟨g, off', none⟩) (n - 3) cap') ∧ Hid (Off w' base 5 (.slice (some ⟨g, off', none⟩) (n - 3) cap') (n - 3) (bys l)) ∧ Hid (Ctx w' p K ws pos enc sy v') ∧ Hid (Step p v v' w w')
theorem Off.step {w w' : World} {p : Nat} {K : CK} {ws : List Nat} {pos : Nat} {enc : Int} {sy : Option (Nat × Nat)} {v v' u : Value} {base n : Nat} {xs : List Value} (h : Off w base 5 u n xs) (hc : Ctx w p K ws pos enc sy v) (hs : Step p v v' w w') (hne : u.ownBlock ≠ v.ownBlock) : Off w' base 5 u n xs ∧ u.ownBlock ≠ v'.ownBlock := by
  obtain ⟨g, off, cap, rfl, hob, hlt, _⟩ := h.block
  refine ⟨h.mod hs.1 (fun b hb e => ?_), fun e => ?_⟩
  · rcases e with e | e
    · subst e; exact off_ne h hc.ar (by decide) hb
    · exact hne (hb.trans e.symm)
  · rcases hs.2 with h2 | ⟨b, h2, h3⟩
    · rw [h2] at e; exact hne e
    · rw [h2, hob] at e; injection e with e; omega
set_option maxRecDepth 100000 in
set_option maxHeartbeats 1600000 in
theorem nextTrip {p : Nat} {K : CK} {ws : List Nat} {pos : Nat} {enc : Int} {sy : Option (Nat × Nat)} {v : Value} (w : World) (h : Ctx w p K ws pos enc sy v) (hw : ws.length + 2 < 100000) (a b c : Nat) (l : List Nat) (ha : a < 40) (hb : b < 40) (hc : c < 40) (g off n cap base : Nat) (hn : n = l.length + 3) (hn2 : n < 100000) (ho : Off w base 5 (.slice (some ⟨g, off, none⟩) n cap) n (bys (a :: b :: c :: l))) (hne : some g ≠ v.ownBlock) :
    Calls Tryz.prog 138 #[.pointer (some ⟨p, 0, none⟩), .slice (some ⟨g, off, none⟩) n cap] w (TripPost p K (ws ++ DV.trip a b c) pos enc sy v g n base l w) := by
  have hcap : n ≤ cap ∧ cap ≤ 9223372036854775807 := by
    obtain ⟨g', off', cap', cur, e1, hb', hh, h1, h2, _⟩ := ho
    injection e1 with e1 e2 e3
    subst e3
    exact ⟨h1, by unfold maxLen at h2; omega⟩
  have c0 := ho.cells 0 (.int .u8 a) rfl
  have c1 := ho.cells 1 (.int .u8 b) rfl
  have c2 := ho.cells 2 (.int .u8 c) rfl
  rw [Nat.add_zero] at c0
  have HT := Lib.hid (toWords a b c ha hb hc g off n cap (by omega) hn2 w c0 c1 c2)
  have HC := Lib.hid h
  have HO := Lib.hid ho
  have HNE := Lib.hid hne
  obtain ⟨n3, hn3⟩ : ∃ n3, n3 = n - 3 := ⟨_, rfl⟩
  obtain ⟨cap3, hcap3⟩ : ∃ cap3, cap3 = cap - 3 := ⟨_, rfl⟩
  have hN : (n : Int) - 3 = (n3 : Int) := by omega
  have hn0 : (3 : Int) ≤ (n : Int) := by omega
  have hn1 : (n : Int) ≤ (cap : Int) := by omega
  have hnl : 3 ≤ n := by omega
  obtain ⟨hc1, hc2⟩ := hcap
  clear h ho hne c0 c1 c2 hn hn3 hcap3 hN
  go_enter Tryz.func138, Tryz.ntmps138
  go_wp2_with fail
  refine HT.out.mono ?_
  rintro e w1 ⟨b1, cc, he, HR, HB, _⟩
  rw [show (DV.trip a b c).length = 2 from rfl] at he
  subst he
  have HC1 := Lib.hid (HC.out.same (Same.of_below HB.out))
  have HW : Hid (Calls Tryz.prog 139 #[.pointer (some ⟨p, 0, none⟩), .slice (some ⟨b1, 0, none⟩) 2 cc] w1 (WPost p K (ws ++ DV.trip a b c) pos enc sy v w1)) := Lib.hid (writeWords w1 HC1.out (DV.trip a b c) b1 0 cc HR.out (by show ws.length + 2 < 100000; exact hw))
  go_wp2_with fail
  refine HW.out.mono ?_
  rintro e w2 ⟨v', rfl, HC2, HS2⟩
  have HS : Hid (Step p v v' w w2) := Lib.hid ((Step.of_same (Same.of_below HB.out)).trans HS2.out)
  have HO2 := Lib.hid (Off.step HO.out HC.out HS.out HNE.out).1
  clear HT HC HR HB HC1 HW HS2 HO HNE
  have hsp : cap = 3 ∨ ¬ cap = 3 := by omega
  rcases hsp with rfl | hc3
  · obtain rfl : n = 3 := by omega
    have HO3 := Lib.hid (HO2.out.drop0 hnl)
    go_wp2_with fail
    go_ret
    exact ⟨v', off, 0, rfl, HO3, HC2, HS⟩
  · have HO3 := Lib.hid (HO2.out.drop hnl)
    have hc4 : ¬ cap - 3 = 0 := by omega
    go_wp2_with fail
    go_ret
    exact ⟨v', off + 3, cap - 3, rfl, HO3, HC2, HS⟩
set_option maxRecDepth 100000 in
theorem asciiDigits (a b : Nat) (ha : 48 ≤ a ∧ a ≤ 57) (hb : 48 ≤ b ∧ b ≤ 57) (w : World) : Calls Tryz.prog 103 #[.int .u8 a, .int .u8 b] w fun e w' => e = .returned (.tuple #[.int .u8 ((130 + ((a - 48) * 10 + (b - 48)) : Nat) : Int), .nilIface]) ∧ w = w' := by
  have hda : isD a = true := by unfold isD; simp; omega
  have hdb : isD b = true := by unfold isD; simp; omega
  have H1 := Lib.hid (fun W => isDigit a (by omega) W)
  have H2 := Lib.hid (fun W => isDigit b (by omega) W)
  rw [hda] at H1
  rw [hdb] at H2
  obtain ⟨x1, hx1⟩ : ∃ x1, x1 = a - 48 := ⟨_, rfl⟩
  obtain ⟨x2, hx2⟩ : ∃ x2, x2 = x1 * 10 := ⟨_, rfl⟩
  obtain ⟨y1, hy1⟩ : ∃ y1, y1 = b - 48 := ⟨_, rfl⟩
  obtain ⟨s1, hs1⟩ : ∃ s1, s1 = x2 + y1 := ⟨_, rfl⟩
  obtain ⟨s2, hs2⟩ : ∃ s2, s2 = s1 + 130 := ⟨_, rfl⟩
  have e : 130 + ((a - 48) * 10 + (b - 48)) = s2 := by omega
  rw [e]
  have w1 : IntKind.u8.wrap ((a : Int) - 48) = (x1 : Int) := by rw [IntKind.wrap_u8]; omega
  have w2 : IntKind.u8.wrap ((x1 : Int) * 10) = (x2 : Int) := by rw [IntKind.wrap_u8]; omega
  have w3 : IntKind.u8.wrap ((b : Int) - 48) = (y1 : Int) := by rw [IntKind.wrap_u8]; omega
  have w4 : IntKind.u8.wrap ((x2 : Int) + (y1 : Int)) = (s1 : Int) := by rw [IntKind.wrap_u8]; omega
  have w5 : IntKind.u8.wrap ((s1 : Int) + 130) = (s2 : Int) := by rw [IntKind.wrap_u8]; omega
  clear hx1 hx2 hy1 hs1 hs2 e hda hdb
  go_enter Tryz.func103, Tryz.ntmps103
  go_wp2_with fail
  refine (H1.out _).mono ?_
  rintro e w' ⟨rfl, rfl⟩
  go_wp2_with fail
  refine (H2.out _).mono ?_
  rintro e w' ⟨rfl, rfl⟩
  go_wp2_with fail
  go_ret2
  exact ⟨rfl, rfl⟩
/-- How many digits: two or more just where two stand there. -/
def DigPost (msg : List Nat) (p : Nat) (w : World) (e : Ending) (w' : World) : Prop := ∃ k : Nat, e = .returned (.int .i64 k) ∧ Hid (2 ≤ k ↔ p + 1 < msg.length ∧ isD (nth msg p) = true ∧ isD (nth msg (p + 1)) = true) ∧ w = w'
set_option maxRecDepth 100000 in
set_option maxHeartbeats 1600000 in
theorem digits (msg : List Nat) (L : Nat) (hL : L = msg.length) (p : Nat) (hp : p < L) (hl : L ≤ 1000) (hb : ∀ i, i < L → nth msg i < 128) (w : World) (b c : Nat) (hc : ∀ i, i < L → w.cell? ⟨b, i, none⟩ = some (.int .u8 (nth msg i : Nat))) :
    Calls Tryz.prog 101 #[.slice (some ⟨b, 0, none⟩) L c, .int .i64 p] w (DigPost msg p w) := by
  have HL := Lib.hid hL
  have HB := Lib.hid hb
  have HC := Lib.hid hc
  obtain ⟨c0, hc0⟩ : ∃ c0, c0 = nth msg p := ⟨_, rfl⟩
  have cp := hc p hp
  rw [← hc0] at cp
  have HC0 := Lib.hid hc0
  have hp0 : (0 : Int) ≤ (p : Int) := by omega
  have hp1 : (p : Int) < (L : Int) := by omega
  clear hL hb hc hc0
  go_enter Tryz.func101, Tryz.ntmps101
  go_wp2_with fail
  go_loopw [5, 7, 8] (fun s i ch wr => ∃ k x : Nat, p + k ≤ L ∧ s = .int .i64 k ∧ i = .int .i64 ((p + k : Nat) : Int) ∧ ch = .int .u8 x ∧ x < 128 ∧ Hid (p + k < L → x = nth msg (p + k)) ∧ Hid (∀ j, j < k → isD (nth msg (p + j)) = true) ∧ w = wr) (fun s i ch _ => 1000 - (intOf s).toNat)
  case atStart => exact ⟨0, c0, by omega, rfl, rfl, rfl, by rw [HC0.out]; exact HB.out p hp, Lib.hid (fun _ => HC0.out), Lib.hid (fun j hj => by omega), rfl⟩
  case round =>
    obtain ⟨k, x, hk, rfl, rfl, rfl, hx, HX, HD, hw⟩ := hrel
    subst hw
    have H1 := Lib.hid (isDigit x hx w)
    obtain ⟨d, hd⟩ : ∃ d, d = isD x := ⟨_, rfl⟩
    rw [← hd] at H1
    have HDD := Lib.hid hd
    obtain ⟨q, hq⟩ : ∃ q, q = p + k := ⟨_, rfl⟩
    rw [← hq] at hk HX ⊢
    have HQ := Lib.hid hq
    clear hd hq
    have fin : Hid (¬ (d = true ∧ q < L) → (2 ≤ k ↔ p + 1 < msg.length ∧ isD (nth msg p) = true ∧ isD (nth msg (p + 1)) = true)) := Lib.hid (fun hno => by
      have hq2 := HQ.out
      have hl2 := HL.out
      constructor
      · intro h2
        exact ⟨by omega, by have := HD.out 0 (by omega); simpa using this, HD.out 1 (by omega)⟩
      · rintro ⟨h1, h2, h3⟩
        rcases Nat.lt_or_ge k 2 with hlt | hge
        · exfalso
          refine hno ⟨?_, by omega⟩
          rw [HDD.out, HX.out (by omega)]
          rcases (show k = 0 ∨ k = 1 by omega) with rfl | rfl
          · rw [hq2]; exact h2
          · rw [hq2]; exact h3
        · exact hge)
    cases d
    · have FIN := Lib.hid (fin.out (by simp))
      clear fin
      go_wp2_with fail
      refine H1.out.mono ?_
      rintro e w' ⟨rfl, rfl⟩
      go_wp2_with fail
      go_ret
      exact ⟨k, rfl, FIN, rfl⟩
    · by_cases hql : q < L
      · have hql' : (q : Int) < (L : Int) := by omega
        have hk0 : k ≤ 1000 := by have := HQ.out; omega
        have HKL : Hid (k < 1000) := Lib.hid (by have := HQ.out; omega)
        have HD2 : Hid (∀ j, j < k + 1 → isD (nth msg (p + j)) = true) := Lib.hid (fun j hj => by
          by_cases e : j = k
          · subst e; rw [← HQ.out, ← HX.out hql]; exact HDD.out.symm
          · exact HD.out j (by omega))
        obtain ⟨q1, hq1⟩ : ∃ q1, q1 = q + 1 := ⟨_, rfl⟩
        have wq : IntKind.i64.wrap ((q : Int) + 1) = (q1 : Int) := by rw [IntKind.wrap_i64]; omega
        have HQ1 := Lib.hid hq1
        have EQ : Hid (q1 = p + (k + 1)) := Lib.hid (by have := HQ.out; omega)
        have hq1n : (0 : Int) ≤ (q1 : Int) := by omega
        have hq1le : q1 ≤ L := by omega
        clear fin hq1
        by_cases hq1l : q1 < L
        · have hq1l' : (q1 : Int) < (L : Int) := by omega
          obtain ⟨x1, hx1⟩ : ∃ x1, x1 = nth msg q1 := ⟨_, rfl⟩
          have c1 := HC.out q1 hq1l
          rw [← hx1] at c1
          have HX1 := Lib.hid hx1
          have hx1b : x1 < 128 := by rw [hx1]; exact HB.out q1 hq1l
          clear hx1
          go_wp2_with fail
          refine H1.out.mono ?_
          rintro e w' ⟨rfl, rfl⟩
          go_wp2_with fail
          go_roundw
          case rel => exact ⟨k + 1, x1, by have := EQ.out; omega, by go_num, by rw [← EQ.out], rfl, hx1b, Lib.hid (fun _ => by rw [← EQ.out]; exact HX1.out), HD2, trivial⟩
          case measure => have := HKL.out; simp [intOf]; omega
        · have hq1l' : ((q1 : Int) < (L : Int)) = False := by simp; omega
          go_wp2_with fail
          refine H1.out.mono ?_
          rintro e w' ⟨rfl, rfl⟩
          go_wp2_with fail
          go_roundw
          case rel => exact ⟨k + 1, x, by have := EQ.out; omega, by go_num, by rw [← EQ.out], rfl, hx, Lib.hid (fun h => by have := EQ.out; omega), HD2, trivial⟩
          case measure => have := HKL.out; simp [intOf]; omega
      · have hql' : ((q : Int) < (L : Int)) = False := by simp; omega
        have FIN := Lib.hid (fin.out (fun h => hql h.2))
        clear fin
        go_wp2_with fail
        refine H1.out.mono ?_
        rintro e w' ⟨rfl, rfl⟩
        go_wp2_with fail
        go_ret
        exact ⟨k, rfl, FIN, rfl⟩
/-- Words in a new row. -/
def EdiPost (l : List Nat) (w : World) (e : Ending) (w' : World) : Prop := ∃ v, e = .returned (.tuple #[v, .nilIface]) ∧ Hid (Off w' w.heap.size 5 v l.length (bys l)) ∧ Hid (Below w.heap.size w w')
theorem grew_below {w w1 w2 : World} {v v2 : Value} {base n : Nat} {e : TypeId} {xs : List Value} (h : Below base w w1) (ho : Off w1 base e v n xs) (hb : base ≤ w1.heap.size) (hg : Grew w1 w2 v v2) : Below base w w2 := by
  obtain ⟨g, off, cap, _, hob, hlt, hbg, _⟩ := ho.block
  exact h.trans (hg.1.below hb fun k hk => by rw [hob] at hk; injection hk with hk; omega)
set_option maxRecDepth 100000 in
set_option maxHeartbeats 3200000 in
theorem ediWords1 (a : Nat) (ha : a < 64) (g off cap : Nat) (w : World) (c0 : w.cell? ⟨g, off, none⟩ = some (.int .u8 a)) :
    Calls Tryz.prog 149 #[.slice (some ⟨g, off, none⟩) 1 cap] w (EdiPost ([a * 4]) w) := by
  obtain ⟨A, hA⟩ : ∃ A, A = a * 262144 := ⟨_, rfl⟩
  have wa : IntKind.i64.wrap ((a : Int) * 262144) = (A : Int) := by rw [IntKind.wrap_i64]; omega
  have wA : IntKind.i64.wrap (A : Int) = (A : Int) := by rw [IntKind.wrap_i64]; omega
  obtain ⟨Y1, hY1⟩ : ∃ Y, Y = A / 65536 := ⟨_, rfl⟩
  obtain ⟨Y2, hY2⟩ : ∃ Y, Y = A / 256 := ⟨_, rfl⟩
  have q1 : (A : Int) / 65536 = (Y1 : Int) := by omega
  have q2 : (A : Int) / 256 = (Y2 : Int) := by omega
  obtain ⟨Z1, hZ1⟩ : ∃ Z, Z = Y1 % 256 := ⟨_, rfl⟩
  have z1 : bits .and .i64 (Y1 : Int) 255 = (Z1 : Int) := by rw [and255 Y1 (by omega), hZ1]
  have zl1 : Z1 < 256 := by omega
  obtain ⟨Z2, hZ2⟩ : ∃ Z, Z = Y2 % 256 := ⟨_, rfl⟩
  have z2 : bits .and .i64 (Y2 : Int) 255 = (Z2 : Int) := by rw [and255 Y2 (by omega), hZ2]
  have zl2 : Z2 < 256 := by omega
  obtain ⟨Z3, hZ3⟩ : ∃ Z, Z = A % 256 := ⟨_, rfl⟩
  have z3 : bits .and .i64 (A : Int) 255 = (Z3 : Int) := by rw [and255 A (by omega), hZ3]
  have zl3 : Z3 < 256 := by omega
  have hE : [a * 4] = [Z1] := by
    rw [show a * 4 = Z1 by omega]
  rw [hE]
  have hm0 := fun X => run_make0 (P := Tryz.prog) 24 5 (.int .u8 0) 1 Tryz.underlying24 Tryz.infoBy rfl (by decide) 3 (by omega) .i64 .i64 3 rfl X
  have HO0 := Lib.hid (off_make0 w 5 (.int .u8 0) 3 w.heap.size (Nat.le_refl _) (by unfold maxLen; omega))
  obtain ⟨W0, hW0⟩ : ∃ W0, W0 = w.alloc (.cells (zeros 3 (.int .u8 0)) 5) := ⟨_, rfl⟩
  rw [← hW0] at HO0
  have HB0 : Hid (Below w.heap.size w W0) := Lib.hid (by rw [hW0]; exact (Below.refl _ _).alloc (Nat.le_refl _) _)
  obtain ⟨bs, hbs⟩ : ∃ bs, bs = w.heap.size := ⟨_, rfl⟩
  rw [← hbs] at HO0 HB0
  have HBS := Lib.hid hbs
  have HW0 := Lib.hid hW0
  have HBL : Hid (bs ≤ W0.heap.size) := Lib.hid (by rw [hbs]; exact HB0.out.size)
  clear hA hY1 hY2 hZ1 hZ2 hZ3 hE hbs hW0
  go_enter Tryz.func149, Tryz.ntmps149
  go_upto_region 19 with (fail)
  rw [← HW0.out, ← HBS.out]
  clear HW0
  go_wp2_with (at_builtin; refine wpList_pushL _ _ 24 bs 5 (.int .u8 0) 1 (.slice (some ⟨bs, 0, none⟩) 0 3) 0 [] (.int .u8 Z1) rfl rfl rfl rfl Tryz.underlying24 Tryz.infoBy rfl rfl (by decide) HO0.out (by omega) HBL.out ?_)
  intro v1 w1 ho1 hg1
  have HO1 := Lib.hid ho1
  have HG1 : Hid (Below bs w w1) := Lib.hid (grew_below HB0.out HO0.out HBL.out hg1)
  have HB1 : Hid (bs ≤ w1.heap.size) := Lib.hid (Nat.le_trans HBL.out hg1.1.size)
  clear ho1 hg1
  go_wp2_with fail
  go_ret2
  exact ⟨v1, rfl, by rw [← HBS.out]; exact HO1, by rw [← HBS.out]; exact HG1⟩
set_option maxRecDepth 100000 in
set_option maxHeartbeats 3200000 in
theorem ediWords2 (a b : Nat) (ha : a < 64) (hb : b < 64) (g off cap : Nat) (w : World) (c0 : w.cell? ⟨g, off, none⟩ = some (.int .u8 a)) (c1 : w.cell? ⟨g, off + 1, none⟩ = some (.int .u8 b)) :
    Calls Tryz.prog 149 #[.slice (some ⟨g, off, none⟩) 2 cap] w (EdiPost ([a * 4 + b / 16, b % 16 * 16]) w) := by
  obtain ⟨A, hA⟩ : ∃ A, A = a * 262144 := ⟨_, rfl⟩
  have wa : IntKind.i64.wrap ((a : Int) * 262144) = (A : Int) := by rw [IntKind.wrap_i64]; omega
  have wA : IntKind.i64.wrap (A : Int) = (A : Int) := by rw [IntKind.wrap_i64]; omega
  obtain ⟨M1, hM1⟩ : ∃ M, M = b * 4096 := ⟨_, rfl⟩
  have wm1 : IntKind.i64.wrap ((b : Int) * 4096) = (M1 : Int) := by rw [IntKind.wrap_i64]; omega
  obtain ⟨S1, hS1⟩ : ∃ S, S = A + M1 := ⟨_, rfl⟩
  have ws1 : IntKind.i64.wrap ((A : Int) + (M1 : Int)) = (S1 : Int) := by rw [IntKind.wrap_i64]; omega
  have wS1 : IntKind.i64.wrap (S1 : Int) = (S1 : Int) := by rw [IntKind.wrap_i64]; omega
  obtain ⟨Y1, hY1⟩ : ∃ Y, Y = S1 / 65536 := ⟨_, rfl⟩
  obtain ⟨Y2, hY2⟩ : ∃ Y, Y = S1 / 256 := ⟨_, rfl⟩
  have q1 : (S1 : Int) / 65536 = (Y1 : Int) := by omega
  have q2 : (S1 : Int) / 256 = (Y2 : Int) := by omega
  obtain ⟨Z1, hZ1⟩ : ∃ Z, Z = Y1 % 256 := ⟨_, rfl⟩
  have z1 : bits .and .i64 (Y1 : Int) 255 = (Z1 : Int) := by rw [and255 Y1 (by omega), hZ1]
  have zl1 : Z1 < 256 := by omega
  obtain ⟨Z2, hZ2⟩ : ∃ Z, Z = Y2 % 256 := ⟨_, rfl⟩
  have z2 : bits .and .i64 (Y2 : Int) 255 = (Z2 : Int) := by rw [and255 Y2 (by omega), hZ2]
  have zl2 : Z2 < 256 := by omega
  obtain ⟨Z3, hZ3⟩ : ∃ Z, Z = S1 % 256 := ⟨_, rfl⟩
  have z3 : bits .and .i64 (S1 : Int) 255 = (Z3 : Int) := by rw [and255 S1 (by omega), hZ3]
  have zl3 : Z3 < 256 := by omega
  have hE : [a * 4 + b / 16, b % 16 * 16] = [Z1, Z2] := by
    rw [show a * 4 + b / 16 = Z1 by omega, show b % 16 * 16 = Z2 by omega]
  rw [hE]
  have hm0 := fun X => run_make0 (P := Tryz.prog) 24 5 (.int .u8 0) 1 Tryz.underlying24 Tryz.infoBy rfl (by decide) 3 (by omega) .i64 .i64 3 rfl X
  have HO0 := Lib.hid (off_make0 w 5 (.int .u8 0) 3 w.heap.size (Nat.le_refl _) (by unfold maxLen; omega))
  obtain ⟨W0, hW0⟩ : ∃ W0, W0 = w.alloc (.cells (zeros 3 (.int .u8 0)) 5) := ⟨_, rfl⟩
  rw [← hW0] at HO0
  have HB0 : Hid (Below w.heap.size w W0) := Lib.hid (by rw [hW0]; exact (Below.refl _ _).alloc (Nat.le_refl _) _)
  obtain ⟨bs, hbs⟩ : ∃ bs, bs = w.heap.size := ⟨_, rfl⟩
  rw [← hbs] at HO0 HB0
  have HBS := Lib.hid hbs
  have HW0 := Lib.hid hW0
  have HBL : Hid (bs ≤ W0.heap.size) := Lib.hid (by rw [hbs]; exact HB0.out.size)
  clear hA hM1 hS1 hY1 hY2 hZ1 hZ2 hZ3 hE hbs hW0
  go_enter Tryz.func149, Tryz.ntmps149
  go_upto_region 19 with (fail)
  rw [← HW0.out, ← HBS.out]
  clear HW0
  go_wp2_with (at_builtin; refine wpList_pushL _ _ 24 bs 5 (.int .u8 0) 1 (.slice (some ⟨bs, 0, none⟩) 0 3) 0 [] (.int .u8 Z1) rfl rfl rfl rfl Tryz.underlying24 Tryz.infoBy rfl rfl (by decide) HO0.out (by omega) HBL.out ?_)
  intro v1 w1 ho1 hg1
  have HO1 := Lib.hid ho1
  have HG1 : Hid (Below bs w w1) := Lib.hid (grew_below HB0.out HO0.out HBL.out hg1)
  have HB1 : Hid (bs ≤ w1.heap.size) := Lib.hid (Nat.le_trans HBL.out hg1.1.size)
  clear ho1 hg1
  go_wp2_with (at_builtin; refine wpList_pushL _ _ 24 bs 5 (.int .u8 0) 1 v1 (1) ([] ++ [.int .u8 Z1]) (.int .u8 Z2) rfl rfl rfl rfl Tryz.underlying24 Tryz.infoBy rfl rfl (by decide) HO1.out (by omega) HB1.out ?_)
  intro v2 w2 ho2 hg2
  have HO2 := Lib.hid ho2
  have HG2 : Hid (Below bs w w2) := Lib.hid (grew_below HG1.out HO1.out HB1.out hg2)
  have HB2 : Hid (bs ≤ w2.heap.size) := Lib.hid (Nat.le_trans HB1.out hg2.1.size)
  clear ho2 hg2
  go_wp2_with fail
  go_ret2
  exact ⟨v2, rfl, by rw [← HBS.out]; exact HO2, by rw [← HBS.out]; exact HG2⟩
set_option maxRecDepth 100000 in
set_option maxHeartbeats 3200000 in
theorem ediWords3 (a b c : Nat) (ha : a < 64) (hb : b < 64) (hc : c < 64) (g off cap : Nat) (w : World) (c0 : w.cell? ⟨g, off, none⟩ = some (.int .u8 a)) (c1 : w.cell? ⟨g, off + 1, none⟩ = some (.int .u8 b)) (c2 : w.cell? ⟨g, off + 2, none⟩ = some (.int .u8 c)) :
    Calls Tryz.prog 149 #[.slice (some ⟨g, off, none⟩) 3 cap] w (EdiPost (DV.six3 a b c 0) w) := by
  obtain ⟨A, hA⟩ : ∃ A, A = a * 262144 := ⟨_, rfl⟩
  have wa : IntKind.i64.wrap ((a : Int) * 262144) = (A : Int) := by rw [IntKind.wrap_i64]; omega
  have wA : IntKind.i64.wrap (A : Int) = (A : Int) := by rw [IntKind.wrap_i64]; omega
  obtain ⟨M1, hM1⟩ : ∃ M, M = b * 4096 := ⟨_, rfl⟩
  have wm1 : IntKind.i64.wrap ((b : Int) * 4096) = (M1 : Int) := by rw [IntKind.wrap_i64]; omega
  obtain ⟨S1, hS1⟩ : ∃ S, S = A + M1 := ⟨_, rfl⟩
  have ws1 : IntKind.i64.wrap ((A : Int) + (M1 : Int)) = (S1 : Int) := by rw [IntKind.wrap_i64]; omega
  have wS1 : IntKind.i64.wrap (S1 : Int) = (S1 : Int) := by rw [IntKind.wrap_i64]; omega
  obtain ⟨M2, hM2⟩ : ∃ M, M = c * 64 := ⟨_, rfl⟩
  have wm2 : IntKind.i64.wrap ((c : Int) * 64) = (M2 : Int) := by rw [IntKind.wrap_i64]; omega
  obtain ⟨S2, hS2⟩ : ∃ S, S = S1 + M2 := ⟨_, rfl⟩
  have ws2 : IntKind.i64.wrap ((S1 : Int) + (M2 : Int)) = (S2 : Int) := by rw [IntKind.wrap_i64]; omega
  have wS2 : IntKind.i64.wrap (S2 : Int) = (S2 : Int) := by rw [IntKind.wrap_i64]; omega
  obtain ⟨Y1, hY1⟩ : ∃ Y, Y = S2 / 65536 := ⟨_, rfl⟩
  obtain ⟨Y2, hY2⟩ : ∃ Y, Y = S2 / 256 := ⟨_, rfl⟩
  have q1 : (S2 : Int) / 65536 = (Y1 : Int) := by omega
  have q2 : (S2 : Int) / 256 = (Y2 : Int) := by omega
  obtain ⟨Z1, hZ1⟩ : ∃ Z, Z = Y1 % 256 := ⟨_, rfl⟩
  have z1 : bits .and .i64 (Y1 : Int) 255 = (Z1 : Int) := by rw [and255 Y1 (by omega), hZ1]
  have zl1 : Z1 < 256 := by omega
  obtain ⟨Z2, hZ2⟩ : ∃ Z, Z = Y2 % 256 := ⟨_, rfl⟩
  have z2 : bits .and .i64 (Y2 : Int) 255 = (Z2 : Int) := by rw [and255 Y2 (by omega), hZ2]
  have zl2 : Z2 < 256 := by omega
  obtain ⟨Z3, hZ3⟩ : ∃ Z, Z = S2 % 256 := ⟨_, rfl⟩
  have z3 : bits .and .i64 (S2 : Int) 255 = (Z3 : Int) := by rw [and255 S2 (by omega), hZ3]
  have zl3 : Z3 < 256 := by omega
  have hE : DV.six3 a b c 0 = [Z1, Z2, Z3] := by
    unfold DV.six3
    rw [show a * 4 + b / 16 = Z1 by omega, show b % 16 * 16 + c / 4 = Z2 by omega, show c % 4 * 64 + 0 = Z3 by omega]
  rw [hE]
  have hm0 := fun X => run_make0 (P := Tryz.prog) 24 5 (.int .u8 0) 1 Tryz.underlying24 Tryz.infoBy rfl (by decide) 3 (by omega) .i64 .i64 3 rfl X
  have HO0 := Lib.hid (off_make0 w 5 (.int .u8 0) 3 w.heap.size (Nat.le_refl _) (by unfold maxLen; omega))
  obtain ⟨W0, hW0⟩ : ∃ W0, W0 = w.alloc (.cells (zeros 3 (.int .u8 0)) 5) := ⟨_, rfl⟩
  rw [← hW0] at HO0
  have HB0 : Hid (Below w.heap.size w W0) := Lib.hid (by rw [hW0]; exact (Below.refl _ _).alloc (Nat.le_refl _) _)
  obtain ⟨bs, hbs⟩ : ∃ bs, bs = w.heap.size := ⟨_, rfl⟩
  rw [← hbs] at HO0 HB0
  have HBS := Lib.hid hbs
  have HW0 := Lib.hid hW0
  have HBL : Hid (bs ≤ W0.heap.size) := Lib.hid (by rw [hbs]; exact HB0.out.size)
  clear hA hM1 hM2 hS1 hS2 hY1 hY2 hZ1 hZ2 hZ3 hE hbs hW0
  go_enter Tryz.func149, Tryz.ntmps149
  go_upto_region 19 with (fail)
  rw [← HW0.out, ← HBS.out]
  clear HW0
  go_wp2_with (at_builtin; refine wpList_pushL _ _ 24 bs 5 (.int .u8 0) 1 (.slice (some ⟨bs, 0, none⟩) 0 3) 0 [] (.int .u8 Z1) rfl rfl rfl rfl Tryz.underlying24 Tryz.infoBy rfl rfl (by decide) HO0.out (by omega) HBL.out ?_)
  intro v1 w1 ho1 hg1
  have HO1 := Lib.hid ho1
  have HG1 : Hid (Below bs w w1) := Lib.hid (grew_below HB0.out HO0.out HBL.out hg1)
  have HB1 : Hid (bs ≤ w1.heap.size) := Lib.hid (Nat.le_trans HBL.out hg1.1.size)
  clear ho1 hg1
  go_wp2_with (at_builtin; refine wpList_pushL _ _ 24 bs 5 (.int .u8 0) 1 v1 (1) ([] ++ [.int .u8 Z1]) (.int .u8 Z2) rfl rfl rfl rfl Tryz.underlying24 Tryz.infoBy rfl rfl (by decide) HO1.out (by omega) HB1.out ?_)
  intro v2 w2 ho2 hg2
  have HO2 := Lib.hid ho2
  have HG2 : Hid (Below bs w w2) := Lib.hid (grew_below HG1.out HO1.out HB1.out hg2)
  have HB2 : Hid (bs ≤ w2.heap.size) := Lib.hid (Nat.le_trans HB1.out hg2.1.size)
  clear ho2 hg2
  go_wp2_with (at_builtin; refine wpList_pushL _ _ 24 bs 5 (.int .u8 0) 1 v2 (2) (([] ++ [.int .u8 Z1]) ++ [.int .u8 Z2]) (.int .u8 Z3) rfl rfl rfl rfl Tryz.underlying24 Tryz.infoBy rfl rfl (by decide) HO2.out (by omega) HB2.out ?_)
  intro v3 w3 ho3 hg3
  have HO3 := Lib.hid ho3
  have HG3 : Hid (Below bs w w3) := Lib.hid (grew_below HG2.out HO2.out HB2.out hg3)
  have HB3 : Hid (bs ≤ w3.heap.size) := Lib.hid (Nat.le_trans HB2.out hg3.1.size)
  clear ho3 hg3
  go_wp2_with fail
  go_ret2
  exact ⟨v3, rfl, by rw [← HBS.out]; exact HO3, by rw [← HBS.out]; exact HG3⟩
set_option maxRecDepth 100000 in
set_option maxHeartbeats 3200000 in
theorem ediWords4 (a b c d : Nat) (ha : a < 64) (hb : b < 64) (hc : c < 64) (hd : d < 64) (g off cap : Nat) (w : World) (c0 : w.cell? ⟨g, off, none⟩ = some (.int .u8 a)) (c1 : w.cell? ⟨g, off + 1, none⟩ = some (.int .u8 b)) (c2 : w.cell? ⟨g, off + 2, none⟩ = some (.int .u8 c)) (c3 : w.cell? ⟨g, off + 3, none⟩ = some (.int .u8 d)) :
    Calls Tryz.prog 149 #[.slice (some ⟨g, off, none⟩) 4 cap] w (EdiPost (DV.six3 a b c d) w) := by
  obtain ⟨A, hA⟩ : ∃ A, A = a * 262144 := ⟨_, rfl⟩
  have wa : IntKind.i64.wrap ((a : Int) * 262144) = (A : Int) := by rw [IntKind.wrap_i64]; omega
  have wA : IntKind.i64.wrap (A : Int) = (A : Int) := by rw [IntKind.wrap_i64]; omega
  obtain ⟨M1, hM1⟩ : ∃ M, M = b * 4096 := ⟨_, rfl⟩
  have wm1 : IntKind.i64.wrap ((b : Int) * 4096) = (M1 : Int) := by rw [IntKind.wrap_i64]; omega
  obtain ⟨S1, hS1⟩ : ∃ S, S = A + M1 := ⟨_, rfl⟩
  have ws1 : IntKind.i64.wrap ((A : Int) + (M1 : Int)) = (S1 : Int) := by rw [IntKind.wrap_i64]; omega
  have wS1 : IntKind.i64.wrap (S1 : Int) = (S1 : Int) := by rw [IntKind.wrap_i64]; omega
  obtain ⟨M2, hM2⟩ : ∃ M, M = c * 64 := ⟨_, rfl⟩
  have wm2 : IntKind.i64.wrap ((c : Int) * 64) = (M2 : Int) := by rw [IntKind.wrap_i64]; omega
  obtain ⟨S2, hS2⟩ : ∃ S, S = S1 + M2 := ⟨_, rfl⟩
  have ws2 : IntKind.i64.wrap ((S1 : Int) + (M2 : Int)) = (S2 : Int) := by rw [IntKind.wrap_i64]; omega
  have wS2 : IntKind.i64.wrap (S2 : Int) = (S2 : Int) := by rw [IntKind.wrap_i64]; omega
  obtain ⟨S3, hS3⟩ : ∃ S, S = S2 + d := ⟨_, rfl⟩
  have ws3 : IntKind.i64.wrap ((S2 : Int) + (d : Int)) = (S3 : Int) := by rw [IntKind.wrap_i64]; omega
  have wS3 : IntKind.i64.wrap (S3 : Int) = (S3 : Int) := by rw [IntKind.wrap_i64]; omega
  obtain ⟨Y1, hY1⟩ : ∃ Y, Y = S3 / 65536 := ⟨_, rfl⟩
  obtain ⟨Y2, hY2⟩ : ∃ Y, Y = S3 / 256 := ⟨_, rfl⟩
  have q1 : (S3 : Int) / 65536 = (Y1 : Int) := by omega
  have q2 : (S3 : Int) / 256 = (Y2 : Int) := by omega
  obtain ⟨Z1, hZ1⟩ : ∃ Z, Z = Y1 % 256 := ⟨_, rfl⟩
  have z1 : bits .and .i64 (Y1 : Int) 255 = (Z1 : Int) := by rw [and255 Y1 (by omega), hZ1]
  have zl1 : Z1 < 256 := by omega
  obtain ⟨Z2, hZ2⟩ : ∃ Z, Z = Y2 % 256 := ⟨_, rfl⟩
  have z2 : bits .and .i64 (Y2 : Int) 255 = (Z2 : Int) := by rw [and255 Y2 (by omega), hZ2]
  have zl2 : Z2 < 256 := by omega
  obtain ⟨Z3, hZ3⟩ : ∃ Z, Z = S3 % 256 := ⟨_, rfl⟩
  have z3 : bits .and .i64 (S3 : Int) 255 = (Z3 : Int) := by rw [and255 S3 (by omega), hZ3]
  have zl3 : Z3 < 256 := by omega
  have hE : DV.six3 a b c d = [Z1, Z2, Z3] := by
    unfold DV.six3
    rw [show a * 4 + b / 16 = Z1 by omega, show b % 16 * 16 + c / 4 = Z2 by omega, show c % 4 * 64 + d = Z3 by omega]
  rw [hE]
  have hm0 := fun X => run_make0 (P := Tryz.prog) 24 5 (.int .u8 0) 1 Tryz.underlying24 Tryz.infoBy rfl (by decide) 3 (by omega) .i64 .i64 3 rfl X
  have HO0 := Lib.hid (off_make0 w 5 (.int .u8 0) 3 w.heap.size (Nat.le_refl _) (by unfold maxLen; omega))
  obtain ⟨W0, hW0⟩ : ∃ W0, W0 = w.alloc (.cells (zeros 3 (.int .u8 0)) 5) := ⟨_, rfl⟩
  rw [← hW0] at HO0
  have HB0 : Hid (Below w.heap.size w W0) := Lib.hid (by rw [hW0]; exact (Below.refl _ _).alloc (Nat.le_refl _) _)
  obtain ⟨bs, hbs⟩ : ∃ bs, bs = w.heap.size := ⟨_, rfl⟩
  rw [← hbs] at HO0 HB0
  have HBS := Lib.hid hbs
  have HW0 := Lib.hid hW0
  have HBL : Hid (bs ≤ W0.heap.size) := Lib.hid (by rw [hbs]; exact HB0.out.size)
  clear hA hM1 hM2 hS1 hS2 hS3 hY1 hY2 hZ1 hZ2 hZ3 hE hbs hW0
  go_enter Tryz.func149, Tryz.ntmps149
  go_upto_region 19 with (fail)
  rw [← HW0.out, ← HBS.out]
  clear HW0
  go_wp2_with (at_builtin; refine wpList_pushL _ _ 24 bs 5 (.int .u8 0) 1 (.slice (some ⟨bs, 0, none⟩) 0 3) 0 [] (.int .u8 Z1) rfl rfl rfl rfl Tryz.underlying24 Tryz.infoBy rfl rfl (by decide) HO0.out (by omega) HBL.out ?_)
  intro v1 w1 ho1 hg1
  have HO1 := Lib.hid ho1
  have HG1 : Hid (Below bs w w1) := Lib.hid (grew_below HB0.out HO0.out HBL.out hg1)
  have HB1 : Hid (bs ≤ w1.heap.size) := Lib.hid (Nat.le_trans HBL.out hg1.1.size)
  clear ho1 hg1
  go_wp2_with (at_builtin; refine wpList_pushL _ _ 24 bs 5 (.int .u8 0) 1 v1 (1) ([] ++ [.int .u8 Z1]) (.int .u8 Z2) rfl rfl rfl rfl Tryz.underlying24 Tryz.infoBy rfl rfl (by decide) HO1.out (by omega) HB1.out ?_)
  intro v2 w2 ho2 hg2
  have HO2 := Lib.hid ho2
  have HG2 : Hid (Below bs w w2) := Lib.hid (grew_below HG1.out HO1.out HB1.out hg2)
  have HB2 : Hid (bs ≤ w2.heap.size) := Lib.hid (Nat.le_trans HB1.out hg2.1.size)
  clear ho2 hg2
  go_wp2_with (at_builtin; refine wpList_pushL _ _ 24 bs 5 (.int .u8 0) 1 v2 (2) (([] ++ [.int .u8 Z1]) ++ [.int .u8 Z2]) (.int .u8 Z3) rfl rfl rfl rfl Tryz.underlying24 Tryz.infoBy rfl rfl (by decide) HO2.out (by omega) HB2.out ?_)
  intro v3 w3 ho3 hg3
  have HO3 := Lib.hid ho3
  have HG3 : Hid (Below bs w w3) := Lib.hid (grew_below HG2.out HO2.out HB2.out hg3)
  have HB3 : Hid (bs ≤ w3.heap.size) := Lib.hid (Nat.le_trans HB2.out hg3.1.size)
  clear ho3 hg3
  go_wp2_with fail
  go_ret2
  exact ⟨v3, rfl, by rw [← HBS.out]; exact HO3, by rw [← HBS.out]; exact HG3⟩
end Go.Proofs.YtcadknfcahmdcaaGreat
