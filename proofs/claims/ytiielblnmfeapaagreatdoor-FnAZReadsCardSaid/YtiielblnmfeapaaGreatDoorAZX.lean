/-
  AZWrite, walked. No condition beyond the bounds that the theorem states.
-/
import Derived.Test.YtiielblnmfeapaaGreatDoorAZV
import Derived.Test.YtiielblnmfeapaaGreatDoorAZQ2
import Derived.Outline
namespace Go.Proofs.YtiielblnmfeapaaGreatDoor
open Go.RowKit Go.Qz
set_option linter.unusedVariables false

/-- What has been written behind so many things, by the bytes alone. -/
inductive WIt (z : Nat → Nat) (n : Nat) : Nat → Nat → List Bool → Prop where
  | nil : WIt z n 0 0 []
  | lat {t mode jj cn m2 : Nat} {bits : List Bool} (h : WIt z n t mode bits) (hk : z (2 * t) % 16 < 3) (hj : jj = z (2 * t + 1) % (latL mode).length) (hc : cn = nth (latL mode) jj) (hm : m2 = nth (latM mode) jj) : WIt z n (t + 1) m2 (bits ++ bitsOf cn (wd mode))
  | pun {t mode c : Nat} {bits : List Bool} (h : WIt z n t mode bits) (hk : z (2 * t) % 16 = 3) (hm : mode ≠ 3) (hs : SayIs 3 (z (2 * t + 1)) c) : WIt z n (t + 1) mode (bits ++ bitsOf 0 (wd mode) ++ bitsOf c (wd 3))
  | up1 {t c : Nat} {bits : List Bool} (h : WIt z n t 1 bits) (hk : z (2 * t) % 16 = 4) (hs : SayIs 0 (z (2 * t + 1)) c) : WIt z n (t + 1) 1 (bits ++ bitsOf 28 (wd 1) ++ bitsOf c (wd 0))
  | up4 {t c : Nat} {bits : List Bool} (h : WIt z n t 4 bits) (hk : z (2 * t) % 16 = 4) (hs : SayIs 0 (z (2 * t + 1)) c) : WIt z n (t + 1) 4 (bits ++ bitsOf 15 (wd 4) ++ bitsOf c (wd 0))
  | non {t mode : Nat} {bits : List Bool} (h : WIt z n t mode bits) (hk : z (2 * t) % 16 = 5) (h0 : n ≤ 2 * t + 2 ∨ z (2 * t + 1) % 70 = 0 ∨ ¬ mode ≤ 2) : WIt z n (t + 1) mode bits
  | byt {t mode nb : Nat} {bits : List Bool} {l : List Nat} (h : WIt z n t mode bits) (hk : z (2 * t) % 16 = 5) (hm : mode ≤ 2) (hnb : nb = min n (2 * t + 2 + z (2 * t + 1) % 70) - (2 * t + 2)) (h0 : 0 < nb) (ha : l = (List.range nb).map fun j => z (2 * t + 2 + j) % 128) : WIt z n (t + 1) mode (bits ++ (bitsOf 31 5 ++ (hdr l.length ++ l.flatMap (bitsOf · 8))))
  | ch {t mode c : Nat} {bits : List Bool} (h : WIt z n t mode bits) (hk : z (2 * t) % 16 = 3 ∧ mode = 3 ∨ z (2 * t) % 16 = 4 ∧ mode ≠ 1 ∧ mode ≠ 4 ∨ 5 < z (2 * t) % 16) (hs : SayIs mode (z (2 * t + 1)) c) : WIt z n (t + 1) mode (bits ++ bitsOf c (wd mode))
theorem WIt.uniq {z : Nat → Nat} {n t m : Nat} {b : List Bool} (h : WIt z n t m b) : ∀ {m' : Nat} {b' : List Bool}, WIt z n t m' b' → m = m' ∧ b = b' := by
  induction h with
  | nil => intro m' b' h'; cases h'; exact ⟨rfl, rfl⟩
  | lat h hk hj hc hm ih =>
    intro m' b' h'
    cases h' with
    | lat h' hk' hj' hc' hm' => obtain ⟨rfl, rfl⟩ := ih h'; subst hj hj'; subst hc hc'; subst hm hm'; exact ⟨rfl, rfl⟩
    | pun h' hk' _ _ => omega
    | up1 h' hk' _ => omega
    | up4 h' hk' _ => omega
    | non h' hk' _ => omega
    | byt h' hk' _ _ _ _ => omega
    | ch h' hk' _ => omega
  | pun h hk hm hs ih =>
    intro m' b' h'
    cases h' with
    | lat h' hk' hj' hc' hm' => omega
    | pun h' hk' _ hs' => obtain ⟨rfl, rfl⟩ := ih h'; rw [hs.uniq hs']; exact ⟨rfl, rfl⟩
    | up1 h' hk' _ => omega
    | up4 h' hk' _ => omega
    | non h' hk' _ => omega
    | byt h' hk' _ _ _ _ => omega
    | ch h' hk' _ => obtain ⟨rfl, rfl⟩ := ih h'; omega
  | up1 h hk hs ih =>
    intro m' b' h'
    cases h' with
    | lat h' hk' hj' hc' hm' => omega
    | pun h' hk' _ hs' => omega
    | up1 h' hk' hs' => obtain ⟨_, rfl⟩ := ih h'; rw [hs.uniq hs']; exact ⟨rfl, rfl⟩
    | up4 h' hk' _ => have := (ih h').1; omega
    | non h' hk' _ => omega
    | byt h' hk' _ _ _ _ => omega
    | ch h' hk' _ => have := (ih h').1; omega
  | up4 h hk hs ih =>
    intro m' b' h'
    cases h' with
    | lat h' hk' hj' hc' hm' => omega
    | pun h' hk' _ hs' => omega
    | up1 h' hk' hs' => have := (ih h').1; omega
    | up4 h' hk' hs' => obtain ⟨_, rfl⟩ := ih h'; rw [hs.uniq hs']; exact ⟨rfl, rfl⟩
    | non h' hk' _ => omega
    | byt h' hk' _ _ _ _ => omega
    | ch h' hk' _ => have := (ih h').1; omega
  | non h hk h0 ih =>
    intro m' b' h'
    cases h' with
    | lat h' hk' hj' hc' hm' => omega
    | pun h' hk' _ hs' => omega
    | up1 h' hk' hs' => omega
    | up4 h' hk' hs' => omega
    | non h' hk' _ => exact ih h'
    | byt h' hk' hm' hnb' h0' ha' => have := (ih h').1; omega
    | ch h' hk' _ => omega
  | byt h hk hm hnb h0 ha ih =>
    intro m' b' h'
    cases h' with
    | lat h' hk' hj' hc' hm' => omega
    | pun h' hk' _ hs' => omega
    | up1 h' hk' hs' => omega
    | up4 h' hk' hs' => omega
    | non h' hk' _ => have := (ih h').1; omega
    | byt h' hk' hm' hnb' h0' ha' => obtain ⟨rfl, rfl⟩ := ih h'; subst hnb hnb'; subst ha ha'; exact ⟨rfl, rfl⟩
    | ch h' hk' _ => omega
  | ch h hk hs ih =>
    intro m' b' h'
    cases h' with
    | lat h' hk' hj' hc' hm' => omega
    | pun h' hk' _ hs' => obtain ⟨rfl, rfl⟩ := ih h'; omega
    | up1 h' hk' hs' => have := (ih h').1; omega
    | up4 h' hk' hs' => have := (ih h').1; omega
    | non h' hk' _ => omega
    | byt h' hk' _ _ _ _ => omega
    | ch h' hk' hs' => obtain ⟨rfl, rfl⟩ := ih h'; rw [hs.uniq hs']; exact ⟨rfl, rfl⟩
/-- All that is written by these bytes. -/
def Wrote (z : Nat → Nat) (n most : Nat) (bits : List Bool) : Prop := ∃ t mode, WIt z n t mode bits ∧ (∀ i, i < t → 2 * i + 1 < n ∧ i < most) ∧ ¬ (2 * t + 1 < n ∧ t < most)
theorem Wrote.uniq {z : Nat → Nat} {n most : Nat} {b b' : List Bool} (h : Wrote z n most b) (h' : Wrote z n most b') : b = b' := by
  obtain ⟨t, m, h1, h2, h3⟩ := h
  obtain ⟨t', m', h1', h2', h3'⟩ := h'
  rcases Nat.lt_trichotomy t t' with h | h | h
  · exact absurd (h2' t h) h3
  · subst h; exact (h1.uniq h1').2
  · exact absurd (h2 t' h) h3'

/-- Bits of a message and its text. -/
def WritePost (z : Nat → Nat) (n most : Nat) (w : World) (e : Ending) (w' : World) : Prop :=
  ∃ v bits T ms mode, e = .returned (.tuple #[v, .string (strB T)]) ∧ w'.ownsRow w.heap.size 4 1 v bits.length (bits.map Value.bool) ∧ Runs (0, 0) ms bits T (mode, mode) ∧ mode < 5 ∧ bits.length ≤ 700 * 201 ∧ T.length ≤ 70 * 201 ∧ (∀ x, x ∈ T → x < 128) ∧ Below w.heap.size w w' ∧ Wrote z n most bits

set_option maxRecDepth 100000 in
set_option maxHeartbeats 12800000 in
theorem azWrite (A : Option Addr) (n c : Nat) (z : Nat → Nat) (most : Nat) (hmost : most ≤ 200) (hnc : n ≤ c) (hcl : c ≤ 9223372036854775807) (hn : n ≤ 2147483647) (hz : ∀ j, j < n → z j < 256) (w : World) (h : Rd w A n (fun j => .int .u8 (z j : Nat))) :
    Calls Tryz.prog 8 #[.slice A n c, .int .i64 most] w (WritePost z n most w) := by
  have HZ := Lib.hid hz
  have HR := Lib.hid h
  obtain ⟨E, hE⟩ : ∃ E, E = w.heap.size := ⟨_, rfl⟩
  obtain ⟨most2, hmost2⟩ : ∃ m2, m2 = 2 * most := ⟨_, rfl⟩
  have hm2 : (2 : Int) * (most : Int) = (most2 : Int) := by omega
  have hm2l : most2 ≤ 400 := by omega
  have HM2 := Lib.hid hmost2
  clear hz h hmost2
  go_enter Tryz.func8, Tryz.ntmps8
  go_wp2_with fail
  have hI : Arr (w.alloc (.cells #[.slice none 0 0, .string ⟨#[]⟩, .int .i64 0] 61)) 61 w.heap.size [.slice none 0 0, .string ⟨#[]⟩, .int .i64 0] := Arr.new _ _ _
  have hB : Below w.heap.size w (w.alloc (.cells #[.slice none 0 0, .string ⟨#[]⟩, .int .i64 0] 61)) := (Below.refl _ _).alloc (Nat.le_refl _) _
  have hsz : w.heap.size < (w.alloc (.cells #[.slice none 0 0, .string ⟨#[]⟩, .int .i64 0] 61)).heap.size := by simp
  obtain ⟨W0, hW0⟩ : ∃ W0, W0 = w.alloc (.cells #[.slice none 0 0, .string ⟨#[]⟩, .int .i64 0] 61) := ⟨_, rfl⟩
  rw [← hW0] at hI hB hsz ⊢
  rw [← hE] at hI hB hsz ⊢
  have hM0 : Msg E W0 E 0 0 (.slice none 0 0) [] [] := ⟨⟨hI, World.ownsRow_nil _ _ _ _⟩, ⟨[], .nil _⟩, by simp, by simp, by simp⟩
  have HM0 := Lib.hid hM0
  have HB0 := Lib.hid hB
  have HSZ0 := Lib.hid hsz
  have HE := Lib.hid hE
  clear hI hB hsz hW0 hM0 hE
  go_loopw [7] (fun i wr => ∃ (t mode : Nat) (v : Value) (bits : List Bool) (T : List Nat), i = .int .i64 ((2 * t : Nat) : Int) ∧ t ≤ 201 ∧ mode < 5 ∧ 2 * t ≤ n + 1 ∧ Hid (Msg E wr E t mode v bits T) ∧ Hid (Below E w wr) ∧ Hid (E < wr.heap.size) ∧ Hid (WIt z n t mode bits ∧ ∀ i, i < t → 2 * i + 1 < n ∧ i < most)) (fun i _ => n + 2 - (intOf i).toNat)
  case atStart => exact ⟨0, 0, _, [], [], rfl, by omega, by omega, by omega, HM0, HB0, HSZ0, Lib.hid ⟨.nil, fun i hi => by omega⟩⟩
  case round =>
    obtain ⟨t, mode, v, bits, T, rfl, ht, hmd, htn, HM, HBE, HSZ, HWI⟩ := hrel
    clear HM0 HB0 HSZ0
    obtain ⟨q, hq⟩ : ∃ q, q = 2 * t := ⟨_, rfl⟩
    rw [← hq]
    by_cases hgo : q + 1 < n ∧ q < most2
    · have HGO : Hid (∀ i, i < t + 1 → 2 * i + 1 < n ∧ i < most) := Lib.hid (fun i hi => by
        have h5 := HM2.out
        by_cases h6 : i < t
        · exact HWI.out.2 i h6
        · obtain rfl : i = t := by omega
          omega)
      obtain ⟨hq1, hq2⟩ := hgo
      have hqi1 : (q : Int) + 1 < (n : Int) := by omega
      have hqi2 : (q : Int) < (most2 : Int) := by omega
      have hq0 : (0 : Int) ≤ (q : Int) := by omega
      obtain ⟨bb, bo, e, hbb, hbc⟩ := HR.out (by omega)
      subst e
      have hbbE : bb < E := by rw [HE.out]; exact hbb
      have hc1 : wr.cell? ⟨bb, bo + (q + 1), none⟩ = some (.int .u8 (z (q + 1) : Nat)) := (HBE.out.cell (p := ⟨bb, bo + (q + 1), none⟩) hbbE).trans (hbc (q + 1) hq1)
      have hc0 : wr.cell? ⟨bb, bo + q, none⟩ = some (.int .u8 (z q : Nat)) := (HBE.out.cell (p := ⟨bb, bo + q, none⟩) hbbE).trans (hbc q (by omega))
      have hx256 := HZ.out (q + 1) hq1
      have hy256 := HZ.out q (by omega)
      obtain ⟨x, hx⟩ : ∃ x, x = z (q + 1) := ⟨_, rfl⟩
      obtain ⟨y, hy⟩ : ∃ y, y = z q := ⟨_, rfl⟩
      rw [← hx] at hc1 hx256
      rw [← hy] at hc0 hy256
      obtain ⟨kk, hkk⟩ : ∃ kk, kk = y % 16 := ⟨_, rfl⟩
      have ek : (y : Int) % 16 = (kk : Int) := by omega
      have hk16 : kk < 16 := by omega
      have HQ := Lib.hid hq
      have ht200 : t ≤ 200 := by omega
      have hbits : bits.length < 200000 := by have := HM.out.2.2.1; omega
      have hTl : T.length < 200000 := by have := HM.out.2.2.2.1; omega
      have HBC : Hid (∀ j, j < n → w.cell? ⟨bb, bo + j, none⟩ = some (.int .u8 (z j : Nat))) := Lib.hid hbc
      have HX : Hid (x = z (2 * t + 1)) := Lib.hid (by rw [hx, hq])
      have HK : Hid (z (2 * t) % 16 = kk) := Lib.hid (by rw [hkk, hy, hq])
      clear hbc hx hy hkk hq
      obtain ⟨c0, c1, c2⟩ := HM.out.1.cells
      clear c0 c1
      by_cases hk3 : kk < 3
      · have hk3' : (kk : Int) < 3 := by omega
        have HLT := Lib.hid (fun W => latches mode hmd W)
        obtain ⟨hle1, hle2, hle3⟩ := lat_lens mode hmd
        obtain ⟨nl, hnl⟩ : ∃ nl, nl = (latL mode).length := ⟨_, rfl⟩
        rw [← hnl] at hle1 hle2 hle3
        obtain ⟨jj, hjj⟩ : ∃ jj, jj = x % nl := ⟨_, rfl⟩
        have hjn : jj < nl := by rw [hjj]; exact Nat.mod_lt _ hle2
        have hnl0 : ¬ (nl : Int) = 0 := by omega
        have hnl00 : ¬ nl = 0 := by omega
        have er : (x : Int).tmod (nl : Int) = (jj : Int) := by rw [Int.tmod_eq_emod_of_nonneg (by omega), hjj]; simp
        have er2 := fun W => rem_runZ (x : Int) (nl : Int) (jj : Int) hnl0 er W
        have hlat := lat_ok mode hmd jj (by omega)
        obtain ⟨cn, hcn⟩ : ∃ cn, cn = nth (latL mode) jj := ⟨_, rfl⟩
        obtain ⟨m2, hm2q⟩ : ∃ m2, m2 = nth (latM mode) jj := ⟨_, rfl⟩
        rw [← hcn, ← hm2q] at hlat
        have hm25 := (lat_dts hlat).2.2
        have hcn32 := (latTo_bd hlat).2.1
        have HCN := Lib.hid (And.intro hcn hm2q)
        have HLA := Lib.hid hlat
        have HJJ : Hid (jj = z (2 * t + 1) % (latL mode).length) := Lib.hid (by rw [← HX.out, ← hnl]; exact hjj)
        have HNL := Lib.hid (And.intro hnl hle1)
        clear hjj hcn hm2q hlat hnl hle1
        go_wp2_with fail
        refine (HLT.out _).mono ?_
        rintro e w1 ⟨b1, b2, rfl, hi1, hi2, hb1, hg1, hg2⟩
        rw [← HNL.out.1, ← HNL.out.2]
        have d1 := hi1.cell (j := jj) (by rw [← HNL.out.1]; exact hjn)
        have d2 := hi2.cell (j := jj) (by rw [← HNL.out.2]; exact hjn)
        rw [← HCN.out.1] at d1
        rw [← HCN.out.2] at d2
        have hW1 := HM.out.1.below hb1
        have hjn1 : (jj : Int) < (nl : Int) := by omega
        have hj0 : (0 : Int) ≤ (jj : Int) := by omega
        have hWd : Wr w1.drew E E v bits (strB T) mode := ⟨hW1.ar, hW1.own⟩
        have HWD : Hid (Calls Tryz.prog 22 #[.pointer (some ⟨E, 0, none⟩)] w1.drew fun e w' => e = .returned (.int .i64 (wd mode : Nat)) ∧ w' = w1.drew) := Lib.hid ((width E E v bits (strB T) mode w1.drew hWd).mono (fun e w' h => ⟨h.1, h.2.symm⟩))
        obtain ⟨wdm, hwdm⟩ : ∃ wdm, wdm = wd mode := ⟨_, rfl⟩
        rw [← hwdm] at HWD
        have hwdl : wdm ≤ 5 := by rw [hwdm]; exact wd_le mode
        have HWM := Lib.hid hwdm
        have HPUT := Lib.hid (put E E v bits (strB T) mode cn wdm (by omega) (by omega) (by omega) w1.drew (by have := HSZ.out; have := hb1.size; show E ≤ w1.heap.size; omega) hWd)
        have hg1v : ∀ k, WB E v k → k < wr.heap.size := fun k hk => by
          rcases hk with h | h
          · have := HSZ.out; omega
          · exact (HM.out.1.own.lt k h).2
        have HB1 := Lib.hid hb1
        have HGV := Lib.hid hg1v
        have hb2lt : b2 < w1.heap.size := hi2.lt
        clear hWd hW1 hi1 hi2 hb1 hg1v hwdm HLT
        go_wp2_with fail
        go_still_tail 10, (by kernel_rfl)
        still_call (HWD.out)
        repeat still_step
        refine wpStill_nil ?_
        change wpList _ _ _ _ _ w1.drew
        have d2' : w1.drew.cell? ⟨b2, jj, none⟩ = some (.int .i64 m2) := d2
        obtain ⟨W2, hW2⟩ : ∃ W2, W2 = w1.drew := ⟨_, rfl⟩
        rw [← hW2] at d2' HPUT ⊢
        have HB2 : Hid (Below wr.heap.size wr W2) := Lib.hid (by rw [hW2]; exact HB1.out.drew)
        have hb2lt2 : b2 < W2.heap.size := by rw [hW2]; exact hb2lt
        clear hW2 d1 d2 HB1 HWD c2
        go_wp2_with fail
        refine HPUT.out.mono ?_
        rintro e w3 ⟨rfl, v3, hW3, hM3, hV3⟩
        have hf2 := hW3.ar.free 2
        obtain ⟨c0, c1, c2⟩ := hW3.cells
        have e2 : w3.cell? ⟨b2, jj, none⟩ = some (.int .i64 m2) := by
          rw [← d2']; exact World.cell?_of_block (w := W2) (hM3.block b2 hb2lt2 (fun hh => by have := HGV.out b2 hh; omega))
        have HM4 : Hid (Msg E (w3.setCell ⟨E, 2, none⟩ (.int .i64 m2)) E (t + 1) m2 v3 (bits ++ bitsOf cn (wd mode)) T) := Lib.hid (Msg.lat HM.out HLA.out ⟨hW3.ar.set_ 2 _, own_mod (S := (· = E)) (by rw [← HWM.out]; exact hW3.own) (Mod.set1 w3 E 2 _) (fun j hj e => hW3.ne hj e)⟩)
        have HB4 : Hid (Below E w (w3.setCell ⟨E, 2, none⟩ (.int .i64 m2))) := Lib.hid ((wb_below (HBE.out.trans (HB2.out.mono (by have := HSZ.out; omega))) (HM.out.1.below HB2.out) (Nat.le_refl E) (by have := HSZ.out; have := HB2.out.size; omega) hM3).setCell (p := ⟨E, 2, none⟩) (Nat.le_refl E) _)
        have HSZ4 : Hid (E < (w3.setCell ⟨E, 2, none⟩ (.int .i64 m2)).heap.size) := Lib.hid (by have := hW3.ar.lt; simpa [World.setCell] using this)
        clear hW3 hM3 hV3 HPUT HM HBE HSZ c0 c1 HB2
        go_wp2_with fail
        go_roundw
        case rel => exact ⟨t + 1, m2, v3, _, T, by have := HQ.out; rw [show 2 * (t + 1) = q + 2 by omega]; go_num, by omega, hm25, by have := HQ.out; omega, HM4, HB4, HSZ4, Lib.hid ⟨WIt.lat HWI.out.1 (by rw [HK.out]; exact hk3) HJJ.out HCN.out.1 HCN.out.2, HGO.out⟩⟩
        case measure => have := HQ.out; simp [intOf]; omega
      have hk3' : (3 : Int) ≤ (kk : Int) := by omega
      have hk3n : ((kk : Int) < 3) = False := by simp; omega
      have hEw : E ≤ wr.heap.size := by have := HSZ.out; omega
      by_cases hkB : kk = 3 ∧ mode ≠ 3
      · obtain ⟨rfl, hm3⟩ := hkB
        have hm3' : ((mode : Int) != 3) = true := by simp; omega
        have hm3'' : ((mode : Int) == 3) = false := by simp; omega
        have hsh : shTo mode 0 = some 3 := by
          have : mode = 0 ∨ mode = 1 ∨ mode = 2 ∨ mode = 4 := by omega
          rcases this with rfl | rfl | rfl | rfl <;> rfl
        have HSH := Lib.hid hsh
        have HWD := Lib.hid (width E E v bits (strB T) mode wr HM.out.1)
        obtain ⟨wdm, hwdm⟩ : ∃ wdm, wdm = wd mode := ⟨_, rfl⟩
        rw [← hwdm] at HWD
        have hwdl : wdm ≤ 5 := by rw [hwdm]; exact wd_le mode
        have HWM := Lib.hid hwdm
        have HPUT := Lib.hid (put E E v bits (strB T) mode 0 wdm (by omega) (by omega) (by omega) wr hEw HM.out.1)
        have HM3N := Lib.hid hm3
        clear hsh hwdm hm3 c2
        have c2 := HM.out.1.cells.2.2
        go_wp2_with fail
        refine HWD.out.mono ?_
        rintro e w1 ⟨rfl, rfl⟩
        go_wp2_with fail
        refine HPUT.out.mono ?_
        rintro e w3 ⟨rfl, v3, hW3, hM3, hV3⟩
        have hE3 : E ≤ w3.heap.size := by have := hM3.size; omega
        have HB3 := Lib.hid (wb_below HBE.out HM.out.1 (Nat.le_refl E) hEw hM3)
        have HSAY := Lib.hid (say E E v3 _ T mode 3 x 5 (by omega) hx256 (by omega) (by rw [List.length_append, bitsOf_len]; omega) (by omega) w3 hE3 hW3)
        have HW3 := Lib.hid hW3
        clear hM3 hV3 hW3 HPUT HWD c2
        go_wp2_with fail
        refine HSAY.out.mono ?_
        rintro e w4 ⟨rfl, v4, c, hs, hW4, hM4, hV4⟩
        have HSI := Lib.hid hs
        have HM4 : Hid (Msg E w4 E (t + 1) mode v4 (bits ++ bitsOf 0 (wd mode) ++ bitsOf c (wd 3)) (T ++ sOf 3 c)) := Lib.hid (Msg.shch HM.out hmd (by omega) HSH.out hs.1 (by rw [← HWM.out]; exact hW4))
        have HB4 : Hid (Below E w w4) := Lib.hid (wb_below HB3.out HW3.out (Nat.le_refl E) hE3 hM4)
        have HSZ4 : Hid (E < w4.heap.size) := Lib.hid hW4.lens
        clear hW4 hM4 hV4 hs HSAY HM HBE HSZ HW3 HB3
        go_wp2_with fail
        go_roundw
        case rel => exact ⟨t + 1, mode, v4, _, _, by have := HQ.out; rw [show 2 * (t + 1) = q + 2 by omega]; go_num, by omega, hmd, by have := HQ.out; omega, HM4, HB4, HSZ4, Lib.hid ⟨WIt.pun HWI.out.1 HK.out HM3N.out (by rw [← HX.out]; exact HSI.out), HGO.out⟩⟩
        case measure => have := HQ.out; simp [intOf]; omega
      by_cases hkC : kk = 4 ∧ (mode = 1 ∨ mode = 4)
      · obtain ⟨rfl, hm14⟩ := hkC
        have key : ∀ (c0 m0 : Nat), shTo mode c0 = some 0 → wd mode = m0 → c0 < 100 → m0 ≤ 5 → (∀ {P : Prop}, P → P) := fun _ _ _ _ _ _ {P} h => h
        rcases hm14 with rfl | rfl
        · have HPUT := Lib.hid (put E E v bits (strB T) 1 28 5 (by omega) (by omega) (by omega) wr hEw HM.out.1)
          clear key
          go_wp2_with fail
          refine HPUT.out.mono ?_
          rintro e w3 ⟨rfl, v3, hW3, hM3, hV3⟩
          have hE3 : E ≤ w3.heap.size := by have := hM3.size; omega
          have HB3 := Lib.hid (wb_below HBE.out HM.out.1 (Nat.le_refl E) hEw hM3)
          have HSAY := Lib.hid (say E E v3 _ T 1 0 x 5 (by omega) hx256 (by omega) (by rw [List.length_append, bitsOf_len]; omega) (by omega) w3 hE3 hW3)
          have HW3 := Lib.hid hW3
          clear hM3 hV3 hW3 HPUT c2
          go_wp2_with fail
          refine HSAY.out.mono ?_
          rintro e w4 ⟨rfl, v4, c, hs, hW4, hM4, hV4⟩
          have HSI := Lib.hid hs
          have HM4 : Hid (Msg E w4 E (t + 1) 1 v4 (bits ++ bitsOf 28 (wd 1) ++ bitsOf c (wd 0)) (T ++ sOf 0 c)) := Lib.hid (Msg.shch HM.out (by omega) (by omega) rfl hs.1 hW4)
          have HB4 : Hid (Below E w w4) := Lib.hid (wb_below HB3.out HW3.out (Nat.le_refl E) hE3 hM4)
          have HSZ4 : Hid (E < w4.heap.size) := Lib.hid hW4.lens
          clear hW4 hM4 hV4 hs HSAY HM HBE HSZ HW3 HB3
          go_wp2_with fail
          go_roundw
          case rel => exact ⟨t + 1, 1, v4, _, _, by have := HQ.out; rw [show 2 * (t + 1) = q + 2 by omega]; go_num, by omega, by omega, by have := HQ.out; omega, HM4, HB4, HSZ4, Lib.hid ⟨WIt.up1 HWI.out.1 HK.out (by rw [← HX.out]; exact HSI.out), HGO.out⟩⟩
          case measure => have := HQ.out; simp [intOf]; omega
        · have HPUT := Lib.hid (put E E v bits (strB T) 4 15 4 (by omega) (by omega) (by omega) wr hEw HM.out.1)
          clear key
          go_wp2_with fail
          refine HPUT.out.mono ?_
          rintro e w3 ⟨rfl, v3, hW3, hM3, hV3⟩
          have hE3 : E ≤ w3.heap.size := by have := hM3.size; omega
          have HB3 := Lib.hid (wb_below HBE.out HM.out.1 (Nat.le_refl E) hEw hM3)
          have HSAY := Lib.hid (say E E v3 _ T 4 0 x 5 (by omega) hx256 (by omega) (by rw [List.length_append, bitsOf_len]; omega) (by omega) w3 hE3 hW3)
          have HW3 := Lib.hid hW3
          clear hM3 hV3 hW3 HPUT c2
          go_wp2_with fail
          refine HSAY.out.mono ?_
          rintro e w4 ⟨rfl, v4, c, hs, hW4, hM4, hV4⟩
          have HSI := Lib.hid hs
          have HM4 : Hid (Msg E w4 E (t + 1) 4 v4 (bits ++ bitsOf 15 (wd 4) ++ bitsOf c (wd 0)) (T ++ sOf 0 c)) := Lib.hid (Msg.shch HM.out (by omega) (by omega) rfl hs.1 hW4)
          have HB4 : Hid (Below E w w4) := Lib.hid (wb_below HB3.out HW3.out (Nat.le_refl E) hE3 hM4)
          have HSZ4 : Hid (E < w4.heap.size) := Lib.hid hW4.lens
          clear hW4 hM4 hV4 hs HSAY HM HBE HSZ HW3 HB3
          go_wp2_with fail
          go_roundw
          case rel => exact ⟨t + 1, 4, v4, _, _, by have := HQ.out; rw [show 2 * (t + 1) = q + 2 by omega]; go_num, by omega, by omega, by have := HQ.out; omega, HM4, HB4, HSZ4, Lib.hid ⟨WIt.up4 HWI.out.1 HK.out (by rw [← HX.out]; exact HSI.out), HGO.out⟩⟩
          case measure => have := HQ.out; simp [intOf]; omega
      by_cases hkD : kk = 5
      · subst hkD
        obtain ⟨r, hr⟩ : ∃ r, r = x % 70 := ⟨_, rfl⟩
        have er : (x : Int) % 70 = (r : Int) := by omega
        have hr69 : r ≤ 69 := by omega
        obtain ⟨fr, hfr⟩ : ∃ fr, fr = q + 2 := ⟨_, rfl⟩
        have hfr1 : (q : Int) + 2 = (fr : Int) := by omega
        have hfq : q + 2 ≤ n := by omega
        have HFR := Lib.hid hfr
        have HRR := Lib.hid (show r = x % 70 from hr)
        clear hr hk3' hk3n hkB hkC
        by_cases hfn : fr = n
        · subst hfn
          have hnn : (fr : Int) ≤ (c : Int) := by omega
          obtain ⟨tr, htr⟩ : ∃ tr, tr = fr + r := ⟨_, rfl⟩
          have htr1 : (fr : Int) + (r : Int) = (tr : Int) := by omega
          have htrf : fr ≤ tr := by omega
          clear htr hfr
          obtain htf | htf : tr = fr ∨ fr < tr := by omega
          · subst htf
            obtain hcf | hcf : tr = c ∨ tr < c := by omega
            · subst hcf
              have HNO := Lib.hid (fun B c => bytes_no E E v bits (strB T) mode B 0 c (.inl rfl) wr HM.out.1)
              clear c2
              go_wp2_with fail
              refine (HNO.out _ _).mono ?_
              rintro e w4 ⟨rfl, rfl⟩
              go_wp2_with fail
              go_roundw
              case rel => exact ⟨t + 1, mode, v, _, _, by have := HQ.out; rw [show 2 * (t + 1) = q + 2 by omega]; go_num, by omega, hmd, by have := HQ.out; omega, Lib.hid HM.out.more, HBE, HSZ, Lib.hid ⟨WIt.non HWI.out.1 HK.out (.inl (by have h5 := HFR.out; have h6 := HQ.out; omega)), HGO.out⟩⟩
              case measure => have := HQ.out; simp [intOf]; omega
            · have hcf1 : (tr : Int) < (c : Int) := by omega
              have HNO := Lib.hid (fun B c => bytes_no E E v bits (strB T) mode B 0 c (.inl rfl) wr HM.out.1)
              clear c2
              go_wp2_with fail
              refine (HNO.out _ _).mono ?_
              rintro e w4 ⟨rfl, rfl⟩
              go_wp2_with fail
              go_roundw
              case rel => exact ⟨t + 1, mode, v, _, _, by have := HQ.out; rw [show 2 * (t + 1) = q + 2 by omega]; go_num, by omega, hmd, by have := HQ.out; omega, Lib.hid HM.out.more, HBE, HSZ, Lib.hid ⟨WIt.non HWI.out.1 HK.out (.inl (by have h5 := HFR.out; have h6 := HQ.out; omega)), HGO.out⟩⟩
              case measure => have := HQ.out; simp [intOf]; omega
          · have htf1 : (fr : Int) < (tr : Int) := by omega
            obtain hcf | hcf : fr = c ∨ fr < c := by omega
            · subst hcf
              have HNO := Lib.hid (fun B c => bytes_no E E v bits (strB T) mode B 0 c (.inl rfl) wr HM.out.1)
              clear c2
              go_wp2_with fail
              refine (HNO.out _ _).mono ?_
              rintro e w4 ⟨rfl, rfl⟩
              go_wp2_with fail
              go_roundw
              case rel => exact ⟨t + 1, mode, v, _, _, by have := HQ.out; rw [show 2 * (t + 1) = q + 2 by omega]; go_num, by omega, hmd, by have := HQ.out; omega, Lib.hid HM.out.more, HBE, HSZ, Lib.hid ⟨WIt.non HWI.out.1 HK.out (.inl (by have h5 := HFR.out; have h6 := HQ.out; omega)), HGO.out⟩⟩
              case measure => have := HQ.out; simp [intOf]; omega
            · have hcf1 : (fr : Int) < (c : Int) := by omega
              have HNO := Lib.hid (fun B c => bytes_no E E v bits (strB T) mode B 0 c (.inl rfl) wr HM.out.1)
              clear c2
              go_wp2_with fail
              refine (HNO.out _ _).mono ?_
              rintro e w4 ⟨rfl, rfl⟩
              go_wp2_with fail
              go_roundw
              case rel => exact ⟨t + 1, mode, v, _, _, by have := HQ.out; rw [show 2 * (t + 1) = q + 2 by omega]; go_num, by omega, hmd, by have := HQ.out; omega, Lib.hid HM.out.more, HBE, HSZ, Lib.hid ⟨WIt.non HWI.out.1 HK.out (.inl (by have h5 := HFR.out; have h6 := HQ.out; omega)), HGO.out⟩⟩
              case measure => have := HQ.out; simp [intOf]; omega
        · have hfn1 : (fr : Int) < (n : Int) := by omega
          have hfc : (fr : Int) < (c : Int) := by omega
          by_cases hr0 : r = 0
          · subst hr0
            clear hfr
            have HNO := Lib.hid (fun B c => bytes_no E E v bits (strB T) mode B 0 c (.inl rfl) wr HM.out.1)
            clear c2
            go_wp2_with fail
            refine (HNO.out _ _).mono ?_
            rintro e w4 ⟨rfl, rfl⟩
            go_wp2_with fail
            go_roundw
            case rel => exact ⟨t + 1, mode, v, _, _, by have := HQ.out; rw [show 2 * (t + 1) = q + 2 by omega]; go_num, by omega, hmd, by have := HQ.out; omega, Lib.hid HM.out.more, HBE, HSZ, Lib.hid ⟨WIt.non HWI.out.1 HK.out (.inr (.inl (by have h5 := HRR.out; rw [← HX.out]; exact h5.symm))), HGO.out⟩⟩
            case measure => have := HQ.out; simp [intOf]; omega
          · obtain ⟨tr, htr⟩ : ∃ tr, tr = fr + r := ⟨_, rfl⟩
            have htr1 : (fr : Int) + (r : Int) = (tr : Int) := by omega
            have htrf : fr < tr := by omega
            have htr69 : tr ≤ fr + 69 := by omega
            have HTR := Lib.hid htr
            clear htr hfr
            obtain htn2 | htn2 | htn2 : tr < n ∨ tr = n ∨ n < tr := by omega
            · have htn3 : (tr : Int) < (n : Int) := by omega
              obtain ⟨nb, hnb⟩ : ∃ nb, nb = tr - fr := ⟨_, rfl⟩
              have hnb1 : (tr : Int) - (fr : Int) = (nb : Int) := by omega
              have hnb2 : tr - fr = nb := hnb.symm
              have hnb0 : 0 < nb := by omega
              have hnb69 : nb ≤ 69 := by omega
              have hnbn : fr + nb ≤ n := by omega
              have htc : (tr : Int) ≤ (c : Int) := by omega
              have htf : (fr : Int) ≤ (tr : Int) := by omega
              by_cases hmd2 : mode ≤ 2
              · have hBY := fun (B : Option Addr) (c' : Nat) (hBq : B = some ⟨bb, bo + fr, none⟩) => bytes_ E E v bits T ((List.range nb).map fun j => z (fr + j) % 128) mode B nb c' (fun j => z (fr + j)) rfl (fun j hj => HZ.out (fr + j) (by omega)) hmd2 hnb0 hnb69 (by omega) (by omega) wr (Nat.le_refl E) hEw HM.out.1 (fun a ha => by rw [hBq] at ha; injection ha with ha; rw [← ha]; exact hbbE) (by
                  intro _
                  refine ⟨bb, bo + fr, hBq, by omega, fun j hj => ?_⟩
                  rw [Nat.add_assoc]
                  exact (HBE.out.cell (p := ⟨bb, bo + (fr + j), none⟩) hbbE).trans (HBC.out (fr + j) (by omega)))
                obtain ⟨l, hl⟩ : ∃ l, l = (List.range nb).map fun j => z (fr + j) % 128 := ⟨_, rfl⟩
                rw [← hl] at hBY
                have hll : l.length = nb := by rw [hl]; simp
                have hlx : ∀ x, x ∈ l → x < 128 := fun x hx => by
                  rw [hl] at hx
                  obtain ⟨j, _, rfl⟩ := List.mem_map.1 hx
                  exact Nat.mod_lt _ (by omega)
                have HBY := Lib.hid hBY
                have HLL := Lib.hid hll
                have HLE : Hid (l = (List.range nb).map fun j => z (2 * t + 2 + j) % 128) := Lib.hid (by rw [hl]; have h5 := HFR.out; have h6 := HQ.out; rw [h5, h6])
                have HNB : Hid (nb = min n (2 * t + 2 + z (2 * t + 1) % 70) - (2 * t + 2)) := Lib.hid (by have h5 := HFR.out; have h6 := HQ.out; have h7 := HTR.out; have h8 := HRR.out; have h9 := HX.out; rw [← h9, ← h8]; omega)
                have HLX := Lib.hid hlx
                clear hBY hl hll hlx c2 hnb
                go_wp2_with fail
                refine (HBY.out _ _ rfl).mono ?_
                rintro e w4 ⟨rfl, v4, hW4, hM4, hV4⟩
                have HM4 : Hid (Msg E w4 E (t + 1) mode v4 _ (T ++ l)) := Lib.hid (Msg.bytes HM.out hmd2 (by rw [HLL.out]; exact hnb0) (by rw [HLL.out]; exact hnb69) HLX.out hW4)
                have HB4 : Hid (Below E w w4) := Lib.hid (wb_below HBE.out HM.out.1 (Nat.le_refl E) hEw hM4)
                have HSZ4 : Hid (E < w4.heap.size) := Lib.hid hW4.lens
                clear hW4 hM4 hV4 HBY HM HBE HSZ
                go_wp2_with fail
                go_roundw
                case rel => exact ⟨t + 1, mode, v4, _, _, by have := HQ.out; rw [show 2 * (t + 1) = q + 2 by omega]; go_num, by omega, hmd, by have := HQ.out; omega, HM4, HB4, HSZ4, Lib.hid ⟨WIt.byt HWI.out.1 HK.out hmd2 HNB.out hnb0 HLE.out, HGO.out⟩⟩
                case measure => have := HQ.out; simp [intOf]; omega
              · have HNO := Lib.hid (fun B c => bytes_no E E v bits (strB T) mode B nb c (.inr (by omega)) wr HM.out.1)
                clear c2 hnb
                go_wp2_with fail
                refine (HNO.out _ _).mono ?_
                rintro e w4 ⟨rfl, rfl⟩
                go_wp2_with fail
                go_roundw
                case rel => exact ⟨t + 1, mode, v, _, _, by have := HQ.out; rw [show 2 * (t + 1) = q + 2 by omega]; go_num, by omega, hmd, by have := HQ.out; omega, Lib.hid HM.out.more, HBE, HSZ, Lib.hid ⟨WIt.non HWI.out.1 HK.out (.inr (.inr hmd2)), HGO.out⟩⟩
                case measure => have := HQ.out; simp [intOf]; omega
            · subst htn2
              obtain ⟨nb, hnb⟩ : ∃ nb, nb = tr - fr := ⟨_, rfl⟩
              have hnb1 : (tr : Int) - (fr : Int) = (nb : Int) := by omega
              have hnb2 : tr - fr = nb := hnb.symm
              have hnb0 : 0 < nb := by omega
              have hnb69 : nb ≤ 69 := by omega
              have hnbn : fr + nb ≤ tr := by omega
              have htc : (tr : Int) ≤ (c : Int) := by omega
              have htf : (fr : Int) ≤ (tr : Int) := by omega
              by_cases hmd2 : mode ≤ 2
              · have hBY := fun (B : Option Addr) (c' : Nat) (hBq : B = some ⟨bb, bo + fr, none⟩) => bytes_ E E v bits T ((List.range nb).map fun j => z (fr + j) % 128) mode B nb c' (fun j => z (fr + j)) rfl (fun j hj => HZ.out (fr + j) (by omega)) hmd2 hnb0 hnb69 (by omega) (by omega) wr (Nat.le_refl E) hEw HM.out.1 (fun a ha => by rw [hBq] at ha; injection ha with ha; rw [← ha]; exact hbbE) (by
                  intro _
                  refine ⟨bb, bo + fr, hBq, by omega, fun j hj => ?_⟩
                  rw [Nat.add_assoc]
                  exact (HBE.out.cell (p := ⟨bb, bo + (fr + j), none⟩) hbbE).trans (HBC.out (fr + j) (by omega)))
                obtain ⟨l, hl⟩ : ∃ l, l = (List.range nb).map fun j => z (fr + j) % 128 := ⟨_, rfl⟩
                rw [← hl] at hBY
                have hll : l.length = nb := by rw [hl]; simp
                have hlx : ∀ x, x ∈ l → x < 128 := fun x hx => by
                  rw [hl] at hx
                  obtain ⟨j, _, rfl⟩ := List.mem_map.1 hx
                  exact Nat.mod_lt _ (by omega)
                have HBY := Lib.hid hBY
                have HLL := Lib.hid hll
                have HLE : Hid (l = (List.range nb).map fun j => z (2 * t + 2 + j) % 128) := Lib.hid (by rw [hl]; have h5 := HFR.out; have h6 := HQ.out; rw [h5, h6])
                have HNB : Hid (nb = min tr (2 * t + 2 + z (2 * t + 1) % 70) - (2 * t + 2)) := Lib.hid (by have h5 := HFR.out; have h6 := HQ.out; have h7 := HTR.out; have h8 := HRR.out; have h9 := HX.out; rw [← h9, ← h8]; omega)
                have HLX := Lib.hid hlx
                clear hBY hl hll hlx c2 hnb
                go_wp2_with fail
                refine (HBY.out _ _ rfl).mono ?_
                rintro e w4 ⟨rfl, v4, hW4, hM4, hV4⟩
                have HM4 : Hid (Msg E w4 E (t + 1) mode v4 _ (T ++ l)) := Lib.hid (Msg.bytes HM.out hmd2 (by rw [HLL.out]; exact hnb0) (by rw [HLL.out]; exact hnb69) HLX.out hW4)
                have HB4 : Hid (Below E w w4) := Lib.hid (wb_below HBE.out HM.out.1 (Nat.le_refl E) hEw hM4)
                have HSZ4 : Hid (E < w4.heap.size) := Lib.hid hW4.lens
                clear hW4 hM4 hV4 HBY HM HBE HSZ
                go_wp2_with fail
                go_roundw
                case rel => exact ⟨t + 1, mode, v4, _, _, by have := HQ.out; rw [show 2 * (t + 1) = q + 2 by omega]; go_num, by omega, hmd, by have := HQ.out; omega, HM4, HB4, HSZ4, Lib.hid ⟨WIt.byt HWI.out.1 HK.out hmd2 HNB.out hnb0 HLE.out, HGO.out⟩⟩
                case measure => have := HQ.out; simp [intOf]; omega
              · have HNO := Lib.hid (fun B c => bytes_no E E v bits (strB T) mode B nb c (.inr (by omega)) wr HM.out.1)
                clear c2 hnb
                go_wp2_with fail
                refine (HNO.out _ _).mono ?_
                rintro e w4 ⟨rfl, rfl⟩
                go_wp2_with fail
                go_roundw
                case rel => exact ⟨t + 1, mode, v, _, _, by have := HQ.out; rw [show 2 * (t + 1) = q + 2 by omega]; go_num, by omega, hmd, by have := HQ.out; omega, Lib.hid HM.out.more, HBE, HSZ, Lib.hid ⟨WIt.non HWI.out.1 HK.out (.inr (.inr hmd2)), HGO.out⟩⟩
                case measure => have := HQ.out; simp [intOf]; omega
            · have htn3 : (n : Int) < (tr : Int) := by omega
              obtain ⟨nb, hnb⟩ : ∃ nb, nb = n - fr := ⟨_, rfl⟩
              have hnb1 : (n : Int) - (fr : Int) = (nb : Int) := by omega
              have hnb2 : n - fr = nb := hnb.symm
              have hnb0 : 0 < nb := by omega
              have hnb69 : nb ≤ 69 := by omega
              have hnbn : fr + nb ≤ n := by omega
              have htc : (n : Int) ≤ (c : Int) := by omega
              have htf : (fr : Int) ≤ (n : Int) := by omega
              by_cases hmd2 : mode ≤ 2
              · have hBY := fun (B : Option Addr) (c' : Nat) (hBq : B = some ⟨bb, bo + fr, none⟩) => bytes_ E E v bits T ((List.range nb).map fun j => z (fr + j) % 128) mode B nb c' (fun j => z (fr + j)) rfl (fun j hj => HZ.out (fr + j) (by omega)) hmd2 hnb0 hnb69 (by omega) (by omega) wr (Nat.le_refl E) hEw HM.out.1 (fun a ha => by rw [hBq] at ha; injection ha with ha; rw [← ha]; exact hbbE) (by
                  intro _
                  refine ⟨bb, bo + fr, hBq, by omega, fun j hj => ?_⟩
                  rw [Nat.add_assoc]
                  exact (HBE.out.cell (p := ⟨bb, bo + (fr + j), none⟩) hbbE).trans (HBC.out (fr + j) (by omega)))
                obtain ⟨l, hl⟩ : ∃ l, l = (List.range nb).map fun j => z (fr + j) % 128 := ⟨_, rfl⟩
                rw [← hl] at hBY
                have hll : l.length = nb := by rw [hl]; simp
                have hlx : ∀ x, x ∈ l → x < 128 := fun x hx => by
                  rw [hl] at hx
                  obtain ⟨j, _, rfl⟩ := List.mem_map.1 hx
                  exact Nat.mod_lt _ (by omega)
                have HBY := Lib.hid hBY
                have HLL := Lib.hid hll
                have HLE : Hid (l = (List.range nb).map fun j => z (2 * t + 2 + j) % 128) := Lib.hid (by rw [hl]; have h5 := HFR.out; have h6 := HQ.out; rw [h5, h6])
                have HNB : Hid (nb = min n (2 * t + 2 + z (2 * t + 1) % 70) - (2 * t + 2)) := Lib.hid (by have h5 := HFR.out; have h6 := HQ.out; have h7 := HTR.out; have h8 := HRR.out; have h9 := HX.out; rw [← h9, ← h8]; omega)
                have HLX := Lib.hid hlx
                clear hBY hl hll hlx c2 hnb
                go_wp2_with fail
                refine (HBY.out _ _ rfl).mono ?_
                rintro e w4 ⟨rfl, v4, hW4, hM4, hV4⟩
                have HM4 : Hid (Msg E w4 E (t + 1) mode v4 _ (T ++ l)) := Lib.hid (Msg.bytes HM.out hmd2 (by rw [HLL.out]; exact hnb0) (by rw [HLL.out]; exact hnb69) HLX.out hW4)
                have HB4 : Hid (Below E w w4) := Lib.hid (wb_below HBE.out HM.out.1 (Nat.le_refl E) hEw hM4)
                have HSZ4 : Hid (E < w4.heap.size) := Lib.hid hW4.lens
                clear hW4 hM4 hV4 HBY HM HBE HSZ
                go_wp2_with fail
                go_roundw
                case rel => exact ⟨t + 1, mode, v4, _, _, by have := HQ.out; rw [show 2 * (t + 1) = q + 2 by omega]; go_num, by omega, hmd, by have := HQ.out; omega, HM4, HB4, HSZ4, Lib.hid ⟨WIt.byt HWI.out.1 HK.out hmd2 HNB.out hnb0 HLE.out, HGO.out⟩⟩
                case measure => have := HQ.out; simp [intOf]; omega
              · have HNO := Lib.hid (fun B c => bytes_no E E v bits (strB T) mode B nb c (.inr (by omega)) wr HM.out.1)
                clear c2 hnb
                go_wp2_with fail
                refine (HNO.out _ _).mono ?_
                rintro e w4 ⟨rfl, rfl⟩
                go_wp2_with fail
                go_roundw
                case rel => exact ⟨t + 1, mode, v, _, _, by have := HQ.out; rw [show 2 * (t + 1) = q + 2 by omega]; go_num, by omega, hmd, by have := HQ.out; omega, Lib.hid HM.out.more, HBE, HSZ, Lib.hid ⟨WIt.non HWI.out.1 HK.out (.inr (.inr hmd2)), HGO.out⟩⟩
                case measure => have := HQ.out; simp [intOf]; omega
      have hdk : (kk = 3 ∧ mode = 3) ∨ (kk = 4 ∧ mode ≠ 1 ∧ mode ≠ 4) ∨ 5 < kk := by omega
      have HKC : Hid (z (2 * t) % 16 = 3 ∧ mode = 3 ∨ z (2 * t) % 16 = 4 ∧ mode ≠ 1 ∧ mode ≠ 4 ∨ 5 < z (2 * t) % 16) := Lib.hid (by rw [HK.out]; exact hdk)
      have hWd : Wr wr.drew E E v bits (strB T) mode := ⟨HM.out.1.ar, HM.out.1.own⟩
      have HWD : Hid (Calls Tryz.prog 22 #[.pointer (some ⟨E, 0, none⟩)] wr.drew fun e w' => e = .returned (.int .i64 (wd mode : Nat)) ∧ w' = wr.drew) := Lib.hid ((width E E v bits (strB T) mode wr.drew hWd).mono (fun e w' h => ⟨h.1, h.2.symm⟩))
      obtain ⟨wdm, hwdm⟩ : ∃ wdm, wdm = wd mode := ⟨_, rfl⟩
      rw [← hwdm] at HWD
      have hwdl : wdm ≤ 5 := by rw [hwdm]; exact wd_le mode
      have HWM := Lib.hid hwdm
      have HSAY := Lib.hid (say E E v bits T mode mode x wdm hmd hx256 (by omega) (by omega) (by omega) wr.drew hEw hWd)
      clear hwdm hWd
      have d5 : ((kk : Int) == 5) = false := by simp; omega
      clear hkB hkC hkD
      rcases hdk with ⟨rfl, hm3e⟩ | ⟨rfl, hm1, hm4⟩ | hk5
      · have d3 : ((mode : Int) != 3) = false := by simp; omega
        clear hm3e
        go_wp2_with fail
        go_still_tail 8, (by kernel_rfl)
        still_call (HWD.out)
        repeat still_step
        refine wpStill_nil ?_
        change wpList _ _ _ _ _ wr.drew
        obtain ⟨W2, hW2⟩ : ∃ W2, W2 = wr.drew := ⟨_, rfl⟩
        rw [← hW2] at HSAY ⊢
        have HB2 : Hid (Below E w W2) := Lib.hid (by rw [hW2]; exact HBE.out.drew)
        have HW2 : Hid (Wr W2 E E v bits (strB T) mode) := Lib.hid (by rw [hW2]; exact ⟨HM.out.1.ar, HM.out.1.own⟩)
        have hE2 : E ≤ W2.heap.size := by rw [hW2]; exact hEw
        clear hW2 HWD c2
        go_wp2_with fail
        refine HSAY.out.mono ?_
        rintro e w4 ⟨rfl, v4, c, hs, hW4, hM4, hV4⟩
        have HSI := Lib.hid hs
        have HM4 : Hid (Msg E w4 E (t + 1) mode v4 (bits ++ bitsOf c (wd mode)) (T ++ sOf mode c)) := Lib.hid (Msg.ch HM.out hmd hs.1 (by rw [← HWM.out]; exact hW4))
        have HB4 : Hid (Below E w w4) := Lib.hid (wb_below HB2.out HW2.out (Nat.le_refl E) hE2 hM4)
        have HSZ4 : Hid (E < w4.heap.size) := Lib.hid hW4.lens
        clear hW4 hM4 hV4 hs HSAY HM HBE HSZ HB2 HW2
        go_wp2_with fail
        go_roundw
        case rel => exact ⟨t + 1, mode, v4, _, _, by have := HQ.out; rw [show 2 * (t + 1) = q + 2 by omega]; go_num, by omega, hmd, by have := HQ.out; omega, HM4, HB4, HSZ4, Lib.hid ⟨WIt.ch HWI.out.1 HKC.out (by rw [← HX.out]; exact HSI.out), HGO.out⟩⟩
        case measure => have := HQ.out; simp [intOf]; omega
      · have d1 : ((mode : Int) == 1) = false := by simp; omega
        have d4 : ((mode : Int) == 4) = false := by simp; omega
        go_wp2_with fail
        go_still_tail 8, (by kernel_rfl)
        still_call (HWD.out)
        repeat still_step
        refine wpStill_nil ?_
        change wpList _ _ _ _ _ wr.drew
        obtain ⟨W2, hW2⟩ : ∃ W2, W2 = wr.drew := ⟨_, rfl⟩
        rw [← hW2] at HSAY ⊢
        have HB2 : Hid (Below E w W2) := Lib.hid (by rw [hW2]; exact HBE.out.drew)
        have HW2 : Hid (Wr W2 E E v bits (strB T) mode) := Lib.hid (by rw [hW2]; exact ⟨HM.out.1.ar, HM.out.1.own⟩)
        have hE2 : E ≤ W2.heap.size := by rw [hW2]; exact hEw
        clear hW2 HWD c2
        go_wp2_with fail
        refine HSAY.out.mono ?_
        rintro e w4 ⟨rfl, v4, c, hs, hW4, hM4, hV4⟩
        have HSI := Lib.hid hs
        have HM4 : Hid (Msg E w4 E (t + 1) mode v4 (bits ++ bitsOf c (wd mode)) (T ++ sOf mode c)) := Lib.hid (Msg.ch HM.out hmd hs.1 (by rw [← HWM.out]; exact hW4))
        have HB4 : Hid (Below E w w4) := Lib.hid (wb_below HB2.out HW2.out (Nat.le_refl E) hE2 hM4)
        have HSZ4 : Hid (E < w4.heap.size) := Lib.hid hW4.lens
        clear hW4 hM4 hV4 hs HSAY HM HBE HSZ HB2 HW2
        go_wp2_with fail
        go_roundw
        case rel => exact ⟨t + 1, mode, v4, _, _, by have := HQ.out; rw [show 2 * (t + 1) = q + 2 by omega]; go_num, by omega, hmd, by have := HQ.out; omega, HM4, HB4, HSZ4, Lib.hid ⟨WIt.ch HWI.out.1 HKC.out (by rw [← HX.out]; exact HSI.out), HGO.out⟩⟩
        case measure => have := HQ.out; simp [intOf]; omega
      · have d3 : ((kk : Int) == 3) = false := by simp; omega
        have d4 : ((kk : Int) == 4) = false := by simp; omega
        go_wp2_with fail
        go_still_tail 8, (by kernel_rfl)
        still_call (HWD.out)
        repeat still_step
        refine wpStill_nil ?_
        change wpList _ _ _ _ _ wr.drew
        obtain ⟨W2, hW2⟩ : ∃ W2, W2 = wr.drew := ⟨_, rfl⟩
        rw [← hW2] at HSAY ⊢
        have HB2 : Hid (Below E w W2) := Lib.hid (by rw [hW2]; exact HBE.out.drew)
        have HW2 : Hid (Wr W2 E E v bits (strB T) mode) := Lib.hid (by rw [hW2]; exact ⟨HM.out.1.ar, HM.out.1.own⟩)
        have hE2 : E ≤ W2.heap.size := by rw [hW2]; exact hEw
        clear hW2 HWD c2
        go_wp2_with fail
        refine HSAY.out.mono ?_
        rintro e w4 ⟨rfl, v4, c, hs, hW4, hM4, hV4⟩
        have HSI := Lib.hid hs
        have HM4 : Hid (Msg E w4 E (t + 1) mode v4 (bits ++ bitsOf c (wd mode)) (T ++ sOf mode c)) := Lib.hid (Msg.ch HM.out hmd hs.1 (by rw [← HWM.out]; exact hW4))
        have HB4 : Hid (Below E w w4) := Lib.hid (wb_below HB2.out HW2.out (Nat.le_refl E) hE2 hM4)
        have HSZ4 : Hid (E < w4.heap.size) := Lib.hid hW4.lens
        clear hW4 hM4 hV4 hs HSAY HM HBE HSZ HB2 HW2
        go_wp2_with fail
        go_roundw
        case rel => exact ⟨t + 1, mode, v4, _, _, by have := HQ.out; rw [show 2 * (t + 1) = q + 2 by omega]; go_num, by omega, hmd, by have := HQ.out; omega, HM4, HB4, HSZ4, Lib.hid ⟨WIt.ch HWI.out.1 HKC.out (by rw [← HX.out]; exact HSI.out), HGO.out⟩⟩
        case measure => have := HQ.out; simp [intOf]; omega
    · have hqb : q ≤ 402 := by omega
      have hqb1 : (q : Int) ≤ 402 := by omega
      have HWR : Hid (Wrote z n most bits) := Lib.hid ⟨t, mode, HWI.out.1, HWI.out.2, fun h => hgo (by have := HM2.out; omega)⟩
      clear hq
      obtain hno | hno : ((q : Int) + 1 < (n : Int) ∧ ((q : Int) < (most2 : Int)) = False) ∨ ((q : Int) + 1 < (n : Int)) = False := by
        by_cases h : q + 1 < n
        · exact .inl ⟨by omega, by simp; omega⟩
        · exact .inr (by simp; omega)
      all_goals
        have c0 := HM.out.1.cells.1
        have c1 := HM.out.1.cells.2.1
        have HF : Hid (WritePost z n most w (.returned (.tuple #[v, .string (strB T)])) wr) := Lib.hid (by
          obtain ⟨h1, ⟨ms, h2⟩, h3, h4, h5⟩ := HM.out
          exact ⟨v, bits, T, ms, mode, rfl, by rw [← HE.out]; exact h1.own, h2, hmd, by omega, by omega, h5, by rw [← HE.out]; exact HBE.out, HWR.out⟩)
        obtain ⟨sT, hsT⟩ : ∃ sT, sT = strB T := ⟨_, rfl⟩
        rw [← hsT] at c1 HF
        clear hsT HM HBE
      · obtain ⟨hq1, hq2⟩ := hno
        have hq3 : (q < most2) = False := by simp at hq2; simp; omega
        go_wp2_with fail
        go_quiet (fail)
        go_wp2_with fail
        go_ret2
        obtain ⟨v', bits', T', ms', mode', e', h2⟩ := HF.out
        exact ⟨v', bits', T', ms', mode', e', h2.1, h2.2.1, h2.2.2.1, h2.2.2.2.1, h2.2.2.2.2.1, h2.2.2.2.2.2.1, below_drewN h2.2.2.2.2.2.2.1 _, h2.2.2.2.2.2.2.2⟩
      · go_wp2_with fail
        go_quiet (fail)
        go_wp2_with fail
        go_ret2
        obtain ⟨v', bits', T', ms', mode', e', h2⟩ := HF.out
        exact ⟨v', bits', T', ms', mode', e', h2.1, h2.2.1, h2.2.2.1, h2.2.2.2.1, h2.2.2.2.2.1, h2.2.2.2.2.2.1, below_drewN h2.2.2.2.2.2.2.1 _, h2.2.2.2.2.2.2.2⟩
end Go.Proofs.YtiielblnmfeapaaGreatDoor
