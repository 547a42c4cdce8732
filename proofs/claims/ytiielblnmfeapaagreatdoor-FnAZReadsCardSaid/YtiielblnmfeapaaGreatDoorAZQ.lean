/-
  The writer of Aztec messages, walked: say and bytes. No condition beyond the bounds that each theorem states.
-/
import Derived.Test.YtiielblnmfeapaaGreatDoorAZP
import Derived.Test.YtiielblnmfeapaaGreatDoorAZE0
import Derived.Outline
namespace Go.Proofs.YtiielblnmfeapaaGreatDoor
open Go.RowKit Go.Qz
set_option linter.unusedVariables false

theorem azTable (k : Nat) (hk : k < 5) (w : World) : Calls Tryz.prog 47 #[.int .i64 k] w (StrPost (tbLen k) (tb k) w) := by
  have h : k = 0 ∨ k = 1 ∨ k = 2 ∨ k = 3 ∨ k = 4 := by omega
  rcases h with rfl | rfl | rfl | rfl | rfl
  · exact azTable0 w
  · exact azTable1 w
  · exact azTable2 w
  · exact azTable3 w
  · exact azTable4 w
theorem tb_one : ∀ k, k < 5 → sOf k 1 ≠ [] := by decide +kernel
theorem tb_strB (k c : Nat) : tb k c = strB (sOf k c) := rfl
theorem strB_app (a b : List Nat) : strB a ++ strB b = strB (a ++ b) := by
  unfold strB
  apply ByteArray.ext
  simp
theorem rem_runZ (a b c : Int) (h0 : ¬ b = 0) (h : a.tmod b = c) (W : World) : (binOp .rem 3 (.int .i64 a) (.int .i64 b)).run Tryz.prog W = .ok (.int .i64 c) W := by
  subst h
  show ((Op.intDiv .rem .i64 a b).run Tryz.prog W) = _
  unfold Op.intDiv
  simp [h0, go_sem]

/-- The number of a mode that is said by x: the first one from x on that has a string. -/
def SayIs (k x c : Nat) : Prop := sOf k c ≠ [] ∧ ∃ s, c = (x % tbLen k + s) % tbLen k ∧ ∀ i, i < s → sOf k ((x % tbLen k + i) % tbLen k) = []
theorem SayIs.uniq {k x c d : Nat} (h : SayIs k x c) (h' : SayIs k x d) : c = d := by
  obtain ⟨h1, s, rfl, h2⟩ := h
  obtain ⟨h3, t, rfl, h4⟩ := h'
  rcases Nat.lt_trichotomy s t with h | h | h
  · exact absurd (h4 s h) h1
  · rw [h]
  · exact absurd (h2 t h) h3
/-- A sign is written: its number as bits, its text. -/
def SayPost (base p : Nat) (v : Value) (bits : List Bool) (T : List Nat) (mode k x M : Nat) (w : World) (e : Ending) (w' : World) : Prop :=
  e = .returned (.tuple #[]) ∧ ∃ v' c, SayIs k x c ∧ Wr w' base p v' (bits ++ bitsOf c M) (strB (T ++ sOf k c)) mode ∧ Mod (WB p v) w w' ∧ ∀ j, v'.ownBlock = some j → v.ownBlock = some j ∨ w.heap.size ≤ j

set_option maxRecDepth 100000 in
set_option maxHeartbeats 6400000 in
theorem say (base p : Nat) (v : Value) (bs : List Bool) (T : List Nat) (mode k x M : Nat) (hk : k < 5) (hx : x < 256) (hM : M ≤ 12) (hbl : bs.length < 1000000) (hT : T.length < 1000000) (w : World) (hb : base ≤ w.heap.size) (h : Wr w base p v bs (strB T) mode) :
    Calls Tryz.prog 23 #[.pointer (some ⟨p, 0, none⟩), .int .i64 k, .int .i64 x, .int .i64 M] w (SayPost base p v bs T mode k x M w) := by
  have HW := Lib.hid h
  have HBS := Lib.hid hb
  have HTB := Lib.hid (fun W => azTable k hk W)
  have HPW : Hid (p < w.heap.size) := Lib.hid h.ar.lt
  have HVW : Hid (∀ j, v.ownBlock = some j → j < w.heap.size) := Lib.hid (fun j hj => (h.own.lt j hj).2)
  clear h hb
  go_enter Tryz.func23, Tryz.ntmps23
  go_wp2_with fail
  refine (HTB.out _).mono ?_
  rintro e w1 ⟨A, m, c, f, rfl, HR, hb1, hm, HF, HFR⟩
  have hmk : m = tbLen k := HF.out.1
  have hrd : Rd w1 A m (fun j => .string (tb k j)) := HR.out.congr (fun j hj => by rw [HF.out.2 j (by omega)])
  have hm16 : m = 16 ∨ m = 32 := by rw [hmk]; unfold tbLen; split <;> simp
  obtain ⟨b, off, hA, hbl1, hc⟩ := hrd (by omega)
  have hbf : w.heap.size ≤ b := by have := HFR.out ⟨b, off, none⟩ hA; exact this
  subst hA
  have HC := Lib.hid hc
  have HW1 := Lib.hid (HW.out.below hb1)
  have HB1 := Lib.hid hb1
  have HMK := Lib.hid hmk
  clear hrd hc HR HF HFR hb1 HW HTB hmk
  obtain ⟨q, hq⟩ : ∃ q, q = x % m := ⟨_, rfl⟩
  have hm0 : ¬ (m : Int) = 0 := by omega
  have hm00 : ¬ m = 0 := by omega
  have hqm : q < m := by rw [hq]; exact Nat.mod_lt _ (by omega)
  have er : (x : Int).tmod (m : Int) = (q : Int) := by rw [Int.tmod_eq_emod_of_nonneg (by omega), hq]; simp
  have er2 := fun W => rem_runZ (x : Int) (m : Int) (q : Int) hm0 er W
  have HQ := Lib.hid hq
  clear hq
  go_wp2_with fail
  go_loop [9] (fun i => ∃ c : Nat, c < m ∧ i = .int .i64 c ∧ Hid (∃ s, c = (q + s) % m ∧ ∀ i, i < s → sOf k ((q + i) % m) = [])) (fun i => (m + 1 - (intOf i).toNat) % m)
  case atStart => exact ⟨q, hqm, rfl, Lib.hid ⟨0, by rw [Nat.add_zero, Nat.mod_eq_of_lt hqm], fun i hi => by omega⟩⟩
  case round =>
    obtain ⟨d, hd, rfl, HSD⟩ := hrel
    have hd0 : (0 : Int) ≤ (d : Int) := by omega
    have hd1 : (d : Int) < (m : Int) := by omega
    have hcell := HC.out d hd
    by_cases hs : sOf k d = []
    · have hse : tb k d = ⟨#[]⟩ := by rw [tb_strB, hs]; rfl
      rw [hse] at hcell
      have hd1' : d ≠ 1 := fun e => tb_one k hk (by rw [← e]; exact hs)
      obtain ⟨q2, hq2⟩ : ∃ q2, q2 = (d + 1) % m := ⟨_, rfl⟩
      have hq2m : q2 < m := by rw [hq2]; exact Nat.mod_lt _ (by omega)
      have er3 : ((d : Int) + 1).tmod (m : Int) = (q2 : Int) := by rw [Int.tmod_eq_emod_of_nonneg (by omega), hq2]; simp
      have er4 := fun W => rem_runZ ((d : Int) + 1) (m : Int) (q2 : Int) hm0 er3 W
      have HQ2 := Lib.hid hq2
      have HSD2 : Hid (∃ s, q2 = (q + s) % m ∧ ∀ i, i < s → sOf k ((q + i) % m) = []) := Lib.hid (by
        obtain ⟨s, h1, h2⟩ := HSD.out
        refine ⟨s + 1, ?_, fun i hi => ?_⟩
        · rw [hq2, h1, Nat.mod_add_mod, Nat.add_assoc]
        · by_cases hi2 : i < s
          · exact h2 i hi2
          · obtain rfl : i = s := by omega
            rw [← h1]; exact hs)
      clear hs hse hq2
      go_wp2_with fail
      go_round
      case rel => exact ⟨q2, hq2m, rfl, HSD2⟩
      case measure =>
        have := HQ2.out
        simp [intOf]
        rcases hm16 with rfl | rfl <;> omega
    · have hsl : 0 < (sOf k d).length := List.length_pos_iff.2 hs
      obtain ⟨s, hse⟩ : ∃ s, s = tb k d := ⟨_, rfl⟩
      rw [← hse] at hcell
      have hss : s.size = (sOf k d).length := by rw [hse, tb_strB]; exact strB_size _
      have hne : s.toList.isEmpty = false := by
        rw [ByteArray.toList_eq]
        have h1 : s.data.toList.length = (sOf k d).length := by rw [Array.length_toList]; exact hss
        cases h2 : s.data.toList with
        | nil => rw [h2] at h1; simp at h1; omega
        | cons => rfl
      have hne2 : (s.toList == []) = false := by
        cases h2 : s.toList with
        | nil => rw [h2] at hne; cases hne
        | cons => rfl
      have hsm : s.size ≤ 2 := by rw [hss]; exact (sOf_small k hk d (by omega)).1
      have HPUT := Lib.hid (put base p v bs (strB T) mode d M (by omega) hM (by omega) w1 (by have := HBS.out; have := HB1.out.size; omega) HW1.out)
      have HSE := Lib.hid hse
      have HS := Lib.hid hs
      clear hse hss hs hsl
      go_wp2_with fail
      refine HPUT.out.mono ?_
      rintro e w2 ⟨rfl, v2, hW2, hM2, hV2⟩
      obtain ⟨c0, c1, c2⟩ := hW2.cells
      have hf1 := hW2.ar.free 1
      have hpw : p < w.heap.size := HPW.out
      have hbm : ¬ WB p v b := fun hh => by
        rcases hh with h | h
        · omega
        · have := HVW.out b h; omega
      have hcell2 : w2.cell? ⟨b, off + d, none⟩ = some (.string s) := by
        rw [← hcell]; exact World.cell?_of_block (w := w1) (hM2.block b hbl1 hbm)
      obtain ⟨t, ht⟩ : ∃ t, t = strB T := ⟨_, rfl⟩
      rw [← ht] at c1
      have hts : t.size < 1000000 := by rw [ht, strB_size]; exact hT
      have htz : (9223372036854775807 < t.size + s.size) = False := by simp; omega
      have HW3 : Hid (Wr (w2.setCell ⟨p, 1, none⟩ (.string (t ++ s))) base p v2 (bs ++ bitsOf d M) (strB (T ++ sOf k d)) mode) := Lib.hid (by
        rw [← strB_app, ← ht, ← tb_strB, ← HSE.out]
        exact ⟨hW2.ar.set_ 1 _, own_mod (S := (· = p)) hW2.own (Mod.set1 w2 p 1 _) (fun j hj e => hW2.ne hj e)⟩)
      have HM3 : Hid (Mod (WB p v) w (w2.setCell ⟨p, 1, none⟩ (.string (t ++ s)))) := Lib.hid (((Mod.of_below HB1.out).then hM2 (fun i hi hh => hh)).setCell (p := ⟨p, 1, none⟩) (.inl (.inl rfl)) _)
      have HV3 : Hid (∀ j, v2.ownBlock = some j → v.ownBlock = some j ∨ w.heap.size ≤ j) := Lib.hid (fun j hj => by
        rcases hV2 j hj with h | h
        · exact .inl h
        · have := HB1.out.size; exact .inr (by omega))
      clear hW2 hM2 hV2 HPUT ht hcell c0 c2
      go_wp2_with fail
      go_region_law (fail)
      all_goals
        go_wp2_with fail
        go_end0
        refine ⟨rfl, v2, d, ⟨HS.out, by have h5 := HSD.out; rw [HQ.out, HMK.out] at h5; exact h5⟩, ?_, HM3.out.drewN _, HV3.out⟩
        exact ⟨HW3.out.ar, HW3.out.own⟩

theorem flat_sizeQ (b : List Nat) : (b.flatMap (bitsOf · 8)).length = 8 * b.length := by
  induction b with
  | nil => rfl
  | cons x b ih => rw [List.flatMap_cons, List.length_append, ih, bitsOf_len, List.length_cons]; omega
theorem hdr_len (n : Nat) : (hdr n).length = if n < 32 then 5 else 16 := by
  unfold hdr
  split
  · rw [bitsOf_len]
  · rw [List.length_append, bitsOf_len, bitsOf_len]
/-- 'string([]byte{y})'. -/
theorem conv_one {y : Nat} (W : World) (g : Nat) (hy : y < 128) (hW : W.cell? ⟨g, 0, none⟩ = some (.int .u8 y)) : (convert 22 9 (.slice (some ⟨g, 0, none⟩) 1 1)).run Tryz.prog W = .ok (.string (strB [y])) W := by
  have := run_convert_bytes_arg (P := Tryz.prog) W 22 5 Tryz.underlying22 (by kernel_rfl) g 0 1 1 [(y : Int)] rfl (fun i hi => by
    obtain rfl : i = 0 := by omega
    exact hW) 9 (by kernel_rfl)
  rw [this]; rfl
/-- The bytes are written as they are. -/
def BytesPost (base p : Nat) (v : Value) (bits : List Bool) (T l : List Nat) (mode : Nat) (w : World) (e : Ending) (w' : World) : Prop :=
  e = .returned (.tuple #[]) ∧ ∃ v', Wr w' base p v' (bits ++ (bitsOf 31 5 ++ (hdr l.length ++ l.flatMap (bitsOf · 8)))) (strB (T ++ l)) mode ∧ Mod (WB p v) w w' ∧ ∀ j, v'.ownBlock = some j → v.ownBlock = some j ∨ w.heap.size ≤ j
theorem Wr.lens {w : World} {base p : Nat} {v : Value} {bits : List Bool} {s : ByteArray} {mode : Nat} (h : Wr w base p v bits s mode) : p < w.heap.size := h.ar.lt

set_option maxRecDepth 100000 in
set_option maxHeartbeats 6400000 in
theorem bytes_ (base p : Nat) (v : Value) (bs : List Bool) (T l : List Nat) (mode : Nat) (B : Option Addr) (nb c : Nat) (z : Nat → Nat) (hl : l = (List.range nb).map fun j => z j % 128) (hz : ∀ j, j < nb → z j < 256) (hm : mode ≤ 2) (hnb : 0 < nb) (hnb2 : nb ≤ 69) (hbl : bs.length < 1000000) (hT : T.length < 1000000) (w : World) (hbp : base ≤ p) (hb : base ≤ w.heap.size) (h : Wr w base p v bs (strB T) mode) (hB : ∀ a, B = some a → a.block < base) (hr : Rd w B nb (fun j => .int .u8 (z j : Nat))) :
    Calls Tryz.prog 24 #[.pointer (some ⟨p, 0, none⟩), .slice B nb c] w (BytesPost base p v bs T l mode w) := by
  obtain ⟨bb, bo, e, hbb, hbc⟩ := hr hnb
  subst e
  have hbB : bb < base := hB _ rfl
  have hll : l.length = nb := by rw [hl]; simp
  have hlz : ∀ j, j < nb → nth l j = z j % 128 := fun j hj => by rw [hl]; exact nth_map_range _ _ _ hj
  obtain ⟨c0, c1, c2⟩ := h.cells
  have HP5 := Lib.hid (put base p v bs (strB T) mode 31 5 (by omega) (by omega) (by omega) w hb h)
  have HBC := Lib.hid hbc
  have HLL := Lib.hid hll
  have HLZ := Lib.hid hlz
  have HZ := Lib.hid hz
  have HOW : Hid (∀ j, v.ownBlock = some j → base ≤ j ∧ j < w.heap.size) := Lib.hid (fun j hj => h.own.lt j hj)
  have hpw := h.lens
  have hn0 : ((nb : Int) == 0) = false := by simp; omega
  have hm2 : (mode : Int) ≤ 2 := by omega
  clear hbc hll hlz hl hz hr hB h c0 c1
  go_enter Tryz.func24, Tryz.ntmps24
  go_wp2_with fail
  refine HP5.out.mono ?_
  rintro e w1 ⟨rfl, v1, hW1, hM1, hV1⟩
  have HW1 := Lib.hid hW1
  have HM1 := Lib.hid hM1
  have HV1 := Lib.hid hV1
  clear hW1 hM1 hV1 HP5 c2
  go_upto_if 19 with (fail)
  go_cut [] (fun wx => ∃ v2, Hid (Wr wx base p v2 (bs ++ (bitsOf 31 5 ++ hdr nb)) (strB T) mode) ∧ Hid (Mod (WB p v) w wx) ∧ Hid (∀ j, v2.ownBlock = some j → v.ownBlock = some j ∨ w.heap.size ≤ j))
  case first =>
    have hbl1 : (bs ++ bitsOf 31 5).length < 2000000 := by rw [List.length_append, bitsOf_len]; omega
    by_cases h32 : nb < 32
    · have h32' : (nb : Int) < 32 := by omega
      have HP := Lib.hid (put base p v1 (bs ++ bitsOf 31 5) (strB T) mode nb 5 (by omega) (by omega) (by omega) w1 (by have := HM1.out.size; omega) HW1.out)
      have hh : hdr nb = bitsOf nb 5 := by unfold hdr; rw [if_pos h32]
      have HH := Lib.hid hh
      clear hh
      go_wp2_with fail
      refine HP.out.mono ?_
      rintro e w2 ⟨rfl, v2, hW2, hM2, hV2⟩
      have HW2 := Lib.hid hW2
      have HM2 := Lib.hid (HM1.out.then hM2 (fun i hi hh => by
        rcases hh with h | h
        · exact .inl h
        · rcases HV1.out i h with h | h
          · exact .inr h
          · omega))
      have HV2 : Hid (∀ j, v2.ownBlock = some j → v.ownBlock = some j ∨ w.heap.size ≤ j) := Lib.hid (fun j hj => by
        rcases hV2 j hj with h | h
        · exact HV1.out j h
        · have := HM1.out.size; exact .inr (by omega))
      clear hW2 hM2 hV2 HP HW1 HM1 HV1
      go_wp2_with fail
      go_meet
      case rel => exact ⟨v2, Lib.hid (by rw [HH.out, ← List.append_assoc]; exact HW2.out), HM2, HV2⟩
    · have h32' : (32 : Int) ≤ (nb : Int) := by omega
      have HP := Lib.hid (put base p v1 (bs ++ bitsOf 31 5) (strB T) mode 0 5 (by omega) (by omega) (by omega) w1 (by have := HM1.out.size; omega) HW1.out)
      have hh : hdr nb = bitsOf 0 5 ++ bitsOf (nb - 31) 11 := by unfold hdr; rw [if_neg h32]
      have HH := Lib.hid hh
      obtain ⟨nc, hnc⟩ : ∃ nc, nc = nb - 31 := ⟨_, rfl⟩
      have hnc1 : (nb : Int) - 31 = (nc : Int) := by omega
      have HNC := Lib.hid hnc
      have hncl : nc < 100 := by omega
      clear hh hnc
      go_wp2_with fail
      refine HP.out.mono ?_
      rintro e w2 ⟨rfl, v2, hW2, hM2, hV2⟩
      have hM12 := HM1.out.then hM2 (fun i hi hh => by
        rcases hh with h | h
        · exact .inl h
        · rcases HV1.out i h with h | h
          · exact .inr h
          · omega)
      have hV12 : ∀ j, v2.ownBlock = some j → v.ownBlock = some j ∨ w.heap.size ≤ j := fun j hj => by
        rcases hV2 j hj with h | h
        · exact HV1.out j h
        · have := HM1.out.size; exact .inr (by omega)
      have HP2 := Lib.hid (put base p v2 (bs ++ bitsOf 31 5 ++ bitsOf 0 5) (strB T) mode nc 11 (by omega) (by omega) (by rw [List.length_append, bitsOf_len]; omega) w2 (by have := hM12.size; omega) hW2)
      have HM12 := Lib.hid hM12
      have HV12 := Lib.hid hV12
      clear hW2 hM2 hV2 HP HW1 HM1 HV1 hM12 hV12
      go_wp2_with fail
      refine HP2.out.mono ?_
      rintro e w3 ⟨rfl, v3, hW3, hM3, hV3⟩
      have HW3 := Lib.hid hW3
      have HM3 := Lib.hid (HM12.out.then hM3 (fun i hi hh => by
        rcases hh with h | h
        · exact .inl h
        · rcases HV12.out i h with h | h
          · exact .inr h
          · omega))
      have HV3 : Hid (∀ j, v3.ownBlock = some j → v.ownBlock = some j ∨ w.heap.size ≤ j) := Lib.hid (fun j hj => by
        rcases hV3 j hj with h | h
        · exact HV12.out j h
        · have := HM12.out.size; exact .inr (by omega))
      clear hW3 hM3 hV3 HP2 HM12 HV12
      go_wp2_with fail
      go_meet
      case rel => exact ⟨v3, Lib.hid (by rw [HH.out, ← HNC.out, ← List.append_assoc, ← List.append_assoc]; exact HW3.out), HM3, HV3⟩
  case rest =>
    obtain ⟨v2, HW2, HM2, HV2⟩ := hcut
    clear HW1 HM1 HV1
    have hhl : (hdr nb).length ≤ 16 := by rw [hdr_len]; split <;> omega
    go_wp2_with fail
    go_loopw [4] (fun i wr => ∃ (k : Nat) (v3 : Value), k ≤ nb ∧ i = .int .i64 k ∧ Hid (Wr wr base p v3 (bs ++ (bitsOf 31 5 ++ (hdr nb ++ (l.take k).flatMap (bitsOf · 8)))) (strB (T ++ l.take k)) mode) ∧ Hid (Mod (WB p v) w wr) ∧ Hid (∀ j, v3.ownBlock = some j → v.ownBlock = some j ∨ w.heap.size ≤ j)) (fun i _ => nb - (intOf i).toNat)
    case atStart => exact ⟨0, v2, Nat.zero_le _, rfl, Lib.hid (by simpa using HW2.out), HM2, HV2⟩
    case round =>
      obtain ⟨k, v3, hk, rfl, HW3, HM3, HV3⟩ := hrel
      clear HW2 HM2 HV2
      by_cases hlt : k < nb
      · have hk1 : (k : Int) < (nb : Int) := by omega
        have hk0 : (0 : Int) ≤ (k : Int) := by omega
        have hbw : ¬ WB p v bb := fun hh => by
          rcases hh with h | h
          · omega
          · have := HOW.out bb h; omega
        have hcell : wr.cell? ⟨bb, bo + k, none⟩ = some (.int .u8 (z k : Nat)) := by
          rw [← HBC.out k hlt]; exact World.cell?_of_block (w := w) (HM3.out.block bb hbb hbw)
        have hx256 := HZ.out k hlt
        have hlk := HLZ.out k hlt
        obtain ⟨x, hx⟩ : ∃ x, x = z k := ⟨_, rfl⟩
        rw [← hx] at hcell hx256 hlk
        obtain ⟨y, hy⟩ : ∃ y, y = x % 128 := ⟨_, rfl⟩
        rw [← hy] at hlk
        have ey : (x : Int) % 128 = (y : Int) := by omega
        have ey2 : (x : Int).tmod 128 = (y : Int) := by rw [Int.tmod_eq_emod_of_nonneg (by omega)]; omega
        have hyl : y < 128 := by omega
        have HLK := Lib.hid hlk
        have hfl : ((l.take k).flatMap (bitsOf · 8)).length ≤ 600 := by rw [flat_sizeQ, List.length_take]; omega
        have HP := Lib.hid (put base p v3 _ (strB (T ++ l.take k)) mode y 8 (by omega) (by omega) (by rw [List.length_append, List.length_append, List.length_append, bitsOf_len]; omega) wr (by have := HM3.out.size; omega) HW3.out)
        clear hx hy hlk hfl
        go_wp2_with fail
        refine HP.out.mono ?_
        rintro e w4 ⟨rfl, v4, hW4, hM4, hV4⟩
        obtain ⟨c0, c1, c2⟩ := hW4.cells
        have hf1 := hW4.ar.free 1
        have hcell4 : w4.cell? ⟨bb, bo + k, none⟩ = some (.int .u8 x) := by
          rw [← hcell]
          refine World.cell?_of_block (w := wr) (hM4.block bb (by have := HM3.out.size; omega) (fun hh => hbw ?_))
          rcases hh with h | h
          · exact .inl h
          · rcases HV3.out bb h with h | h
            · exact .inr h
            · omega
        obtain ⟨t, ht⟩ : ∃ t, t = strB (T ++ l.take k) := ⟨_, rfl⟩
        rw [← ht] at c1
        have hts : t.size < 2000000 := by rw [ht, strB_size, List.length_append, List.length_take]; omega
        obtain ⟨s, hs⟩ : ∃ s, s = strB [y] := ⟨_, rfl⟩
        have hss : s.size = 1 := by rw [hs, strB_size]; rfl
        have htz : (9223372036854775807 < t.size + s.size) = False := by simp; omega
        have hpw4 : p < w4.heap.size := hW4.lens
        have hcv := conv_one (y := y) ((w4.alloc (.cells #[.int .u8 y] 5)).drew) w4.heap.size hyl (by rw [World.cell?_drew, World.cell?_alloc_at _ _ _ _ rfl]; rfl)
        rw [← hs] at hcv
        have HW5 : Hid (Wr (((w4.setCell ⟨p, 1, none⟩ (.string (t ++ s))).alloc (.cells #[.int .u8 y] 5)).drew) base p v4 (bs ++ (bitsOf 31 5 ++ (hdr nb ++ (l.take (k + 1)).flatMap (bitsOf · 8)))) (strB (T ++ l.take (k + 1))) mode) := Lib.hid (by
          have e1 : l.take (k + 1) = l.take k ++ [y] := by rw [take_nth (by rw [HLL.out]; exact hlt), HLK.out]
          rw [e1, ← List.append_assoc T, ← strB_app, ← ht, ← hs, List.flatMap_append, show List.flatMap (bitsOf · 8) [y] = bitsOf y 8 by simp]
          have e2 : bs ++ (bitsOf 31 5 ++ (hdr nb ++ ((l.take k).flatMap (bitsOf · 8) ++ bitsOf y 8))) = bs ++ (bitsOf 31 5 ++ (hdr nb ++ (l.take k).flatMap (bitsOf · 8))) ++ bitsOf y 8 := by simp only [List.append_assoc]
          rw [e2]
          have h7 : Wr (w4.setCell ⟨p, 1, none⟩ (.string (t ++ s))) base p v4 _ (t ++ s) mode := ⟨hW4.ar.set_ 1 (.string (t ++ s)), own_mod (S := (· = p)) hW4.own (Mod.set1 _ p 1 _) (fun j hj e => hW4.ne hj e)⟩
          have h8 := h7.below ((Below.refl _ _).alloc (Nat.le_refl _) (.cells #[.int .u8 y] 5))
          exact ⟨h8.ar, h8.own⟩)
        have HM5 : Hid (Mod (WB p v) w (((w4.setCell ⟨p, 1, none⟩ (.string (t ++ s))).alloc (.cells #[.int .u8 y] 5)).drew)) := Lib.hid ((((HM3.out.then hM4 (fun i hi hh => by
          rcases hh with h | h
          · exact .inl h
          · rcases HV3.out i h with h | h
            · exact .inr h
            · omega)).setCell (p := ⟨p, 1, none⟩) (.inl (.inl rfl)) _).alloc _).drew)
        have HV5 : Hid (∀ j, v4.ownBlock = some j → v.ownBlock = some j ∨ w.heap.size ≤ j) := Lib.hid (fun j hj => by
          rcases hV4 j hj with h | h
          · exact HV3.out j h
          · have := HM3.out.size; exact .inr (by omega))
        clear hW4 hM4 hV4 HP ht hs hcell c0 c2 HW3 HM3 HV3 hss hbw
        go_wp2_with fail
        go_region_law (fail)
        all_goals
          go_wp2_with fail
          go_roundw
          case rel => exact ⟨k + 1, v4, by omega, by go_num, HW5, HM5, HV5⟩
          case measure => simp [intOf]; omega
      · obtain rfl : k = nb := by omega
        have hkk : ((k : Int) < (k : Int)) = False := by simp
        have htk : l.take k = l := by rw [← HLL.out, List.take_length]
        rw [htk] at HW3
        rw [← HLL.out] at HW3
        clear htk
        go_wp2_with fail
        go_end0
        exact ⟨rfl, v3, HW3.out, HM3.out, HV3.out⟩
end Go.Proofs.YtiielblnmfeapaaGreatDoor
