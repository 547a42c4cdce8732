/-
  getEncodedData, walked: steps of a message say their text. No condition beyond the bounds that the theorem states.
-/
import Derived.Test.YtiielblnmfeapaaGreatDoorAZE0
import Derived.Outline
namespace Go.Proofs.YtiielblnmfeapaaGreatDoor
open Go.RowKit Go.Qz
set_option linter.unusedVariables false

theorem hdr_lenE (n : Nat) : (hdr n).length = if n < 32 then 5 else 16 := by
  unfold hdr
  split
  · rw [bitsOf_len]
  · rw [List.length_append, bitsOf_len, bitsOf_len]
theorem en_pos {la sh : Nat} {m : Mi} {s : Nat × Nat} (h : Nxt la sh m s) : 0 < (en sh m).length := by
  have hw : 0 < wd sh := by unfold wd; split <;> omega
  cases m with
  | ch c => show 0 < (bitsOf c (wd sh)).length; rw [bitsOf_len]; exact hw
  | lat c => show 0 < (bitsOf c (wd sh)).length; rw [bitsOf_len]; exact hw
  | sh c => show 0 < (bitsOf c (wd sh)).length; rw [bitsOf_len]; exact hw
  | bytes b =>
    show 0 < (hdr b.length ++ b.flatMap (bitsOf · 8)).length
    rw [List.length_append, hdr_lenE]
    split <;> omega

theorem flat_drop : ∀ (b : List Nat) (k : Nat), (b.flatMap (bitsOf · 8)).drop (8 * k) = (b.drop k).flatMap (bitsOf · 8)
  | b, 0 => by simp
  | [], k + 1 => by simp
  | x :: b, k + 1 => by
    have h8 : (bitsOf x 8).length = 8 := bitsOf_len x 8
    rw [List.flatMap_cons, show 8 * (k + 1) = 8 + 8 * k by omega, ← List.drop_drop, List.drop_left' h8, flat_drop b k, List.drop_succ_cons]
theorem flat_size (b : List Nat) : (b.flatMap (bitsOf · 8)).length = 8 * b.length := by
  induction b with
  | nil => rfl
  | cons x b ih => rw [List.flatMap_cons, List.length_append, ih, bitsOf_len, List.length_cons]; omega
theorem byte_at {L : List Bool} {b : List Nat} {rest : List Bool} {i k : Nat} (h : L.drop i = b.flatMap (bitsOf · 8) ++ rest) (hk : k < b.length) (hb : nth b k < 256) : vl L (i + 8 * k) 8 = nth b k := by
  refine vl_bits L (i + 8 * k) (nth b k) 8 ((b.drop (k + 1)).flatMap (bitsOf · 8) ++ rest) ?_ hb
  rw [← List.drop_drop, h, List.drop_append_of_le_length (by rw [flat_size]; omega), flat_drop, drop_nth hk, List.flatMap_cons, List.append_assoc]
theorem hdr_short {L : List Bool} {nb i : Nat} {rest : List Bool} (h : L.drop i = hdr nb ++ rest) (hn : nb < 32) : vl L i 5 = nb ∧ L.drop (i + 5) = rest := by
  unfold hdr at h
  rw [if_pos hn] at h
  refine ⟨vl_bits L i nb 5 rest h hn, ?_⟩
  rw [← List.drop_drop, h, List.drop_left' (bitsOf_len _ _)]
theorem hdr_long {L : List Bool} {nb i : Nat} {rest : List Bool} (h : L.drop i = hdr nb ++ rest) (hn : ¬ nb < 32) (hn2 : nb ≤ 2000) : vl L i 5 = 0 ∧ vl L (i + 5) 11 = nb - 31 ∧ L.drop (i + 16) = rest := by
  unfold hdr at h
  rw [if_neg hn, List.append_assoc] at h
  have h2 : L.drop (i + 5) = bitsOf (nb - 31) 11 ++ rest := by rw [← List.drop_drop, h, List.drop_left' (bitsOf_len _ _)]
  refine ⟨vl_bits L i 0 5 _ h (by decide), vl_bits L (i + 5) (nb - 31) 11 rest h2 (by have : (2 : Nat) ^ 11 = 2048 := rfl; omega), ?_⟩
  rw [show i + 16 = i + 5 + 11 by omega, ← List.drop_drop, h2, List.drop_left' (bitsOf_len _ _)]
theorem ones5 {L tail : List Bool} {i : Nat} (h : L.drop i = tail) (h5 : 5 ≤ tail.length) (ht : ∀ j, j < 5 → nthB tail j = true) : vl L i 5 = 31 := by
  have key : ∀ j, j < 5 → nthB L (i + j) = true := fun j hj => by
    have := nthB_drop (L := L) (M := tail) (rest := []) (i := i) (j := j) (by rw [h, List.append_nil]) (by omega)
    rw [this]; exact ht j hj
  simp only [vl, key 0 (by omega), key 1 (by omega), key 2 (by omega), key 3 (by omega), key 4 (by omega), Bool.toNat_true]

/-- Where the decoder stands. -/
def At (L : List Bool) (all : List Nat) (la sh idx : Nat) (done : List Nat) : Prop :=
  ∃ ms bs ts fa fs tail, Runs (la, sh) ms bs ts (fa, fs) ∧ L.drop idx = bs ++ tail ∧ Stop fs tail ∧ done ++ ts = all ∧ idx ≤ L.length

def TextPost (all : List Nat) (w : World) (e : Ending) (w' : World) : Prop := e = .returned (.tuple #[.string (strB all), .nilIface]) ∧ Below w.heap.size w w'

set_option maxRecDepth 100000 in
set_option maxHeartbeats 12800000 in
theorem encodedData (d : Value) (L : List Bool) (all : List Nat) (A : Option Addr) (n cq : Nat) (hn : n = L.length) (hn5 : 5 ≤ n) (hnl : n < 1000000) (hat : At L all 0 0 0 []) (hall : all.length < 1000000 ∧ ∀ x ∈ all, x < 128) (w : World) (h : Rd w A n (fun j => .bool (nthB L j))) :
    Calls Tryz.prog 41 #[d, .slice A n cq] w (TextPost all w) := by
  have HN := Lib.hid hn
  have HAT := Lib.hid hat
  have HALL := Lib.hid hall
  have HR := Lib.hid h
  obtain ⟨cp, hcp⟩ : ∃ cp, cp = (n - 5) / 4 := ⟨_, rfl⟩
  have hcp1 : ((n : Int) - 5) / 4 = (cp : Int) := by omega
  have hcpl : cp < 1000000 := by omega
  have hmk := fun W => run_make0 (P := Tryz.prog) 22 5 (.int .u8 0) 1 Tryz.underlying22 Tryz.infoU8 rfl (by decide) cp (by omega) .i64 .i64 cp rfl W
  have hmk0 := fun W => run_make0 (P := Tryz.prog) 22 5 (.int .u8 0) 1 Tryz.underlying22 Tryz.infoU8 rfl (by decide) 0 (by omega) .i64 .i64 0 rfl W
  clear hn hat hall h hcp
  go_enter Tryz.func41, Tryz.ntmps41

  go_wp2_with fail
  have hI1 := own_make0 w 5 (.int .u8 0) cp w.heap.size (Nat.le_refl _) (by unfold maxLen; omega)
  have hI2 := own_make0 (w.alloc (.cells (zeros cp (.int .u8 0)) 5)) 5 (.int .u8 0) 0 (w.heap.size + 1) (by simp) (by unfold maxLen; omega)
  have hb0 : Below w.heap.size w ((w.alloc (.cells (zeros cp (.int .u8 0)) 5)).alloc (.cells (zeros 0 (.int .u8 0)) 5)) := ((Below.refl _ _).alloc (Nat.le_refl _) _).alloc (by simp) _
  have HI1 := Lib.hid (hI1.alloc (.cells (zeros 0 (.int .u8 0)) 5))
  have hI2' : ((w.alloc (.cells (zeros cp (.int .u8 0)) 5)).alloc (.cells (zeros 0 (.int .u8 0)) 5)).ownsRow (w.heap.size + 1) 5 1 (.slice (some ⟨w.heap.size + 1, 0, none⟩) 0 0) 0 [] := by simpa using hI2
  have HI2 := Lib.hid hI2'
  have HB0 := Lib.hid hb0
  have HSZ0 : Hid (w.heap.size + 2 ≤ ((w.alloc (.cells (zeros cp (.int .u8 0)) 5)).alloc (.cells (zeros 0 (.int .u8 0)) 5)).heap.size) := Lib.hid (by simp)
  obtain ⟨W0, hW0⟩ : ∃ W0, W0 = ((w.alloc (.cells (zeros cp (.int .u8 0)) 5)).alloc (.cells (zeros 0 (.int .u8 0)) 5)) := ⟨_, rfl⟩
  rw [← hW0] at HI1 HI2 HB0 HSZ0 ⊢
  clear hI1 hI2 hI2' hb0 hW0 hmk hmk0 hcp1
  go_loopw [7, 8, 9, 10, 11] (fun a b r d i wr => ∃ (la sh idx : Nat) (done : List Nat), r = .slice (some ⟨w.heap.size, 0, none⟩) 0 cp ∧ a = .int .i64 (tn la : Nat) ∧ b = .int .i64 (tn sh : Nat) ∧ i = .int .i64 idx ∧ la < 5 ∧ sh < 6 ∧ idx ≤ n ∧ Hid (At L all la sh idx done) ∧ Hid (wr.ownsRow (w.heap.size + 1) 5 1 d done.length (bytesV done)) ∧ Hid (wr.ownsRow w.heap.size 5 1 (.slice (some ⟨w.heap.size, 0, none⟩) 0 cp) 0 []) ∧ Hid (Below w.heap.size w wr) ∧ Hid (w.heap.size + 2 ≤ wr.heap.size)) (fun _ _ _ _ i _ => n - (intOf i).toNat)
  case atStart => exact ⟨0, 0, 0, [], rfl, rfl, rfl, rfl, by omega, by omega, by omega, HAT, HI2, HI1, HB0, HSZ0⟩
  case round =>
    obtain ⟨la, sh, idx, done, rfl, rfl, rfl, rfl, hla, hsh, hidx, HA, HO, HOR, HBE, HSZ⟩ := hrel
    clear HI1 HI2 HB0 HSZ0
    by_cases hlt : idx < n
    · have hlt1 : (idx : Int) < (n : Int) := by omega
      have hidx0 : (0 : Int) ≤ (idx : Int) := by omega
      obtain ⟨ms, bs, ts, fa, fs, tail, hrun, hdrop, hstop, hdone, _⟩ := HA.out
      cases hrun with
      | nil =>
        have hdt : L.drop idx = tail := by rw [hdrop]; rfl
        have hda : done = all := by rw [← hdone, List.append_nil]
        have htl : tail.length = n - idx := by rw [← hdt, List.length_drop, ← HN.out]
        rcases hstop with rfl | ⟨hs5, hlt5⟩ | ⟨rfl, hlt5⟩ | ⟨rfl, h5a, h5b, h5c⟩
        · exfalso; simp at htl; omega
        · have h5 := tn_ne5 hs5
          have h3 := tn_3 hs5
          have h45 : (sh = 4 ∧ wd sh = 4) ∨ (decide (sh = 4) = false ∧ wd sh = 5) := by
            by_cases h : sh = 4
            · exact .inl ⟨h, by rw [h]; rfl⟩
            · exact .inr ⟨by simpa using h, by unfold wd; rw [if_neg h]⟩
          obtain ⟨T, hT⟩ : ∃ T : Nat, T = tn sh := ⟨_, rfl⟩
          rw [← hT] at h5 h3 ⊢
          rcases h45 with ⟨h4, hw⟩ | ⟨h4, hw⟩
          · rw [hw] at hlt5
            have hge : (n : Int) - (idx : Int) < 4 := by omega
            simp only [h4, decide_true] at h3
            clear h4 hT hw hdt hdrop hdone htl
            have hfin : all = done := hda.symm
            subst hfin
            obtain ⟨Ad, cd, rfl, hcd, _, hrd⟩ := Rd.of_own HO.out
            have HRD : Hid (Rd wr Ad all.length (fun j => .int .u8 (nth all j : Nat))) := Lib.hid (hrd.congr fun j hj => by unfold bytesV; rw [List.getD_eq_getElem?_getD, List.getElem?_map, List.getElem?_eq_getElem hj, nth_eq hj]; rfl)
            clear hrd
            go_wp2_with (at_builtin; refine wpList_copyTo _ _ 22 w.heap.size 5 (.int .u8 0) 1 _ 0 [] _ all.length _ _ rfl rfl rfl rfl Tryz.underlying22 Tryz.infoU8 rfl (fun j _ => rfl) (by decide) HOR.out HRD.out (by have := HALL.out.1; omega) HBE.out.size ?_)
            intro v9 w9 hown9 hg9 hb9
            obtain ⟨A9, c9, rfl, hcv⟩ := conv_own (w := w9) (n := all.length) (l := all) (by rw [← range_bytes]; exact hown9) (fun x hx => by have := HALL.out.2 x hx; omega)
            have HB9 := Lib.hid (HBE.out.trans hb9)
            clear hown9 hg9 hb9
            go_wp2_with fail
            go_ret2
            exact ⟨rfl, HB9.out⟩
          · rw [hw] at hlt5
            have hge : (n : Int) - (idx : Int) < 5 := by omega
            simp only [h4] at h3
            clear h4 hT hw hdt hdrop hdone htl
            have hfin : all = done := hda.symm
            subst hfin
            obtain ⟨Ad, cd, rfl, hcd, _, hrd⟩ := Rd.of_own HO.out
            have HRD : Hid (Rd wr Ad all.length (fun j => .int .u8 (nth all j : Nat))) := Lib.hid (hrd.congr fun j hj => by unfold bytesV; rw [List.getD_eq_getElem?_getD, List.getElem?_map, List.getElem?_eq_getElem hj, nth_eq hj]; rfl)
            clear hrd
            go_wp2_with (at_builtin; refine wpList_copyTo _ _ 22 w.heap.size 5 (.int .u8 0) 1 _ 0 [] _ all.length _ _ rfl rfl rfl rfl Tryz.underlying22 Tryz.infoU8 rfl (fun j _ => rfl) (by decide) HOR.out HRD.out (by have := HALL.out.1; omega) HBE.out.size ?_)
            intro v9 w9 hown9 hg9 hb9
            obtain ⟨A9, c9, rfl, hcv⟩ := conv_own (w := w9) (n := all.length) (l := all) (by rw [← range_bytes]; exact hown9) (fun x hx => by have := HALL.out.2 x hx; omega)
            have HB9 := Lib.hid (HBE.out.trans hb9)
            clear hown9 hg9 hb9
            go_wp2_with fail
            go_ret2
            exact ⟨rfl, HB9.out⟩
        · have h5 : ((((tn 5 : Nat)) : Int) == 5) = true := rfl
          obtain ⟨T, hT⟩ : ∃ T : Nat, T = tn 5 := ⟨_, rfl⟩
          rw [← hT] at h5 ⊢
          have hge : (n : Int) - (idx : Int) < 5 := by omega
          clear hT hdt hdrop hdone htl
          have hfin : all = done := hda.symm
          subst hfin
          obtain ⟨Ad, cd, rfl, hcd, _, hrd⟩ := Rd.of_own HO.out
          have HRD : Hid (Rd wr Ad all.length (fun j => .int .u8 (nth all j : Nat))) := Lib.hid (hrd.congr fun j hj => by unfold bytesV; rw [List.getD_eq_getElem?_getD, List.getElem?_map, List.getElem?_eq_getElem hj, nth_eq hj]; rfl)
          clear hrd
          go_wp2_with (at_builtin; refine wpList_copyTo _ _ 22 w.heap.size 5 (.int .u8 0) 1 _ 0 [] _ all.length _ _ rfl rfl rfl rfl Tryz.underlying22 Tryz.infoU8 rfl (fun j _ => rfl) (by decide) HOR.out HRD.out (by have := HALL.out.1; omega) HBE.out.size ?_)
          intro v9 w9 hown9 hg9 hb9
          obtain ⟨A9, c9, rfl, hcv⟩ := conv_own (w := w9) (n := all.length) (l := all) (by rw [← range_bytes]; exact hown9) (fun x hx => by have := HALL.out.2 x hx; omega)
          have HB9 := Lib.hid (HBE.out.trans hb9)
          clear hown9 hg9 hb9
          go_wp2_with fail
          go_ret2
          exact ⟨rfl, HB9.out⟩
        · have h5 : ((((tn 5 : Nat)) : Int) == 5) = true := rfl
          obtain ⟨T, hT⟩ : ∃ T : Nat, T = tn 5 := ⟨_, rfl⟩
          rw [← hT] at h5 ⊢
          have hge : (5 : Int) ≤ (n : Int) - (idx : Int) := by omega
          have hge8 : (n : Int) - ((idx : Int) + 5) < 8 := by omega
          have hrc := readCode L A n cq idx 5 HN.out (by omega) (by omega) hnl wr (HR.out.below HBE.out)
          rw [ones5 hdt h5a h5c] at hrc
          have HRC := Lib.hid hrc
          have HA9 : Hid (At L all la la n done) := Lib.hid ⟨[], [], [], la, la, [], .nil _, by rw [List.drop_eq_nil_of_le (by have := HN.out; omega)]; rfl, .inl rfl, by rw [hda, List.append_nil], by have := HN.out; omega⟩
          clear hT hdt hdrop hdone htl hrc h5a h5b h5c hda HA
          go_wp2_with fail
          refine HRC.out.mono ?_
          rintro e w1 ⟨rfl, rfl⟩
          go_wp2_with fail
          go_loopw [10, 11, 13] (fun x i cc wx => wr = wx ∧ Hid (wr.ownsRow (w.heap.size + 1) 5 1 x done.length (bytesV done)) ∧ i = .int .i64 ((idx : Int) + 5) ∧ cc = .int .i64 0) (fun _ _ _ _ => 0)
          case atStart => exact ⟨rfl, HO, rfl, rfl⟩
          case round =>
            clear HO
            obtain ⟨rfl, HO, rfl, rfl⟩ := hrel
            go_wp2_with fail
            go_roundw
            case rel => exact ⟨la, la, n, done, rfl, rfl, rfl, rfl, hla, by omega, Nat.le_refl _, HA9, HO, HOR, HBE, HSZ⟩
            case measure => simp [intOf]; omega
      | @cons _ _ m s1 _ ms' bs' ts' hnx hrun' =>
        have hlen : en sh m ++ (bs' ++ tail) = L.drop idx := by rw [hdrop, List.append_assoc]
        have hl2 : (en sh m).length + (bs' ++ tail).length = n - idx := by rw [← List.length_append, hlen, List.length_drop, ← HN.out]
        have hnl2 := nxt_lt hnx hla hsh
        have HAT2 : ∀ j, j = idx + (en sh m).length → At L all s1.1 s1.2 j (done ++ tx sh m) := fun j hj => ⟨ms', bs', ts', fa, fs, tail, hrun', by rw [hj, ← List.drop_drop, ← hlen, List.drop_left], hstop, by rw [← hdone, List.append_assoc], by have := HN.out; omega⟩
        cases m with
        | ch c =>
          obtain ⟨hs5, hso, rfl⟩ := hnx
          have hcl := sOf_lt sh hs5 c hso
          have hc32 : c < 32 := by have : tbLen sh ≤ 32 := by unfold tbLen; split <;> omega
                                   omega
          obtain ⟨hsm, hsx⟩ := sOf_small sh hs5 c hc32
          have hd := dts_ch hso
          have h5 := tn_ne5 hs5
          have h3 := tn_3 hs5
          have HGC := Lib.hid (fun W => getChar sh c hs5 hcl W)
          rw [tbLen_wd sh hs5] at hcl
          have hwd : (en sh (.ch c)).length = wd sh := bitsOf_len _ _
          rw [hwd] at hl2 HAT2
          obtain ⟨l, hl⟩ : ∃ l, l = sOf sh c := ⟨_, rfl⟩
          have htb : dts sh c = strB l := by rw [hd, hl]; rfl
          have HTX : Hid (tx sh (.ch c) = l) := Lib.hid (by rw [hl]; rfl)
          rw [← hl] at hsm hsx hso
          obtain ⟨s, hs⟩ : ∃ s, s = strB l := ⟨_, rfl⟩
          have hss : s.size = l.length := by rw [hs]; exact strB_size l
          have hflg : (s.toList == [70, 76, 71, 40, 110, 41]) = false := by
            rw [beq_eq_false_iff_ne, ByteArray.toList_eq]
            intro h
            have h9 : s.data.toList.length = 6 := by rw [h]; rfl
            have h10 : s.size = 6 := by rw [← h9, Array.length_toList]; rfl
            omega
          obtain ⟨C, X, hconv, hX⟩ := conv_str s l hs (fun x hx => by have := hsx x hx; omega)
          have HHP := Lib.hid (fun W => hasPrefix_not s ⟨#[67, 84, 82, 76, 95]⟩ (by omega) (by decide) (by rw [hss]; show l.length < 5; omega) W)
          have HX := Lib.hid hX
          have HSS := Lib.hid hss
          have hall2 := HAT2
          obtain ⟨Z, hZ⟩ : ∃ Z, Z = wd sh := ⟨_, rfl⟩
          rw [← hZ] at hcl hl2
          have hZ5b : Z ≤ 5 := by rw [hZ]; unfold wd; split <;> omega
          have hrc := readCode L A n cq idx Z HN.out (by omega) (by omega) hnl wr (HR.out.below HBE.out)
          have hvb := vl_bits L idx c Z (bs' ++ tail) (by rw [← hlen, hZ]; rfl) hcl
          rw [hvb] at hrc
          have HRC := Lib.hid hrc
          have HGS : Hid (∀ W, Calls Tryz.prog 68 #[.int .i64 (tn sh : Nat), .int .i64 c] W fun e w' => e = .returned (.tuple #[.string s, .nilIface]) ∧ Below W.heap.size W w') := Lib.hid (fun W => (HGC.out W).mono (fun e w' h => by
            obtain ⟨h1, h2⟩ := h
            exact ⟨by rw [h1, htb, hs], h2⟩))
          have HAT3 : Hid (∀ j, j = idx + Z → At L all la la j (done ++ l)) := Lib.hid (fun j hj => by rw [← HTX.out]; exact HAT2 j (by rw [hj, hZ]))
          have hdl : done.length + l.length ≤ all.length := by
            rw [← hdone, List.length_append, List.length_append, HTX.out]; omega
          have hZ5 : idx + Z ≤ n := by omega
          have hdl2 : done.length < 1000000 := by have := HALL.out.1; omega
          have HOD := Lib.hid hdl
          have hsz2 : s.size ≤ 2 := by omega
          clear hrc hvb HAT2 hall2 hdrop hdone hstop hlen hl2 hrun' hnl2 hd htb hs hl HGC hwd HA hss hX hso hsx hsm hcl hc32 hdl
          have h45 : (sh = 4 ∧ Z = 4) ∨ (decide (sh = 4) = false ∧ Z = 5) := by
            by_cases h : sh = 4
            · exact .inl ⟨h, by rw [hZ, h]; rfl⟩
            · exact .inr ⟨by simpa using h, by rw [hZ]; unfold wd; rw [if_neg h]⟩
          have hTS : ∃ T : Nat, T = tn sh := ⟨_, rfl⟩
          obtain ⟨T, hT⟩ := hTS
          rw [← hT] at h5 h3 HGS ⊢
          clear hT hZ
          rcases h45 with ⟨h4, rfl⟩ | ⟨h4, rfl⟩
          all_goals
            simp only [h4, decide_true] at h3
            have H4 := Lib.hid h4
            clear h4
            go_wp2_with fail
            refine HRC.out.mono ?_
            rintro e w1 ⟨rfl, rfl⟩
            go_wp2_with fail
            refine (HGS.out _).mono ?_
            rintro e w2 ⟨rfl, hb2⟩
            have hOR2 := own_below HOR.out hb2
            have hO2 := own_below HO.out hb2
            have hBE2 := HBE.out.trans (hb2.mono HBE.out.size)
            have HOR2 := Lib.hid hOR2
            have HO2 := Lib.hid hO2
            have HBE2 := Lib.hid hBE2
            have HSZ2 : Hid (w.heap.size + 2 ≤ w2.heap.size) := Lib.hid (by have := HSZ.out; have := hb2.size; omega)
            clear hOR2 hO2 hBE2 hb2 HOR HO HBE HSZ
            go_wp2_with fail
            refine (HHP.out _).mono ?_
            rintro e w3 ⟨rfl, rfl⟩
            have hx := HX.out w2
            have hOR2 := own_below HOR2.out hx.1
            have hO2 := own_below HO2.out hx.1
            have hBE2 := HBE2.out.trans (hx.1.mono HBE2.out.size)
            have HXR := Lib.hid hx.2
            have HOR3 := Lib.hid hOR2
            have HO3 := Lib.hid hO2
            have HBE3 := Lib.hid hBE2
            have HSZ3 : Hid (w.heap.size + 2 ≤ (X w2).heap.size) := Lib.hid (by have := HSZ2.out; have := hx.1.size; omega)
            clear hOR2 hO2 hBE2 hx HOR2 HO2 HX HHP HGS
            go_wp2_with (at_builtin; refine wpList_copyTo _ _ 22 (w.heap.size + 1) 5 (.int .u8 0) 1 _ done.length (bytesV done) _ s.size _ _ rfl rfl rfl rfl Tryz.underlying22 Tryz.infoU8 rfl (fun j _ => rfl) (by decide) HO3.out HXR.out (by omega) (by have := HSZ3.out; omega) ?_)
            intro v5 w5 hown5 hg5 hb5
            have HO5 : Hid (w5.ownsRow (w.heap.size + 1) 5 1 v5 (done ++ l).length (bytesV (done ++ l))) := Lib.hid (by
              rw [HSS.out, range_bytes] at hown5
              rw [List.length_append]; unfold bytesV; rw [List.map_append]; exact hown5)
            have HOR5 : Hid (w5.ownsRow w.heap.size 5 1 (.slice (some ⟨w.heap.size, 0, none⟩) 0 cp) 0 []) := Lib.hid (own_mod HOR3.out (Mod.of_belowE hb5) (fun k hk => by
              have : k = w.heap.size := by simpa [Value.ownBlock] using hk.symm
              omega))
            have HB5 := Lib.hid (HBE3.out.trans (hb5.mono (by omega)))
            have HSZ5 : Hid (w.heap.size + 2 ≤ w5.heap.size) := Lib.hid (by have := HSZ3.out; have := hb5.size; omega)
            clear hown5 hg5 hb5 HO3 HOR3 HBE3 HBE2 HSZ2 HXR
            go_wp2_with fail
            go_roundw
            case rel => exact ⟨la, la, _, done ++ l, rfl, rfl, rfl, by go_num, hla, by omega, hZ5, Lib.hid (HAT3.out _ rfl), HO5, HOR5, HB5, HSZ5⟩
            case measure => simp [intOf]; omega
        | lat c =>
          obtain ⟨md, hto, rfl⟩ := hnx
          have hs5 := (latTo_bd hto).1
          have hc32 := (latTo_bd hto).2.1
          have hm6 := (latTo_bd hto).2.2
          have hd := (lat_dts hto).1
          have hcl := (lat_dts hto).2.1
          have hmlt := (lat_dts hto).2.2
          have h5 := tn_ne5 hs5
          have h3 := tn_3 hs5
          have HGC := Lib.hid (fun W => getChar sh c hs5 hcl W)
          rw [tbLen_wd sh hs5] at hcl
          have hwd : (en sh (.lat c)).length = wd sh := bitsOf_len _ _
          rw [hwd] at hl2 HAT2
          obtain ⟨s, hs⟩ : ∃ s, s = ctrl md 76 := ⟨_, rfl⟩
          have hss : s.size = 7 := by rw [hs]; rfl
          have hflg : (s.toList == [70, 76, 71, 40, 110, 41]) = false := by rw [hs]; exact ctrl_ne _ _
          have hi5 : ∀ W, (Instr.index 9 (.string s) (.int .i64 5)).run Tryz.prog W = .ok (.int .u8 (letter md : Nat)) W := fun W => by rw [hs]; exact idx5 md 76 hm6 (by decide) W
          have hi6 : ∀ W, (Instr.index 9 (.string s) (.int .i64 6)).run Tryz.prog W = .ok (.int .u8 76) W := fun W => by rw [hs]; exact idx6 md 76 hm6 (by decide) W
          have HHP : Hid (∀ W, Calls Tryz.prog 70 #[.string s, .string ⟨#[67, 84, 82, 76, 95]⟩] W fun e w' => e = .returned (.bool true) ∧ W = w') := Lib.hid (fun W => by rw [hs]; exact hasPrefix_ctrl md 76 hm6 W)
          have HGT := Lib.hid (fun W => getTable_ md hm6 W)
          obtain ⟨Z, hZ⟩ : ∃ Z, Z = wd sh := ⟨_, rfl⟩
          rw [← hZ] at hcl hl2
          have hZ5b : Z ≤ 5 := by rw [hZ]; unfold wd; split <;> omega
          have hrc := readCode L A n cq idx Z HN.out (by omega) (by omega) hnl wr (HR.out.below HBE.out)
          have hvb := vl_bits L idx c Z (bs' ++ tail) (by rw [← hlen, hZ]; rfl) hcl
          rw [hvb] at hrc
          have HRC := Lib.hid hrc
          have HGS : Hid (∀ W, Calls Tryz.prog 68 #[.int .i64 (tn sh : Nat), .int .i64 c] W fun e w' => e = .returned (.tuple #[.string s, .nilIface]) ∧ Below W.heap.size W w') := Lib.hid (fun W => (HGC.out W).mono (fun e w' h => by
            obtain ⟨h1, h2⟩ := h
            exact ⟨by rw [h1, hd, hs], h2⟩))
          have HAT3 : Hid (∀ j, j = idx + Z → At L all md md j done) := Lib.hid (fun j hj => by
            have := HAT2 j (by rw [hj, hZ])
            rw [show done ++ tx sh (.lat c) = done by show done ++ [] = done; simp] at this
            exact this)
          have hZ5 : idx + Z ≤ n := by omega
          clear hrc hvb HAT2 hdrop hdone hstop hlen hl2 hrun' hnl2 hd hs HGC hwd HA hss hcl hc32 hto
          have h45 : (sh = 4 ∧ Z = 4) ∨ (decide (sh = 4) = false ∧ Z = 5) := by
            by_cases h : sh = 4
            · exact .inl ⟨h, by rw [hZ, h]; rfl⟩
            · exact .inr ⟨by simpa using h, by rw [hZ]; unfold wd; rw [if_neg h]⟩
          have hTS : ∃ T : Nat, T = tn sh := ⟨_, rfl⟩
          obtain ⟨T, hT⟩ := hTS
          rw [← hT] at h5 h3 HGS ⊢
          have HT := Lib.hid hT
          clear hT hZ
          obtain ⟨ml, hml⟩ : ∃ ml, ml = letter md := ⟨_, rfl⟩
          rw [← hml] at hi5 HGT
          clear hml
          rcases h45 with ⟨h4, rfl⟩ | ⟨h4, rfl⟩
          all_goals
            simp only [h4, decide_true] at h3
            have H4 := Lib.hid h4
            clear h4
            go_wp2_with fail
            refine HRC.out.mono ?_
            rintro e w1 ⟨rfl, rfl⟩
            go_wp2_with fail
            refine (HGS.out _).mono ?_
            rintro e w2 ⟨rfl, hb2⟩
            have HOR2 := Lib.hid (own_below HOR.out hb2)
            have HO2 := Lib.hid (own_below HO.out hb2)
            have HBE2 := Lib.hid (HBE.out.trans (hb2.mono HBE.out.size))
            have HSZ2 : Hid (w.heap.size + 2 ≤ w2.heap.size) := Lib.hid (by have := HSZ.out; have := hb2.size; omega)
            clear hb2 HOR HO HBE HSZ
            go_wp2_with fail
            refine (HHP.out _).mono ?_
            rintro e w3 ⟨rfl, rfl⟩
            go_wp2_with fail
            refine (HGT.out _).mono ?_
            rintro e w3 ⟨rfl, rfl⟩
            go_wp2_with fail
            go_roundw
            case rel => exact ⟨md, md, _, done, rfl, rfl, rfl, by go_num, hmlt, hm6, hZ5, Lib.hid (HAT3.out _ rfl), HO2, HOR2, HBE2, HSZ2⟩
            case measure => simp [intOf]; omega
        | sh c =>
          obtain ⟨md, hto, rfl⟩ := hnx
          have hs5 := (shTo_bd hto).1
          have hc32 := (shTo_bd hto).2.1
          have hm6 := (shTo_bd hto).2.2
          have hd := (sh_dts hto).1
          have hcl := (sh_dts hto).2
          have h5 := tn_ne5 hs5
          have h3 := tn_3 hs5
          have HGC := Lib.hid (fun W => getChar sh c hs5 hcl W)
          rw [tbLen_wd sh hs5] at hcl
          have hwd : (en sh (.sh c)).length = wd sh := bitsOf_len _ _
          rw [hwd] at hl2 HAT2
          obtain ⟨s, hs⟩ : ∃ s, s = ctrl md 83 := ⟨_, rfl⟩
          have hss : s.size = 7 := by rw [hs]; rfl
          have hflg : (s.toList == [70, 76, 71, 40, 110, 41]) = false := by rw [hs]; exact ctrl_ne _ _
          have hi5 : ∀ W, (Instr.index 9 (.string s) (.int .i64 5)).run Tryz.prog W = .ok (.int .u8 (letter md : Nat)) W := fun W => by rw [hs]; exact idx5 md 83 hm6 (by decide) W
          have hi6 : ∀ W, (Instr.index 9 (.string s) (.int .i64 6)).run Tryz.prog W = .ok (.int .u8 83) W := fun W => by rw [hs]; exact idx6 md 83 hm6 (by decide) W
          have HHP : Hid (∀ W, Calls Tryz.prog 70 #[.string s, .string ⟨#[67, 84, 82, 76, 95]⟩] W fun e w' => e = .returned (.bool true) ∧ W = w') := Lib.hid (fun W => by rw [hs]; exact hasPrefix_ctrl md 83 hm6 W)
          have HGT := Lib.hid (fun W => getTable_ md hm6 W)
          obtain ⟨Z, hZ⟩ : ∃ Z, Z = wd sh := ⟨_, rfl⟩
          rw [← hZ] at hcl hl2
          have hZ5b : Z ≤ 5 := by rw [hZ]; unfold wd; split <;> omega
          have hrc := readCode L A n cq idx Z HN.out (by omega) (by omega) hnl wr (HR.out.below HBE.out)
          have hvb := vl_bits L idx c Z (bs' ++ tail) (by rw [← hlen, hZ]; rfl) hcl
          rw [hvb] at hrc
          have HRC := Lib.hid hrc
          have HGS : Hid (∀ W, Calls Tryz.prog 68 #[.int .i64 (tn sh : Nat), .int .i64 c] W fun e w' => e = .returned (.tuple #[.string s, .nilIface]) ∧ Below W.heap.size W w') := Lib.hid (fun W => (HGC.out W).mono (fun e w' h => by
            obtain ⟨h1, h2⟩ := h
            exact ⟨by rw [h1, hd, hs], h2⟩))
          have HAT3 : Hid (∀ j, j = idx + Z → At L all sh md j done) := Lib.hid (fun j hj => by
            have := HAT2 j (by rw [hj, hZ])
            rw [show done ++ tx sh (.sh c) = done by show done ++ [] = done; simp] at this
            exact this)
          have hZ5 : idx + Z ≤ n := by omega
          clear hrc hvb HAT2 hdrop hdone hstop hlen hl2 hrun' hnl2 hd hs HGC hwd HA hss hcl hc32 hto
          have h45 : (sh = 4 ∧ Z = 4) ∨ (decide (sh = 4) = false ∧ Z = 5) := by
            by_cases h : sh = 4
            · exact .inl ⟨h, by rw [hZ, h]; rfl⟩
            · exact .inr ⟨by simpa using h, by rw [hZ]; unfold wd; rw [if_neg h]⟩
          have hTS : ∃ T : Nat, T = tn sh := ⟨_, rfl⟩
          obtain ⟨T, hT⟩ := hTS
          rw [← hT] at h5 h3 HGS ⊢
          have HT := Lib.hid hT
          clear hT hZ
          obtain ⟨ml, hml⟩ : ∃ ml, ml = letter md := ⟨_, rfl⟩
          rw [← hml] at hi5 HGT
          clear hml
          rcases h45 with ⟨h4, rfl⟩ | ⟨h4, rfl⟩
          all_goals
            simp only [h4, decide_true] at h3
            have H4 := Lib.hid h4
            clear h4
            go_wp2_with fail
            refine HRC.out.mono ?_
            rintro e w1 ⟨rfl, rfl⟩
            go_wp2_with fail
            refine (HGS.out _).mono ?_
            rintro e w2 ⟨rfl, hb2⟩
            have HOR2 := Lib.hid (own_below HOR.out hb2)
            have HO2 := Lib.hid (own_below HO.out hb2)
            have HBE2 := Lib.hid (HBE.out.trans (hb2.mono HBE.out.size))
            have HSZ2 : Hid (w.heap.size + 2 ≤ w2.heap.size) := Lib.hid (by have := HSZ.out; have := hb2.size; omega)
            clear hb2 HOR HO HBE HSZ
            go_wp2_with fail
            refine (HHP.out _).mono ?_
            rintro e w3 ⟨rfl, rfl⟩
            go_wp2_with fail
            refine (HGT.out _).mono ?_
            rintro e w3 ⟨rfl, rfl⟩
            go_wp2_with fail
            go_roundw
            case rel => exact ⟨sh, md, _, done, rfl, by rw [HT.out], rfl, by go_num, hs5, hm6, hZ5, Lib.hid (HAT3.out _ rfl), HO2, HOR2, HBE2, HSZ2⟩
            case measure => simp [intOf]; omega
        | bytes b =>
          obtain ⟨rfl, ⟨hb0, hb2, hbx⟩, rfl⟩ := hnx
          have h5 : ((((tn 5 : Nat)) : Int) == 5) = true := rfl
          obtain ⟨T, hT⟩ : ∃ T : Nat, T = tn 5 := ⟨_, rfl⟩
          rw [← hT] at h5 ⊢
          obtain ⟨nb, hnb⟩ : ∃ nb, nb = b.length := ⟨_, rfl⟩
          obtain ⟨rest, hrest⟩ : ∃ rest, rest = bs' ++ tail := ⟨_, rfl⟩
          have hd0 : L.drop idx = hdr nb ++ (b.flatMap (bitsOf · 8) ++ rest) := by
            rw [← hlen, hrest, hnb]
            show (hdr b.length ++ b.flatMap (bitsOf · 8)) ++ (bs' ++ tail) = hdr b.length ++ (b.flatMap (bitsOf · 8) ++ (bs' ++ tail))
            rw [List.append_assoc]
          have hel : (en 5 (.bytes b)).length = (hdr nb).length + 8 * nb := by
            show (hdr b.length ++ b.flatMap (bitsOf · 8)).length = _
            rw [List.length_append, flat_size, hnb]
          have hdl : done.length + nb ≤ all.length := by rw [← hdone, List.length_append, List.length_append, hnb]; show _ ≤ done.length + (b.length + _); omega
          rw [hel] at hl2 HAT2
          rw [hdr_lenE] at hl2 HAT2
          have HAT3 : Hid (∀ j, j = idx + ((if nb < 32 then 5 else 16) + 8 * nb) → At L all la la j (done ++ b)) := Lib.hid HAT2
          have hw5 : Hid (∀ (k : Nat) (i : Nat), L.drop i = b.flatMap (bitsOf · 8) ++ rest → k < nb → vl L (i + 8 * k) 8 = nth b k) := Lib.hid (fun k i h hk => byte_at h (by omega) (by have := hbx _ (nth_mem (l := b) (k := k) (by omega)); omega))
          have HBX : Hid (∀ k, k < nb → nth b k < 128) := Lib.hid (fun k hk => hbx _ (nth_mem (by omega)))
          have HNB := Lib.hid hnb
          have hdl2 : done.length + nb < 1000000 := by have := HALL.out.1; omega
          have hnb2 : nb ≤ 2000 := by omega
          have hnb0 : 0 < nb := by omega
          have hlen2 : idx + ((if nb < 32 then 5 else 16) + 8 * nb) ≤ n := by omega
          clear hT hrest hel hdl HAT2 hdrop hdone hstop hlen hl2 hrun' hnl2 hbx hnb HA
          by_cases hn32 : nb < 32
          · obtain ⟨hv, hdr2⟩ := hdr_short hd0 hn32
            rw [if_pos hn32] at HAT3 hlen2
            have hge : (5 : Int) ≤ (n : Int) - (idx : Int) := by omega
            have hrc := readCode L A n cq idx 5 HN.out (by omega) (by omega) hnl wr (HR.out.below HBE.out)
            rw [hv] at hrc
            have HRC := Lib.hid hrc
            have hnz : ((nb : Int) == 0) = false := by simp; omega
            have HBY : Hid (∀ k, k < nb → ∀ W, Below w.heap.size w W → Calls Tryz.prog 63 #[.slice A n cq, .int .i64 (idx + 5 + 8 * k : Nat), .int .i64 (8 : Nat)] W fun e w' => e = .returned (.int .i64 (nth b k : Nat)) ∧ W = w') := Lib.hid (fun k hk W hW => by
              have := readCode L A n cq (idx + 5 + 8 * k) 8 HN.out (by omega) (by omega) hnl W (HR.out.below hW)
              rw [hw5.out k _ hdr2 hk] at this
              exact this)
            clear hrc hv hdr2 hd0
            go_wp2_with fail
            refine HRC.out.mono ?_
            rintro e w1 ⟨rfl, rfl⟩
            go_wp2_with fail
            obtain ⟨i2, hi2⟩ : ∃ i2, i2 = idx + 5 := ⟨_, rfl⟩
            rw [← hi2] at HBY
            have hi3 : (idx : Int) + 5 = (i2 : Int) := by omega
            have HI3 := Lib.hid hi3
            have hi2n : i2 + 8 * nb ≤ n := by omega
            have HAT4 : Hid (At L all la la (i2 + 8 * nb) (done ++ b)) := Lib.hid (HAT3.out _ (by omega))
            clear hi2 hi3 HAT3 hlen2
            go_loopw [10, 11, 13] (fun x i cc wx => ∃ k : Nat, k ≤ nb ∧ i = .int .i64 ((i2 + 8 * k : Nat) : Int) ∧ cc = .int .i64 k ∧ Hid (wx.ownsRow (w.heap.size + 1) 5 1 x (done ++ b.take k).length (bytesV (done ++ b.take k))) ∧ Hid (wx.ownsRow w.heap.size 5 1 (.slice (some ⟨w.heap.size, 0, none⟩) 0 cp) 0 []) ∧ Hid (Below w.heap.size w wx) ∧ Hid (w.heap.size + 2 ≤ wx.heap.size)) (fun _ _ cc _ => nb - (intOf cc).toNat)
            case atStart => exact ⟨0, Nat.zero_le _, by rw [HI3.out]; rfl, rfl, Lib.hid (by rw [List.take_zero, List.append_nil]; exact HO.out), HOR, HBE, HSZ⟩
            case round =>
              clear HO HOR HBE HSZ
              obtain ⟨k, hk, rfl, rfl, HO, HOR, HBE, HSZ⟩ := hrel
              obtain ⟨i4, hi4⟩ : ∃ i4, i4 = i2 + 8 * k := ⟨_, rfl⟩
              rw [← hi4]
              by_cases hltk : k < nb
              · have hk1 : (k : Int) < (nb : Int) := by omega
                have hge8 : (8 : Int) ≤ (n : Int) - (i4 : Int) := by omega
                have hby := HBY.out k hltk _ HBE.out
                rw [← hi4] at hby
                have HBYK := Lib.hid hby
                have hx128 := HBX.out k hltk
                obtain ⟨xb, hxb⟩ : ∃ xb, xb = nth b k := ⟨_, rfl⟩
                rw [← hxb] at HBYK hx128
                have hxw : IntKind.u8.wrap (xb : Int) = (xb : Int) := by rw [IntKind.wrap_u8]; omega
                have HXB := Lib.hid hxb
                have HI4 := Lib.hid hi4
                have hdk : (done ++ b.take k).length < 1000000 := by rw [List.length_append, List.length_take]; omega
                clear hby hxb hi4
                go_wp2_with fail
                refine HBYK.out.mono ?_
                rintro e w1 ⟨rfl, rfl⟩
                go_wp2_with (at_builtin; refine wpList_push _ _ 22 (w.heap.size + 1) 5 (.int .u8 0) 1 _ (done ++ b.take k).length _ (.int .u8 (xb : Nat)) rfl rfl rfl rfl Tryz.underlying22 Tryz.infoU8 rfl rfl (by decide) HO.out (by omega) (by have := HSZ.out; omega) ?_)
                intro v5 w5 hown5 hg5 hb5
                have HO5 : Hid (w5.ownsRow (w.heap.size + 1) 5 1 v5 (done ++ b.take (k + 1)).length (bytesV (done ++ b.take (k + 1)))) := Lib.hid (by
                  have hkb : k < b.length := by have := HNB.out; omega
                  have e1 : (done ++ b.take (k + 1)).length = done.length + min k b.length + 1 := by rw [List.length_append, List.length_take]; omega
                  have e2 : bytesV (done ++ b.take (k + 1)) = bytesV (done ++ b.take k) ++ [Value.int .u8 (xb : Nat)] := by
                    rw [take_nth hkb, ← HXB.out, ← List.append_assoc]
                    unfold bytesV; rw [List.map_append]; rfl
                  rw [e1, e2]; exact hown5)
                have HOR5 : Hid (w5.ownsRow w.heap.size 5 1 (.slice (some ⟨w.heap.size, 0, none⟩) 0 cp) 0 []) := Lib.hid (own_mod HOR.out (Mod.of_belowE hb5) (fun k hk => by
                  have : k = w.heap.size := by simpa [Value.ownBlock] using hk.symm
                  omega))
                have HB5 := Lib.hid (HBE.out.trans (hb5.mono (by omega)))
                have HSZ5 : Hid (w.heap.size + 2 ≤ w5.heap.size) := Lib.hid (by have := HSZ.out; have := hb5.size; omega)
                clear hown5 hg5 hb5 HO HOR HBE HSZ HBYK
                go_wp2_with fail
                go_roundw
                case rel => exact ⟨k + 1, by omega, by have := HI4.out; rw [show i2 + 8 * (k + 1) = i4 + 8 by omega]; go_num, by go_num, HO5, HOR5, HB5, HSZ5⟩
                case measure => simp [intOf]; omega
              · obtain rfl : k = nb := by omega
                have hkk : ((k : Int) < (k : Int)) = False := by simp
                have htk : b.take k = b := by rw [HNB.out, List.take_length]
                rw [htk] at HO
                rw [← hi4] at HAT4
                have hi4n : i4 ≤ n := by omega
                have hi4g : idx < i4 := by have := HI3.out; omega
                clear htk hi4
                go_wp2_with fail
                go_roundw
                case rel => exact ⟨la, la, i4, done ++ b, rfl, rfl, rfl, rfl, hla, by omega, by omega, HAT4, HO, HOR, HBE, HSZ⟩
                case measure => simp [intOf]; omega
          · obtain ⟨hv, hv2, hdr2⟩ := hdr_long hd0 hn32 hnb2
            rw [if_neg hn32] at HAT3 hlen2
            have hge : (5 : Int) ≤ (n : Int) - (idx : Int) := by omega
            have hge11 : (11 : Int) ≤ (n : Int) - ((idx : Int) + 5) := by omega
            have hrc := readCode L A n cq idx 5 HN.out (by omega) (by omega) hnl wr (HR.out.below HBE.out)
            rw [hv] at hrc
            have HRC := Lib.hid hrc
            have hrc2 := readCode L A n cq (idx + 5) 11 HN.out (by omega) (by omega) hnl wr (HR.out.below HBE.out)
            rw [hv2] at hrc2
            have HRC2 := Lib.hid hrc2
            obtain ⟨nc, hnc⟩ : ∃ nc, nc = nb - 31 := ⟨_, rfl⟩
            rw [← hnc] at HRC2
            have hnc1 : (nc : Int) + 31 = (nb : Int) := by omega
            have HBY : Hid (∀ k, k < nb → ∀ W, Below w.heap.size w W → Calls Tryz.prog 63 #[.slice A n cq, .int .i64 (idx + 16 + 8 * k : Nat), .int .i64 (8 : Nat)] W fun e w' => e = .returned (.int .i64 (nth b k : Nat)) ∧ W = w') := Lib.hid (fun k hk W hW => by
              have := readCode L A n cq (idx + 16 + 8 * k) 8 HN.out (by omega) (by omega) hnl W (HR.out.below hW)
              rw [hw5.out k _ hdr2 hk] at this
              exact this)
            clear hrc hrc2 hv hv2 hdr2 hd0 hnc
            go_wp2_with fail
            refine HRC.out.mono ?_
            rintro e w1 ⟨rfl, rfl⟩
            go_wp2_with fail
            refine HRC2.out.mono ?_
            rintro e w1 ⟨rfl, rfl⟩
            go_wp2_with fail
            obtain ⟨i2, hi2⟩ : ∃ i2, i2 = idx + 16 := ⟨_, rfl⟩
            rw [← hi2] at HBY
            have hi3 : (idx : Int) + 5 + 11 = (i2 : Int) := by omega
            have HI3 := Lib.hid hi3
            have hi2n : i2 + 8 * nb ≤ n := by omega
            have HAT4 : Hid (At L all la la (i2 + 8 * nb) (done ++ b)) := Lib.hid (HAT3.out _ (by omega))
            clear hi2 hi3 HAT3 hlen2
            go_loopw [10, 11, 13] (fun x i cc wx => ∃ k : Nat, k ≤ nb ∧ i = .int .i64 ((i2 + 8 * k : Nat) : Int) ∧ cc = .int .i64 k ∧ Hid (wx.ownsRow (w.heap.size + 1) 5 1 x (done ++ b.take k).length (bytesV (done ++ b.take k))) ∧ Hid (wx.ownsRow w.heap.size 5 1 (.slice (some ⟨w.heap.size, 0, none⟩) 0 cp) 0 []) ∧ Hid (Below w.heap.size w wx) ∧ Hid (w.heap.size + 2 ≤ wx.heap.size)) (fun _ _ cc _ => nb - (intOf cc).toNat)
            case atStart => exact ⟨0, Nat.zero_le _, by rw [HI3.out]; rfl, rfl, Lib.hid (by rw [List.take_zero, List.append_nil]; exact HO.out), HOR, HBE, HSZ⟩
            case round =>
              clear HO HOR HBE HSZ
              obtain ⟨k, hk, rfl, rfl, HO, HOR, HBE, HSZ⟩ := hrel
              obtain ⟨i4, hi4⟩ : ∃ i4, i4 = i2 + 8 * k := ⟨_, rfl⟩
              rw [← hi4]
              by_cases hltk : k < nb
              · have hk1 : (k : Int) < (nb : Int) := by omega
                have hge8 : (8 : Int) ≤ (n : Int) - (i4 : Int) := by omega
                have hby := HBY.out k hltk _ HBE.out
                rw [← hi4] at hby
                have HBYK := Lib.hid hby
                have hx128 := HBX.out k hltk
                obtain ⟨xb, hxb⟩ : ∃ xb, xb = nth b k := ⟨_, rfl⟩
                rw [← hxb] at HBYK hx128
                have hxw : IntKind.u8.wrap (xb : Int) = (xb : Int) := by rw [IntKind.wrap_u8]; omega
                have HXB := Lib.hid hxb
                have HI4 := Lib.hid hi4
                have hdk : (done ++ b.take k).length < 1000000 := by rw [List.length_append, List.length_take]; omega
                clear hby hxb hi4
                go_wp2_with fail
                refine HBYK.out.mono ?_
                rintro e w1 ⟨rfl, rfl⟩
                go_wp2_with (at_builtin; refine wpList_push _ _ 22 (w.heap.size + 1) 5 (.int .u8 0) 1 _ (done ++ b.take k).length _ (.int .u8 (xb : Nat)) rfl rfl rfl rfl Tryz.underlying22 Tryz.infoU8 rfl rfl (by decide) HO.out (by omega) (by have := HSZ.out; omega) ?_)
                intro v5 w5 hown5 hg5 hb5
                have HO5 : Hid (w5.ownsRow (w.heap.size + 1) 5 1 v5 (done ++ b.take (k + 1)).length (bytesV (done ++ b.take (k + 1)))) := Lib.hid (by
                  have hkb : k < b.length := by have := HNB.out; omega
                  have e1 : (done ++ b.take (k + 1)).length = done.length + min k b.length + 1 := by rw [List.length_append, List.length_take]; omega
                  have e2 : bytesV (done ++ b.take (k + 1)) = bytesV (done ++ b.take k) ++ [Value.int .u8 (xb : Nat)] := by
                    rw [take_nth hkb, ← HXB.out, ← List.append_assoc]
                    unfold bytesV; rw [List.map_append]; rfl
                  rw [e1, e2]; exact hown5)
                have HOR5 : Hid (w5.ownsRow w.heap.size 5 1 (.slice (some ⟨w.heap.size, 0, none⟩) 0 cp) 0 []) := Lib.hid (own_mod HOR.out (Mod.of_belowE hb5) (fun k hk => by
                  have : k = w.heap.size := by simpa [Value.ownBlock] using hk.symm
                  omega))
                have HB5 := Lib.hid (HBE.out.trans (hb5.mono (by omega)))
                have HSZ5 : Hid (w.heap.size + 2 ≤ w5.heap.size) := Lib.hid (by have := HSZ.out; have := hb5.size; omega)
                clear hown5 hg5 hb5 HO HOR HBE HSZ HBYK
                go_wp2_with fail
                go_roundw
                case rel => exact ⟨k + 1, by omega, by have := HI4.out; rw [show i2 + 8 * (k + 1) = i4 + 8 by omega]; go_num, by go_num, HO5, HOR5, HB5, HSZ5⟩
                case measure => simp [intOf]; omega
              · obtain rfl : k = nb := by omega
                have hkk : ((k : Int) < (k : Int)) = False := by simp
                have htk : b.take k = b := by rw [HNB.out, List.take_length]
                rw [htk] at HO
                rw [← hi4] at HAT4
                have hi4n : i4 ≤ n := by omega
                have hi4g : idx < i4 := by have := HI3.out; omega
                clear htk hi4
                go_wp2_with fail
                go_roundw
                case rel => exact ⟨la, la, i4, done ++ b, rfl, rfl, rfl, rfl, hla, by omega, by omega, HAT4, HO, HOR, HBE, HSZ⟩
                case measure => simp [intOf]; omega
    · obtain rfl : idx = n := by omega
      have hfin0 : done = all := by
        obtain ⟨ms, bs, ts, fa, fs, tail, hrun, hdrop, hstop, hdone, _⟩ := HA.out
        have h0 : L.drop idx = [] := List.drop_eq_nil_of_le (by have := HN.out; omega)
        rw [h0] at hdrop
        have h1 : bs = [] := by
          cases bs with
          | nil => rfl
          | cons b bs => cases hdrop
        have h2 : ts = [] := by
          cases hrun with
          | nil => rfl
          | @cons _ _ m _ _ _ _ _ hn _ =>
            exfalso
            have hl := congrArg List.length h1
            have := en_pos hn
            simp only [List.length_append, List.length_nil] at hl
            omega
        rw [h2, List.append_nil] at hdone; exact hdone
      clear HA
      have hlt1 : ((idx : Int) < (idx : Int)) = False := by simp
      have hfin : all = done := hfin0.symm
      subst hfin
      obtain ⟨Ad, cd, rfl, hcd, _, hrd⟩ := Rd.of_own HO.out
      have HRD : Hid (Rd wr Ad all.length (fun j => .int .u8 (nth all j : Nat))) := Lib.hid (hrd.congr fun j hj => by unfold bytesV; rw [List.getD_eq_getElem?_getD, List.getElem?_map, List.getElem?_eq_getElem hj, nth_eq hj]; rfl)
      clear hrd
      go_wp2_with (at_builtin; refine wpList_copyTo _ _ 22 w.heap.size 5 (.int .u8 0) 1 _ 0 [] _ all.length _ _ rfl rfl rfl rfl Tryz.underlying22 Tryz.infoU8 rfl (fun j _ => rfl) (by decide) HOR.out HRD.out (by have := HALL.out.1; omega) HBE.out.size ?_)
      intro v9 w9 hown9 hg9 hb9
      obtain ⟨A9, c9, rfl, hcv⟩ := conv_own (w := w9) (n := all.length) (l := all) (by rw [← range_bytes]; exact hown9) (fun x hx => by have := HALL.out.2 x hx; omega)
      have HB9 := Lib.hid (HBE.out.trans hb9)
      clear hown9 hg9 hb9
      go_wp2_with fail
      go_ret2
      exact ⟨rfl, HB9.out⟩
end Go.Proofs.YtiielblnmfeapaaGreatDoor
