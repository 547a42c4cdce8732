/-
  FnDMWords: the law walked. No condition beyond the bounds that each theorem states.
-/
import Derived.Test.YtcadknfcahmdcaaGreatDXW
namespace Go.Proofs.YtcadknfcahmdcaaGreat
open Go.RowKit Go.Qz Go.Qz.DF
open Go.Qz.DV hiding val run part
set_option linter.unusedVariables false

set_option maxRecDepth 100000 in
theorem dmSayS (T : List Nat) (K : Nat) (v : Value) (w : World) (h : ∀ W, Below w.heap.size w W → Calls Tryz.prog 20 #[v] W (SayPost T K W)) : Calls Tryz.prog 9 #[v] w fun e w' => ∃ s : ByteArray, e = .returned (.tuple #[.string s, .bool true]) ∧ Hid (sb s = T) ∧ Below w.heap.size w w' := by
  have H := Lib.hid (h w (Below.refl _ _))
  clear h
  go_enter Tryz.func9, Tryz.ntmps9
  go_wp2_with fail
  refine H.out.mono ?_
  rintro e w1 ⟨s, rfl, hs, hb⟩
  have HB := Lib.hid hb
  clear hb H
  go_wp2_with fail
  exact bodyPost_ret (v := .tuple #[.string s, .bool true]) (by simp [results, Tryz.results9, go_sem]) rfl ⟨s, rfl, hs, HB.out⟩
set_option maxRecDepth 100000 in
theorem dmEndS (T : List Nat) (K : Nat) (v : Value) (w : World) (h : Calls Tryz.prog 20 #[v] w (SayPost T K w)) : Calls Tryz.prog 12 #[v] w fun e w' => e = .returned (.int .i64 K) ∧ Below w.heap.size w w' := by
  have H := Lib.hid h
  clear h
  go_enter Tryz.func12, Tryz.ntmps12
  go_wp2_with fail
  refine H.out.mono ?_
  rintro e w1 ⟨s, rfl, hs, hb⟩
  have HB := Lib.hid hb
  clear hb H
  go_wp2_with fail
  go_ret
  exact ⟨rfl, HB.out⟩
theorem size_all : ((List.range 3).all fun sh => (caps sh).all fun c => decide (3 ≤ c) && ((List.range 30).any fun t => decide ((sz t).dt = c) && fitsB sh (sz t))) = true := by decide +kernel
theorem size_of {sh n : Nat} (hsh : sh ≤ 2) (hn : n ∈ caps sh) : 3 ≤ n ∧ ∃ t, t < 30 ∧ (sz t).dt = n ∧ fitsB sh (sz t) = true := by
  have h := List.all_eq_true.1 (List.all_eq_true.1 size_all sh (List.mem_range.2 (by omega))) n hn
  simp only [Bool.and_eq_true, decide_eq_true_eq, List.any_eq_true, List.mem_range] at h
  exact ⟨h.1, h.2⟩
theorem fits_like {sh : Nat} {s t : DS} (h : ((s.rows : Int) == (s.cols : Int)) = ((t.rows : Int) == (t.cols : Int))) : fitsB sh s = fitsB sh t := by unfold fitsB; rw [h]
/-- A size of the words' number fits the shape. -/
theorem size_ok {sh n : Nat} (hsh : sh ≤ 2) (hn : n ∈ caps sh) {s1 s2 : DS} {r1 r2 : Bool} (h1 : r1 = true → ∃ t, t < 30 ∧ s1 = sz t ∧ s1.dt = n ∧ ((s1.rows : Int) == (s1.cols : Int)) = !false) (g1 : r1 = false → NoSz n false 30)
    (h2 : r2 = true → ∃ t, t < 30 ∧ s2 = sz t ∧ s2.dt = n ∧ ((s2.rows : Int) == (s2.cols : Int)) = !true) (g2 : r2 = false → NoSz n true 30) : (r1 = true ∧ fitsB sh s1 = true) ∨ (r2 = true ∧ fitsB sh s2 = true) := by
  obtain ⟨_, t, ht, hd, hf⟩ := size_of hsh hn
  cases hsq : ((sz t).rows : Int) == ((sz t).cols : Int)
  · right
    cases r2
    · exact absurd ⟨hd, hsq⟩ (g2 rfl t ht)
    · obtain ⟨_, _, _, _, e⟩ := h2 rfl
      refine ⟨rfl, ?_⟩
      rw [fits_like (t := sz t) (by rw [e, hsq]; rfl)]; exact hf
  · left
    cases r1
    · exact absurd ⟨hd, hsq⟩ (g1 rfl t ht)
    · obtain ⟨_, _, _, _, e⟩ := h1 rfl
      refine ⟨rfl, ?_⟩
      rw [fits_like (t := sz t) (by rw [e, hsq]; rfl)]; exact hf
/-- A text is its header, its own part, its trailer. -/
theorem mac_text {l mac : List Nat} {p0 T : Nat} (h : MacOf l mac p0 T) : ∃ HD TR, ((mac = [] ∧ HD = [] ∧ TR = []) ∨ ∃ d, (d = 53 ∨ d = 54) ∧ mac = [183 + d] ∧ HD = hdr d ∧ TR = [30, 4]) ∧ HD ++ DV.part l p0 T ++ TR = l := by
  have key : ∀ d, (d = 53 ∨ d = 54) → T + 2 = l.length → IsMac l d → hdr d ++ DV.part l 7 T ++ [30, 4] = l := fun d hd e hm => by
    have h9 := hm.nine hd
    obtain ⟨h1, h2, h3⟩ := hm
    rw [show l.length - 2 = T by omega] at h3
    rw [← h1, ← h3]
    unfold DV.part
    have e1 : l.take 7 = (l.take T).take 7 := by rw [List.take_take, Nat.min_eq_left (by omega)]
    rw [e1, List.take_append_drop, List.take_append_drop]
  rcases h with ⟨rfl, rfl, rfl, _⟩ | ⟨rfl, rfl, h, hm⟩ | ⟨rfl, rfl, h, _, hm⟩
  · exact ⟨[], [], .inl ⟨rfl, rfl, rfl⟩, by unfold DV.part; simp⟩
  · exact ⟨hdr 53, [30, 4], .inr ⟨53, .inl rfl, rfl, rfl, rfl⟩, key 53 (.inl rfl) h hm⟩
  · exact ⟨hdr 54, [30, 4], .inr ⟨54, .inr rfl, rfl, rfl, rfl⟩, key 54 (.inr rfl) h hm⟩
/-- What the words are, in plain words. -/
theorem words_plain {s : ByteArray} {sh : Nat} (hsh : sh ≤ 2) (h : Held s sh) {mac ws : List Nat} {p0 T n : Nat} (hm : MacOf (sb s) mac p0 T) (hA : MainA sh T p0 (sb s) mac ws T) (hn : n = (ws ++ pads ws.length (capFor sh ws.length)).length) :
    n = capFor sh ws.length ∧ n ∈ caps sh ∧ ws.length ≤ n ∧ n ≤ 1558 ∧ ∃ v HD TR, ws = mac ++ v ∧ Say (v ++ pads ws.length n) (DV.part (sb s) p0 T) v.length ∧ ((mac = [] ∧ HD = [] ∧ TR = []) ∨ ∃ d, (d = 53 ∨ d = 54) ∧ mac = [183 + d] ∧ HD = hdr d ∧ TR = [30, 4]) ∧ HD ++ DV.part (sb s) p0 T ++ TR = sb s ∧ (∀ x ∈ DV.part (sb s) p0 T, x < 128) ∧ (DV.part (sb s) p0 T).length ≤ 80000 := by
  have hT : T ≤ (sb s).length := by rcases hm with ⟨_, _, h, _⟩ | ⟨_, _, h, _⟩ | ⟨_, _, h, _⟩ <;> omega
  have hTs : T ≤ s.size := by rw [← sb_len]; exact hT
  have h1 := hA.2.2.2
  have h2 := h.room
  have hc : capMost sh ≤ 1304 := by unfold capMost; split <;> omega
  have h3 := cap_le_most sh
  have h4 : ws.length ≤ mostOf sh := by split at h1 <;> omega
  have h5 := capFor_le hsh h4
  have h6 := capFor_mem hsh h4
  have h7 : mostOf sh ≤ 1558 := by unfold mostOf; split <;> omega
  have hne : n = capFor sh ws.length := by rw [hn, List.length_append, pads_len h6.2]; omega
  obtain ⟨v, hv, hs⟩ := hA.1.end hsh h4
  obtain ⟨HD, TR, g1, g2⟩ := mac_text hm
  refine ⟨hne, by rw [hne]; exact h6.1, by rw [hne]; exact h6.2, by omega, v, HD, TR, hv, by rw [hne]; exact hs, g1, g2, part_mem fun i _ _ hi => h.plain i (by rw [← sb_len]; exact hi), ?_⟩
  rw [part_len hT]; omega
set_option maxRecDepth 100000 in
set_option maxHeartbeats 12800000 in
theorem fnDMWords (w : World) (s : ByteArray) (hs : s.size ≤ maxLen) (x : Int) (hx : (Lit.int .i64 x).wf = true) :
    Calls Tryz.prog 3 #[.string s, .int .i64 x] w fun e w' => e = .returned (.bool true) ∧ Below w.heap.size w w' := by
  clear hx hs
  by_cases hbig : (2147483647 : Int) < (s.size : Int)
  · go_enter Tryz.func3, Tryz.ntmps3
    go_wp2_with fail
    go_ret
    exact ⟨rfl, Below.refl _ _⟩
  · have hb2 : ((2147483647 : Int) < (s.size : Int)) = False := by simpa using hbig
    have hsz : s.size ≤ 2147483647 := by omega
    have HSH := Lib.hid (dmShape x w)
    by_cases hsh : 0 ≤ x ∧ x ≤ 2
    · obtain ⟨sh, rfl⟩ : ∃ sh : Nat, x = sh := ⟨x.toNat, by omega⟩
      have hsh2 : sh ≤ 2 := by omega
      rw [decide_eq_true hsh] at HSH
      have HHE := Lib.hid (dmHeld s hsz sh hsh2 w)
      have HW0 := Lib.hid (fun hH W => dmWords s sh hsh2 hH W)
      have HS2 := Lib.hid hsh2
      clear hbig hsz hsh
      go_enter Tryz.func3, Tryz.ntmps3
      go_wp2_with fail
      refine HSH.out.mono ?_
      rintro e w' ⟨rfl, rfl⟩
      go_wp2_with fail
      refine HHE.out.mono ?_
      rintro e w1 ⟨r, rfl, hr, hb1⟩
      have HR := Lib.hid hr
      have HB1 := Lib.hid hb1
      clear hr hb1 HSH HHE
      cases r
      · go_wp2_with fail
        go_ret
        exact ⟨rfl, HB1.out⟩
      · have HH : Hid (Held s sh) := Lib.hid (HR.out (by simp))
        have HWD := Lib.hid (HW0.out HH.out w1)
        clear HR HW0
        go_wp2_with fail
        refine HWD.out.mono ?_
        rintro e w2 ⟨A, c, mac, ws, p0, T, n, rfl, hn, hnc, hcm, HRD, HB2, HM, HA⟩
        have hpl := words_plain HS2.out HH.out HM.out HA.out hn
        obtain ⟨L, hL⟩ : ∃ L, L = ws ++ pads ws.length (capFor sh ws.length) := ⟨_, rfl⟩
        rw [← hL] at HRD hn
        obtain ⟨hne, hmem, hwn, hnb, v, HD, TR, hv, hsay, hmac, htxt, ho8, hol⟩ := hpl
        have HBB : Hid (Below w.heap.size w w2) := Lib.hid (HB1.out.trans (HB2.out.mono HB1.out.size))
        have hn3 := (size_of HS2.out hmem).1
        have HRAll := Lib.hid (fun W (hW : Rd W A n (fun j => .int .u8 (nth L j : Nat))) => rAll n L mac (v ++ pads ws.length n) HD TR (DV.part (sb s) p0 T) v.length hn (by omega) (by omega) (by rw [hL, hne, hv, List.append_assoc]) hmac hsay ho8 hol A c W hW)
        rw [htxt, show mac.length + v.length = ws.length by rw [hv, List.length_append]] at HRAll
        have HSO1 := Lib.hid (dmSizeOf n (by omega) false w2)
        obtain ⟨m, hm⟩ : ∃ m, m = ws.length := ⟨_, rfl⟩
        have HLE : Hid (L = ws ++ pads m n ∧ m = ws.length ∧ n = L.length) := Lib.hid ⟨by rw [hL, hm, hne], hm, hn⟩
        rw [← hm] at HRAll hwn
        have HMEM := Lib.hid hmem
        have hcb : c ≤ 9223372036854775807 := by unfold maxLen at hcm; omega
        clear hne hmem hv hsay hmac htxt ho8 hol hL hn hm HB1 HB2 HWD HM HA hcm
        go_wp2_with fail
        refine HSO1.out.mono ?_
        rintro en w3 ⟨s1, r1, rfl, hs1, hs1', hb3⟩
        have HSA := Lib.hid hs1
        have HSB := Lib.hid hs1'
        have hA1 := Arr.new w3 28 (dcells s1)
        have hbN := hb3.alloc hb3.size (.cells (dcells s1).toArray 28)
        obtain ⟨W4, hW4⟩ : ∃ W, W = w3.alloc (.cells (dcells s1).toArray 28) := ⟨_, rfl⟩
        rw [← hW4] at hA1 hbN
        unfold dcells at hW4
        have HW4 := Lib.hid hW4
        obtain ⟨E1, hE1⟩ : ∃ E, E = w3.heap.size := ⟨_, rfl⟩
        rw [← hE1] at hA1
        have HE1 := Lib.hid hE1
        have HA1 := Lib.hid hA1
        have HB4 : Hid (Below w.heap.size w W4) := Lib.hid (HBB.out.trans (hbN.mono HBB.out.size))
        have HRD4 := Lib.hid (HRD.out.below hbN)
        have HSO2 := Lib.hid (dmSizeOf n (by omega) true W4)
        unfold dsv
        clear hs1 hs1' hA1 hbN hW4 hE1 hb3 HSO1 HRD HBB
        go_upto_region 9 with (fail)
        rw [← HW4.out, ← HE1.out]
        clear HW4 HE1
        go_wp2_with fail
        refine HSO2.out.mono ?_
        rintro en w5 ⟨s2, r2, rfl, hs2, hs2', hb5⟩
        have HOK : Hid ((r1 = true ∧ fitsB sh s1 = true) ∨ (r2 = true ∧ fitsB sh s2 = true)) := Lib.hid (size_ok HS2.out HMEM.out HSA.out HSB.out hs2 hs2')
        have hA2 := Arr.new w5 28 (dcells s2)
        have hbN := hb5.alloc hb5.size (.cells (dcells s2).toArray 28)
        obtain ⟨W6, hW6⟩ : ∃ W, W = w5.alloc (.cells (dcells s2).toArray 28) := ⟨_, rfl⟩
        rw [← hW6] at hA2 hbN
        unfold dcells at hW6
        have HW6 := Lib.hid hW6
        obtain ⟨E2, hE2⟩ : ∃ E, E = w5.heap.size := ⟨_, rfl⟩
        rw [← hE2] at hA2
        have HE2 := Lib.hid hE2
        have HA2 := Lib.hid hA2
        have HA1' := Lib.hid (HA1.out.below hbN HA1.out.lt)
        have HB6 : Hid (Below w.heap.size w W6) := Lib.hid (HB4.out.trans (hbN.mono HB4.out.size))
        have HRD6 := Lib.hid (HRD4.out.below hbN)
        unfold dsv
        clear hs2 hs2' hA2 hbN hW6 hE2 hb5 HSO2 HRD4 HB4 HA1 HSA HSB HMEM
        go_upto_region 10 with (fail)
        rw [← HW6.out, ← HE2.out]
        clear HW6 HE2
        obtain ⟨b1, hb1⟩ : ∃ b, b = fitsB sh s1 := ⟨_, rfl⟩
        obtain ⟨b2, hb2'⟩ : ∃ b, b = fitsB sh s2 := ⟨_, rfl⟩
        have HF1 := Lib.hid (fun W => dmFits s1 sh HS2.out W)
        have HF2 := Lib.hid (fun W => dmFits s2 sh HS2.out W)
        rw [← hb1] at HF1 HOK
        rw [← hb2'] at HF2 HOK
        unfold dsv at HF1 HF2
        clear hb1 hb2'
        go_cut [59] from 44 to 59 (fun b wx => b = .bool false ∧ Hid (Below W6.heap.size W6 wx))
        case first =>
          obtain ⟨d0, d1, d2, d3, d4, d5, d6⟩ := dcellsOf HA1'.out
          obtain ⟨f0, f1, f2, f3, f4, f5, f6⟩ := dcellsOf HA2.out
          clear HRAll HRD6
          cases r1
          · skip
            have HS2c : Hid (r2 = true ∧ b2 = true) := Lib.hid (by have := HOK.out; simpa using this)
            obtain ⟨e1, e2⟩ := HS2c.out
            clear HS2c HOK
            subst e1 e2
            go_wp2_with fail
            refine (HF2.out W6).mono ?_
            rintro e w9 ⟨rfl, hb9⟩
            have HB9 : Hid (Below W6.heap.size W6 w9) := Lib.hid (hb9)
            clear hb9
            go_wp2_with fail
            go_meet
            case rel => exact ⟨rfl, HB9⟩
          · go_wp2_with fail
            refine (HF1.out W6).mono ?_
            rintro e w7 ⟨rfl, hb7⟩
            have HB7 := Lib.hid hb7
            have HA27 := Lib.hid (HA2.out.below hb7 HA2.out.lt)
            clear hb7 f0 f1 f2 f3 f4 f5 f6 d0 d1 d2 d3 d4 d5 d6
            cases b1
            · obtain ⟨f0, f1, f2, f3, f4, f5, f6⟩ := dcellsOf HA27.out
              have HS2c : Hid (r2 = true ∧ b2 = true) := Lib.hid (by have := HOK.out; simpa using this)
              obtain ⟨e1, e2⟩ := HS2c.out
              clear HS2c HOK
              subst e1 e2
              go_wp2_with fail
              refine (HF2.out w7).mono ?_
              rintro e w9 ⟨rfl, hb9⟩
              have HB9 : Hid (Below W6.heap.size W6 w9) := Lib.hid (HB7.out.trans (hb9.mono HB7.out.size))
              clear hb9
              go_wp2_with fail
              go_meet
              case rel => exact ⟨rfl, HB9⟩
            · go_wp2_with fail
              go_meet
              case rel => exact ⟨rfl, HB7⟩
        case rest =>
          obtain ⟨rfl, HBX⟩ := hcut
          obtain ⟨w7, hw7⟩ : ∃ wz, wz = wc := ⟨_, rfl⟩
          rw [← hw7] at HBX ⊢
          have HRD7 := Lib.hid (HRD6.out.below HBX.out)
          have HB7 : Hid (Below w.heap.size w w7) := Lib.hid (HB6.out.trans (HBX.out.mono HB6.out.size))
          have HSAY := Lib.hid (dmSayS (sb s) m (.slice A n c) w7 (fun W hb => HRAll.out W (HRD7.out.below hb)))
          clear hw7 HBX HRD6 HB6 HF1 HF2 HOK HA1' HA2
          go_wp2_with fail
          refine HSAY.out.mono ?_
          rintro e w8 ⟨said, rfl, hsaid, hb8⟩
          have hse : said = s := sb_inj hsaid.out
          subst hse
          have HRD8 := Lib.hid (HRD7.out.below hb8)
          have HB8 : Hid (Below w.heap.size w w8) := Lib.hid (HB7.out.trans (hb8.mono HB7.out.size))
          have HEND := Lib.hid (dmEndS (sb said) m (.slice A n c) w8 (HRAll.out w8 HRD8.out))
          clear hsaid hb8 HSAY HRD7 HB7 HRAll
          go_wp2_with fail
          refine HEND.out.mono ?_
          rintro e w9 ⟨rfl, hb9⟩
          have HRD9 := Lib.hid (HRD8.out.below hb9)
          have HB9 : Hid (Below w.heap.size w w9) := Lib.hid (HB8.out.trans (hb9.mono HB8.out.size))
          have HPD := Lib.hid (fun c' => padded ws m c' n HLE.out.2.1 hwn (by omega) A w9 (fun h0 => by
            obtain ⟨b, off, e1, hb, hc⟩ := HRD9.out (by omega)
            refine ⟨b, off, e1, hb, fun j hj => ?_⟩
            rw [hc j (by omega), HLE.out.1]
            have hj2 : j < ws.length := by have := HLE.out.2.1; omega
            have e9 : nth (ws ++ pads m n) j = nth ws j := by
              unfold nth
              rw [List.getD_eq_getElem?_getD, List.getD_eq_getElem?_getD, List.getElem?_append_left hj2]
            show some (Value.int .u8 (nth (ws ++ pads m n) j : Nat)) = some (Value.int .u8 (nth ws j : Nat))
            rw [e9]))
          obtain ⟨b0, off0, hA0, _, _⟩ := HRD9.out (by omega)
          subst hA0
          have hmi : (0 : Int) ≤ (m : Int) := by omega
          have hmc : m ≤ c := by omega
          have hmci : (m : Int) ≤ (c : Int) := by omega
          clear hb9 HEND HRD8 HB8
          go_wp2_with fail
          refine (HPD.out _).mono ?_
          rintro e w10 ⟨A2, c2, rfl, ho10, hb10⟩
          have HRD10 := Lib.hid (HRD9.out.below hb10)
          have HB10 : Hid (Below w.heap.size w w10) := Lib.hid (HB9.out.trans (hb10.mono HB9.out.size))
          have HR2 : Hid (Rd w10 A2 n (fun j => .int .u8 (nth L j : Nat))) := Lib.hid (by
            obtain ⟨A3, c3, e1, _, _, hrd⟩ := Rd.of_own ho10.out
            injection e1 with e1 e2 e3
            subst e1
            intro h0
            obtain ⟨b, o, e1, hb, hc⟩ := hrd h0
            refine ⟨b, o, e1, hb, fun j hj => ?_⟩
            rw [hc j hj, ← HLE.out.2.1, ← HLE.out.1]
            have hj2 : j < L.length := by rw [← HLE.out.2.2]; exact hj
            simp [bys, List.getD_eq_getElem?_getD, hj2, nth_eq hj2])
          have HSM := Lib.hid (dmSame (fun j => nth L j) n (by omega) (some ⟨b0, off0, none⟩) A2 c c2 w10 HRD10.out HR2.out)
          clear ho10 hb10 HPD HRD9 HB9
          go_wp2_with fail
          refine HSM.out.mono ?_
          rintro e w11 ⟨rfl, hb11⟩
          have HB11 : Hid (Below w.heap.size w w11) := Lib.hid (HB10.out.trans (hb11.mono HB10.out.size))
          clear hb11
          go_wp2_with fail
          go_ret
          exact ⟨rfl, HB11.out⟩
    · rw [decide_eq_false hsh] at HSH
      clear hbig hsz hsh
      go_enter Tryz.func3, Tryz.ntmps3
      go_wp2_with fail
      refine HSH.out.mono ?_
      rintro e w' ⟨rfl, rfl⟩
      go_wp2_with fail
      go_ret
      exact ⟨rfl, Below.refl _ _⟩
end Go.Proofs.YtcadknfcahmdcaaGreat
