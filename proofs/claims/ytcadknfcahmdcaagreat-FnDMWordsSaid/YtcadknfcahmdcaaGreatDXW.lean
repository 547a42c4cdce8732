/-
  dmSay of the reference, walked (printed by genDXW.py). No condition beyond the bounds that each theorem states.
-/
import Derived.Test.YtcadknfcahmdcaaGreatDXV
namespace Go.Proofs.YtcadknfcahmdcaaGreat
open Go.RowKit Go.Qz Go.Qz.DF
open Go.Qz.DV hiding val run part
set_option linter.unusedVariables false

set_option maxRecDepth 100000 in
set_option maxHeartbeats 25600000 in
theorem rAll (n : Nat) (L mac v HD TR o : List Nat) (k : Nat) (hn : n = L.length) (hn0 : 0 < n) (hnb : n ≤ 10000) (hL : L = mac ++ v) (hmac : (mac = [] ∧ HD = [] ∧ TR = []) ∨ ∃ d, (d = 53 ∨ d = 54) ∧ mac = [183 + d] ∧ HD = hdr d ∧ TR = [30, 4]) (hs : Say v o k) (ho8 : ∀ x ∈ o, x < 128) (hol : o.length ≤ 80000) (A : Option Addr) (c : Nat) (w : World) (hr : Rd w A n (fun j => .int .u8 (nth L j : Nat))) :
    Calls Tryz.prog 20 #[.slice A n c] w (SayPost (HD ++ o ++ TR) (mac.length + k) w) := by
  obtain ⟨wb, wo, hA, hwb, hcw⟩ := hr hn0
  subst hA
  have hhd : HD.length ≤ 7 ∧ TR.length ≤ 2 ∧ ∀ x ∈ HD, x < 128 := by
    rcases hmac with ⟨_, rfl, rfl⟩ | ⟨d, hd, _, rfl, rfl⟩
    · exact ⟨by simp, by simp, by simp⟩
    · refine ⟨by simp [hdr], by simp, ?_⟩
      rcases hd with rfl | rfl <;> decide
  obtain ⟨K, hK⟩ : ∃ K, K = mac.length + k := ⟨_, rfl⟩
  obtain ⟨rb, hrb⟩ : ∃ rb, rb = w.heap.size := ⟨_, rfl⟩
  obtain ⟨W1, hW1⟩ : ∃ W1, W1 = w.alloc (.cells (#[.slice (some ⟨wb, wo, none⟩) n c, .int .i64 0, .slice none 0 0, .bool false]) 78) := ⟨_, rfl⟩
  have HR0 : Hid (Rdr W1 rb wb wo c L 0 (.slice none 0 0) []) := Lib.hid ⟨by
      rw [hW1, hrb, ← hn]; exact Arr.new w _ _, fun j hj => by
      rw [hW1, World.cell?_alloc_old _ _ _ (by show wb ≠ _; omega)]; exact hcw j (by omega), World.ownsRow_nil _ _ _ _, by omega⟩
  have HB1 : Hid (Below w.heap.size w W1) := Lib.hid (by rw [hW1]; exact (Below.refl _ _).alloc (Nat.le_refl _) _)
  have HST0 : Hid ((∃ d, (d = 53 ∨ d = 54) ∧ mac = [183 + d] ∧ HD = hdr d ∧ TR = [30, 4]) ∨ StR L HD TR o K 0 [] ⟨#[]⟩) := Lib.hid (by
    rcases hmac with ⟨rfl, rfl, rfl⟩ | h
    · refine .inr ⟨o, k, ?_, by rw [hK]; rfl, rfl, by rfl, Nat.zero_le _⟩
      rw [hL]; exact hs
    · exact .inl h)
  have HMV : Hid (∀ d, mac = [183 + d] → nth L 0 = 183 + d ∧ L.drop 1 = v ∧ 1 + k = K ∧ 1 ≤ L.length) := Lib.hid (fun d e => by
    subst e
    rw [hL]
    exact ⟨rfl, rfl, by rw [hK]; simp, by simp⟩)
  have HSV := Lib.hid hs
  have HOB : Hid ((∀ x ∈ o, x < 128) ∧ o.length ≤ 80000 ∧ HD.length ≤ 7 ∧ TR.length ≤ 2 ∧ ∀ x ∈ HD, x < 128) := Lib.hid ⟨ho8, hol, hhd⟩
  have HN := Lib.hid hn
  have HRB := Lib.hid hrb
  have HW1 := Lib.hid hW1
  rw [← hK]
  clear hr hwb hcw hhd hrb hW1 hmac hs ho8 hol hL hK hn
  go_enter Tryz.func20, Tryz.ntmps20
  go_wp2_with fail
  rw [← HRB.out, ← HW1.out]
  clear HW1
  go_loopg [6] n (fun kk b wr => ∃ (a : Nat) (ov' : Value) (O' : List Nat) (ts : ByteArray), kk = n - a ∧ b = .string ts ∧ a ≤ n ∧ Hid (Rdr wr rb wb wo c L a ov' O') ∧ Hid (Step rb (.slice none 0 0) ov' W1 wr) ∧ Hid ((a = 0 ∧ O' = [] ∧ ov' = .slice none 0 0 ∧ ∃ d, (d = 53 ∨ d = 54) ∧ mac = [183 + d] ∧ HD = hdr d ∧ TR = [30, 4]) ∨ StR L HD TR o K a O' ts))
  case atStart => exact ⟨0, .slice none 0 0, [], ⟨#[]⟩, rfl, rfl, Nat.zero_le _, HR0, Lib.hid (Step.refl rb _ W1), Lib.hid (by
    rcases HST0.out with h | h
    · exact .inl ⟨rfl, rfl, rfl, h⟩
    · exact .inr h)⟩
  case round =>
    obtain ⟨a, ov1, O1, ts, hgk, hu, han, HR, HS, HI⟩ := hrel
    subst hu
    obtain ⟨w1, hw1⟩ : ∃ wz, wz = wr := ⟨_, rfl⟩
    rw [← hw1] at HR HS ⊢
    have HGK := Lib.hid hgk
    obtain ⟨R, hR⟩ : ∃ R, R = n - a := ⟨_, rfl⟩
    have HLF := Lib.hid (rLeft w1 HR.out (by have := HN.out; omega) R (by have := HN.out; omega))
    have HRE : Hid (R + a = n) := Lib.hid (by omega)
    have hRb : R ≤ 10000 := by omega
    have c3s : ∀ m, (w1.drewN m).cell? ⟨rb, 3, none⟩ = some (.bool false) := fun m => (HR.out.same (Same.drewN w1 m)).cells.2.2.2
    clear hw1 hgk hR HR0 HST0
    by_cases h0 : 0 < R
    · have h0i : decide ((0 : Int) < (R : Int)) = true := decide_eq_true (by omega)
      have h0n : decide (0 < R) = true := decide_eq_true h0
      --[more
      go_wp2_with fail
      refine HLF.out.mono ?_
      rintro e w' ⟨rfl, mq, rfl⟩
      have HR2 := Lib.hid (HR.out.same (Same.drewN w1 mq))
      have HS2 : Hid (Step rb (.slice none 0 0) ov1 W1 (w1.drewN mq)) := Lib.hid (HS.out.trans (Step.of_same (Same.drewN w1 mq)))
      have c3 := c3s mq
      obtain ⟨w2, hw2⟩ : ∃ wz, wz = w1.drewN mq := ⟨_, rfl⟩
      rw [← hw2] at HR2 HS2 c3 ⊢
      have hal : a < n := by have := HRE.out; omega
      clear hw2 HR HS HLF c3s h0
      rcases HI.out with ⟨ha0, hO0, hov0, d, hd, hm, hHD, hTR⟩ | hst
      · subst ha0 hO0 hov0
        --[mac
        rcases hd with rfl | rfl
        · skip
          obtain ⟨hx0, hv1, hK1, hl1⟩ := HMV.out 53 hm
          have hx0' : nth L 0 = 236 := hx0
          have HNX := Lib.hid (rNextS w2 HR2.out (by have := HN.out; omega) (by have := HN.out; omega) (by rw [hx0']; omega))
          rw [hx0'] at HNX
          have HSTF : Hid (StR L HD TR o K 1 (hdr 53) ⟨#[30, 4]⟩) := Lib.hid ⟨o, k, by rw [hv1]; exact HSV.out, hK1, by rw [hHD], by rw [hTR]; rfl, hl1⟩
          clear HI hv1 hK1 hl1 hx0 hx0' hm hHD hTR
          go_wp2_with fail
          refine HNX.out.mono ?_
          rintro e w3 ⟨rfl, HR3, HS3⟩
          have HS3' : Hid (Step rb (.slice none 0 0) (.slice none 0 0) W1 w3) := Lib.hid (HS2.out.trans HS3.out)
          obtain ⟨cap, w4, hc7, hcm, hrun, hs4, hsz4, hA4⟩ := run_hdr 24 w3
          obtain ⟨⟨g1, g2⟩, ⟨g3, g4, g5⟩, hR6, hS6⟩ := mac_rdr (d := 53) HR3.out hs4 hsz4 hA4 hc7 hcm
          obtain ⟨e0, e1, e2, e3⟩ := HR3.out.cells
          obtain ⟨g, hg⟩ : ∃ g, g = w3.heap.size := ⟨_, rfl⟩
          rw [← hg] at g3 g4 g5 hR6 hS6 hrun
          obtain ⟨w5, hw5⟩ : ∃ w5, w5 = w4.setCell ⟨rb, 2, none⟩ (.slice (some ⟨g, 0, none⟩) 7 cap) := ⟨_, rfl⟩
          rw [← hw5] at g3 g4 g5 hR6 hS6
          obtain ⟨w6, hw6⟩ : ∃ w6, w6 = w5.setCell ⟨g, 5, none⟩ (.int .u8 53) := ⟨_, rfl⟩
          have hR6' : Rdr w6 rb wb wo c L 1 (.slice (some ⟨g, 0, none⟩) 7 cap) (hdr 53) := by rw [hw6]; exact hR6
          have hS6' : Step rb (.slice none 0 0) (.slice (some ⟨g, 0, none⟩) 7 cap) w3 w6 := by rw [hw6]; exact hS6
          have HR6 := Lib.hid hR6'
          have HS6 : Hid (Step rb (.slice none 0 0) (.slice (some ⟨g, 0, none⟩) 7 cap) W1 w6) := Lib.hid (HS3'.out.trans hS6')
          have HRUN := Lib.hid hrun
          have HW5 := Lib.hid hw5
          have HW6 := Lib.hid hw6
          have hc7i : (7 : Int) ≤ (cap : Int) := by omega
          have hcb : cap ≤ 9223372036854775807 := by unfold maxLen at hcm; omega
          have HG1 := Lib.hid g1
          have HG2 := Lib.hid g2
          have HG3 := Lib.hid g3
          have HG4 := Lib.hid g4
          have HG5 := Lib.hid g5
          clear hrun hs4 hsz4 hA4 hR6 hS6 hR6' hS6' hg hw5 hw6 hcm g1 g2 g3 g4 g5 HNX HS3 HS3' HS2 HR2 c3
          have g1 := HG1.out
          have g2 := HG2.out
          go_upto_region 19 with (at_builtin; refine append_at _ _ 24 9 _ _ _ w4 rfl rfl rfl rfl HRUN.out ?_)
          rw [← HW5.out]
          have g3 := HG3.out
          have g4 := HG4.out
          have g5 := HG5.out
          clear g1 g2 e0 e1 e2 e3 HW5 HRUN
          go_upto_region 20 with (fail)
          rw [← HW6.out]
          clear HW6 g3 g4 g5
          go_wp2_with fail
          go_roundg (n - 1)
          case measure => have := HGK.out; omega
          case rel => exact ⟨1, .slice (some ⟨g, 0, none⟩) 7 cap, hdr 53, ⟨#[30, 4]⟩, rfl, rfl, by omega, HR6, HS6, Lib.hid (.inr HSTF.out)⟩
        · skip
          obtain ⟨hx0, hv1, hK1, hl1⟩ := HMV.out 54 hm
          have hx0' : nth L 0 = 237 := hx0
          have HNX := Lib.hid (rNextS w2 HR2.out (by have := HN.out; omega) (by have := HN.out; omega) (by rw [hx0']; omega))
          rw [hx0'] at HNX
          have HSTF : Hid (StR L HD TR o K 1 (hdr 54) ⟨#[30, 4]⟩) := Lib.hid ⟨o, k, by rw [hv1]; exact HSV.out, hK1, by rw [hHD], by rw [hTR]; rfl, hl1⟩
          clear HI hv1 hK1 hl1 hx0 hx0' hm hHD hTR
          go_wp2_with fail
          refine HNX.out.mono ?_
          rintro e w3 ⟨rfl, HR3, HS3⟩
          have HS3' : Hid (Step rb (.slice none 0 0) (.slice none 0 0) W1 w3) := Lib.hid (HS2.out.trans HS3.out)
          obtain ⟨cap, w4, hc7, hcm, hrun, hs4, hsz4, hA4⟩ := run_hdr 24 w3
          obtain ⟨⟨g1, g2⟩, ⟨g3, g4, g5⟩, hR6, hS6⟩ := mac_rdr (d := 54) HR3.out hs4 hsz4 hA4 hc7 hcm
          obtain ⟨e0, e1, e2, e3⟩ := HR3.out.cells
          obtain ⟨g, hg⟩ : ∃ g, g = w3.heap.size := ⟨_, rfl⟩
          rw [← hg] at g3 g4 g5 hR6 hS6 hrun
          obtain ⟨w5, hw5⟩ : ∃ w5, w5 = w4.setCell ⟨rb, 2, none⟩ (.slice (some ⟨g, 0, none⟩) 7 cap) := ⟨_, rfl⟩
          rw [← hw5] at g3 g4 g5 hR6 hS6
          obtain ⟨w6, hw6⟩ : ∃ w6, w6 = w5.setCell ⟨g, 5, none⟩ (.int .u8 54) := ⟨_, rfl⟩
          have hR6' : Rdr w6 rb wb wo c L 1 (.slice (some ⟨g, 0, none⟩) 7 cap) (hdr 54) := by rw [hw6]; exact hR6
          have hS6' : Step rb (.slice none 0 0) (.slice (some ⟨g, 0, none⟩) 7 cap) w3 w6 := by rw [hw6]; exact hS6
          have HR6 := Lib.hid hR6'
          have HS6 : Hid (Step rb (.slice none 0 0) (.slice (some ⟨g, 0, none⟩) 7 cap) W1 w6) := Lib.hid (HS3'.out.trans hS6')
          have HRUN := Lib.hid hrun
          have HW5 := Lib.hid hw5
          have HW6 := Lib.hid hw6
          have hc7i : (7 : Int) ≤ (cap : Int) := by omega
          have hcb : cap ≤ 9223372036854775807 := by unfold maxLen at hcm; omega
          have HG1 := Lib.hid g1
          have HG2 := Lib.hid g2
          have HG3 := Lib.hid g3
          have HG4 := Lib.hid g4
          have HG5 := Lib.hid g5
          clear hrun hs4 hsz4 hA4 hR6 hS6 hR6' hS6' hg hw5 hw6 hcm g1 g2 g3 g4 g5 HNX HS3 HS3' HS2 HR2 c3
          have g1 := HG1.out
          have g2 := HG2.out
          go_upto_region 19 with (at_builtin; refine append_at _ _ 24 9 _ _ _ w4 rfl rfl rfl rfl HRUN.out ?_)
          rw [← HW5.out]
          have g3 := HG3.out
          have g4 := HG4.out
          have g5 := HG5.out
          clear g1 g2 e0 e1 e2 e3 HW5 HRUN
          go_upto_region 20 with (fail)
          rw [← HW6.out]
          clear HW6 g3 g4 g5
          go_wp2_with fail
          go_roundg (n - 1)
          case measure => have := HGK.out; omega
          case rel => exact ⟨1, .slice (some ⟨g, 0, none⟩) 7 cap, hdr 54, ⟨#[30, 4]⟩, rfl, rfl, by omega, HR6, HS6, Lib.hid (.inr HSTF.out)⟩
        --]mac
      · skip
        --[main
        obtain ⟨o', k', hsay, hak, hO, hts, hal2⟩ := hst
        clear HI
        rcases say_cases hsay with ⟨hX, _⟩ | ⟨r, hX, ho, hk⟩ | ⟨ch, k2, r, o2, hX, hc8, ho, hk, hs2⟩ | ⟨v2, k2, r, o2, hX, hv8, ho, hk, hs2⟩ | ⟨mode, k2, r, o1, rest, o2, hX, hm1, hm3, ht, ho, hk, hs2⟩ | ⟨k2, r, o1, rest, o2, hX, ht, ho, hk, hs2⟩
        · have := drop_nil hX
          have := HN.out
          omega
        · skip
          --[pad
          have HFIN : Hid (O1 = HD ++ o ∧ K = a ∧ sb ts = TR) := Lib.hid ⟨by rw [ho, List.append_nil] at hO; exact hO, by omega, hts⟩
          obtain ⟨hla, hna, hda⟩ := drop_cons hX
          have HNX := Lib.hid (rNextS w2 HR2.out (by have := HN.out; omega) hla (by rw [hna]; omega))
          rw [hna] at HNX
          go_wp2_with fail
          refine HNX.out.mono ?_
          rintro e w3 ⟨rfl, HR3, HS3⟩
          have HS3' : Hid (Step rb (.slice none 0 0) ov1 W1 w3) := Lib.hid (HS2.out.trans HS3.out)
          clear HNX HS3 HS2 HR2 c3
          obtain ⟨e0, e1, e2, e3⟩ := HR3.out.cells
          have hOlen : O1.length ≤ 90000 := by
            have h1 := congrArg List.length hO
            rw [List.length_append, List.length_append] at h1
            have := HOB.out; omega
          have HOL := Lib.hid hOlen
          clear hOlen
          have hO8 : ∀ y ∈ O1, y < 256 := fun y hy => by
            rw [HFIN.out.1] at hy
            rcases List.mem_append.1 hy with h | h
            · have := HOB.out.2.2.2.2 y h; omega
            · have := HOB.out.1 y h; omega
          obtain ⟨A2, c2, hov, hconv⟩ := rdr_conv HR3.out hO8
          obtain ⟨m, hm⟩ : ∃ m, m = O1.length := ⟨_, rfl⟩
          rw [← hm] at hov hconv
          obtain ⟨S1, hS1⟩ : ∃ S1, S1 = bs O1 := ⟨_, rfl⟩
          rw [← hS1] at hconv
          have HSS : Hid (sb (S1 ++ ts) = HD ++ o ++ TR) := Lib.hid (by
            rw [sb_append, hS1, sb_bs O1 hO8, HFIN.out.1, HFIN.out.2.2])
          have hfit : (9223372036854775807 < S1.size + ts.size) = False := eq_false (by
            have h1 : S1.size = O1.length := by rw [hS1]; exact bs_size O1
            have h2 : ts.size = TR.length := by rw [← sb_len, HFIN.out.2.2]
            have := HOL.out; have := HOB.out
            omega)
          obtain ⟨a1, ha1⟩ : ∃ a1, a1 = a + 1 := ⟨_, rfl⟩
          rw [← ha1] at e1
          have q1 : IntKind.i64.wrap ((a1 : Int) - 1) = (a : Int) := by rw [IntKind.wrap_i64]; omega
          have q1i : (a1 : Int) - 1 = (a : Int) := by omega
          have HBF : Hid (Below w.heap.size w w3) := Lib.hid (HB1.out.trans (by
            have h1 := HR3.out.rlt
            refine Mod.below HS3'.out.1 HB1.out.size fun k hk => ?_
            rcases hk with hk | hk
            · rw [hk, HRB.out]; exact Nat.le_refl _
            · cases hk))
          rw [hov] at e2
          clear hO8 hov hm hS1 hla hna hda hX hsay hak hO hts hal2 ho hk ha1
          have hconv0 : ∀ k, (convert 24 9 (.slice A2 m c2)).run Tryz.prog (w3.drewN k) = .ok (.string S1) (w3.drewN k) := hconv
          clear hconv
          have HK : Hid (K = a) := Lib.hid HFIN.out.2.1
          clear HFIN
          go_wp2_with fail
          go_quiet (fail)
          go_wp2_with fail
          refine bodyPost_ret (v := .tuple #[.string (S1 ++ ts), .int .i64 a, .bool true]) (by simp [results, Tryz.results20, go_sem]) rfl ⟨_, by rw [HK.out], HSS, HBF.out.trans ((Same.drewN w3 _).below.mono HBF.out.size)⟩
          --]pad
        · skip
          --[chr
          obtain ⟨x, hx⟩ : ∃ x, x = ch + 1 := ⟨_, rfl⟩
          rw [← hx] at hX
          obtain ⟨hla, hna, hda⟩ := drop_cons hX
          have HNX := Lib.hid (rNextS w2 HR2.out (by have := HN.out; omega) hla (by rw [hna]; omega))
          rw [hna] at HNX
          have HST' : Hid (StR L HD TR o K (a + 1) (O1 ++ [ch]) ts ∧ a + 1 ≤ L.length ∧ a < a + 1) := Lib.hid ⟨⟨o2, k2, by rw [hda]; exact hs2, by omega, by rw [List.append_assoc]; rw [ho] at hO; exact hO, hts, hla⟩, hla, by omega⟩
          have x1 : decide ((1 : Int) ≤ (x : Int)) = true := decide_eq_true (by omega)
          have x2 : decide ((x : Int) ≤ 128) = true := decide_eq_true (by omega)
          have x3 : decide (x ≤ 128) = true := decide_eq_true (by omega)
          have q1 : IntKind.i64.wrap ((x : Int) - 1) = (ch : Int) := by rw [IntKind.wrap_i64]; omega
          go_wp2_with fail
          refine HNX.out.mono ?_
          rintro e w3 ⟨rfl, HR3, HS3⟩
          have HS3' : Hid (Step rb (.slice none 0 0) ov1 W1 w3) := Lib.hid (HS2.out.trans HS3.out)
          clear HNX HS3 HS2 HR2 c3
          obtain ⟨e0, e1, e2, e3⟩ := HR3.out.cells
          have hOlen : O1.length ≤ 90000 := by
            have h1 := congrArg List.length hO
            rw [List.length_append, List.length_append] at h1
            have := HOB.out; omega
          have HOL := Lib.hid hOlen
          clear hOlen
          clear hla hna hda hX hsay hak hO hts hal2 ho hk hs2 hx
          have HSY := Lib.hid (rSay w3 HR3.out ch (by omega) (by have := HOL.out; omega))
          go_wp2_with fail
          refine HSY.out.mono ?_
          rintro e w7 ⟨ov7, rfl, HR7, HS7⟩
          have HS7' : Hid (Step rb (.slice none 0 0) ov7 W1 w7) := Lib.hid (HS3'.out.trans HS7.out)
          clear HSY HS7
          go_wp2_with fail
          go_roundg (n - (a + 1))
          case measure => have := HGK.out; have := HST'.out; have := HN.out; omega
          case rel => exact ⟨(a + 1), ov7, O1 ++ [ch], ts, rfl, rfl, by have := HST'.out; have := HN.out; omega, HR7, HS7', Lib.hid (.inr HST'.out.1)⟩
          --]chr
        · skip
          --[two
          obtain ⟨x, hx⟩ : ∃ x, x = 130 + v2 := ⟨_, rfl⟩
          rw [← hx] at hX
          obtain ⟨v10, hv10⟩ : ∃ y, y = v2 / 10 := ⟨_, rfl⟩
          obtain ⟨v1, hv1⟩ : ∃ y, y = v2 % 10 := ⟨_, rfl⟩
          obtain ⟨d1, hd1⟩ : ∃ y, y = 48 + v10 := ⟨_, rfl⟩
          obtain ⟨d2, hd2⟩ : ∃ y, y = 48 + v1 := ⟨_, rfl⟩
          rw [← hv10, ← hv1, ← hd1, ← hd2] at ho
          obtain ⟨hla, hna, hda⟩ := drop_cons hX
          have HNX := Lib.hid (rNextS w2 HR2.out (by have := HN.out; omega) hla (by rw [hna]; omega))
          rw [hna] at HNX
          have HST' : Hid (StR L HD TR o K (a + 1) (O1 ++ [d1] ++ [d2]) ts ∧ a + 1 ≤ L.length ∧ a < a + 1) := Lib.hid ⟨⟨o2, k2, by rw [hda]; exact hs2, by omega, by rw [List.append_assoc, List.append_assoc]; rw [ho] at hO; exact hO, hts, hla⟩, hla, by omega⟩
          have x1 : decide ((1 : Int) ≤ (x : Int)) = true := decide_eq_true (by omega)
          have x2 : decide ((x : Int) ≤ 128) = false := decide_eq_false (by omega)
          have x3 : decide (x ≤ 128) = false := decide_eq_false (by omega)
          have x4 : ((x : Int) == 129) = false := by simp; omega
          have x5 : decide ((130 : Int) ≤ (x : Int)) = true := decide_eq_true (by omega)
          have x6 : decide ((x : Int) ≤ 229) = true := decide_eq_true (by omega)
          have x7 : decide (x ≤ 229) = true := decide_eq_true (by omega)
          have q1 : IntKind.i64.wrap ((x : Int) - 130) = (v2 : Int) := by rw [IntKind.wrap_i64]; omega
          have q2t : (v2 : Int).tdiv 10 = (v10 : Int) := by rw [Int.tdiv_eq_ediv_of_nonneg (by omega)]; omega
          have q2 : (v2 : Int) / 10 = (v10 : Int) := by omega
          have q2w : IntKind.i64.wrap ((v2 : Int) / 10) = (v10 : Int) := by rw [IntKind.wrap_i64]; omega
          have q3t : (v2 : Int).tmod 10 = (v1 : Int) := by rw [Int.tmod_eq_emod_of_nonneg (by omega)]; omega
          have q3 : (v2 : Int) % 10 = (v1 : Int) := by omega
          have q4 : IntKind.i64.wrap (48 + (v10 : Int)) = (d1 : Int) := by rw [IntKind.wrap_i64]; omega
          have q5 : IntKind.i64.wrap (48 + (v1 : Int)) = (d2 : Int) := by rw [IntKind.wrap_i64]; omega
          have hd1b : d1 ≤ 127 := by omega
          have hd2b : d2 ≤ 127 := by omega
          have hv10b : v10 ≤ 9 := by omega
          have hv1b : v1 ≤ 9 := by omega
          have hxb : x ≤ 229 := by omega
          go_wp2_with fail
          refine HNX.out.mono ?_
          rintro e w3 ⟨rfl, HR3, HS3⟩
          have HS3' : Hid (Step rb (.slice none 0 0) ov1 W1 w3) := Lib.hid (HS2.out.trans HS3.out)
          clear HNX HS3 HS2 HR2 c3
          obtain ⟨e0, e1, e2, e3⟩ := HR3.out.cells
          have hOlen : O1.length ≤ 90000 := by
            have h1 := congrArg List.length hO
            rw [List.length_append, List.length_append] at h1
            have := HOB.out; omega
          have HOL := Lib.hid hOlen
          clear hOlen
          clear hla hna hda hX hsay hak hO hts hal2 ho hk hs2 hx hv10 hv1 hd1 hd2
          have HSY := Lib.hid (rSay w3 HR3.out d1 (hd1b) (by have := HOL.out; omega))
          go_wp2_with fail
          refine HSY.out.mono ?_
          rintro e w7 ⟨ov7, rfl, HR7, HS7⟩
          have HS7' : Hid (Step rb (.slice none 0 0) ov7 W1 w7) := Lib.hid (HS3'.out.trans HS7.out)
          clear HSY HS7
          have HSY := Lib.hid (rSay w7 HR7.out d2 (hd2b) (by have := HOL.out; rw [List.length_append]; simp; omega))
          go_wp2_with fail
          refine HSY.out.mono ?_
          rintro e w8 ⟨ov8, rfl, HR8, HS8⟩
          have HS8' : Hid (Step rb (.slice none 0 0) ov8 W1 w8) := Lib.hid (HS7'.out.trans HS8.out)
          clear HSY HS8
          go_wp2_with fail
          go_roundg (n - (a + 1))
          case measure => have := HGK.out; have := HST'.out; have := HN.out; omega
          case rel => exact ⟨(a + 1), ov8, O1 ++ [d1] ++ [d2], ts, rfl, rfl, by have := HST'.out; have := HN.out; omega, HR8, HS8', Lib.hid (.inr HST'.out.1)⟩
          --]two
        · rcases (show mode = 1 ∨ mode = 2 ∨ mode = 3 by omega) with rfl | rfl | rfl
          · have hX : L.drop a = 230 :: r := hX
            --[t1
            obtain ⟨hla, hna, hda⟩ := drop_cons hX
            have HNX := Lib.hid (rNextS w2 HR2.out (by have := HN.out; omega) hla (by rw [hna]; omega))
            rw [hna] at HNX
            have hrl : r.length + (a + 1) = L.length := by
              have := congrArg List.length hda
              rw [List.length_drop] at this
              omega
            have hsuf := threes_suffix ht
            have hlen := ht.len
            obtain ⟨a2, ha2⟩ : ∃ a2, a2 = L.length - rest.length := ⟨_, rfl⟩
            have HST' : Hid (StR L HD TR o K a2 (O1 ++ o1) ts ∧ a2 ≤ L.length ∧ a < a2) := Lib.hid ⟨⟨o2, k2, by
              have h9 : L.drop a2 = rest := by
                rw [show a2 = (a + 1) + (r.length - rest.length) by omega, ← List.drop_drop, hda]; exact hsuf
              rw [h9]; exact hs2, by omega, by rw [List.append_assoc]; rw [ho] at hO; exact hO, hts, by omega⟩, by omega, by omega⟩
            have hsp : O1.length + o1.length ≤ 90000 := by
              have h1 := congrArg List.length hO
              rw [ho, List.length_append, List.length_append, List.length_append] at h1
              have := HOB.out; omega
            have HTH : Hid (Threes 1 0 (L.drop (a + 1)) o1 rest) := Lib.hid (by rw [hda]; exact ht)
            have HSP := Lib.hid hsp
            have HLA := Lib.hid hla
            have HA2 := Lib.hid ha2
            go_wp2_with fail
            refine HNX.out.mono ?_
            rintro e w3 ⟨rfl, HR3, HS3⟩
            have HS3' : Hid (Step rb (.slice none 0 0) ov1 W1 w3) := Lib.hid (HS2.out.trans HS3.out)
            clear HNX HS3 HS2 HR2 c3
            obtain ⟨e0, e1, e2, e3⟩ := HR3.out.cells
            have hOlen : O1.length ≤ 90000 := by
              have h1 := congrArg List.length hO
              rw [List.length_append, List.length_append] at h1
              have := HOB.out; omega
            have HOL := Lib.hid hOlen
            clear hOlen
            clear hla hna hda hX hsay hak hO hts hal2 ho hk hs2 hsp hrl hsuf hlen ht
            have HSG := Lib.hid (rThrees 1 (by omega) (by omega) w3 HR3.out o1 rest HTH.out HLA.out (by have := HN.out; omega) HSP.out)
            rw [← HA2.out] at HSG
            go_wp2_with fail
            refine HSG.out.mono ?_
            rintro e w7 ⟨ov7, rfl, HR7, HS7⟩
            have HS7' : Hid (Step rb (.slice none 0 0) ov7 W1 w7) := Lib.hid (HS3'.out.trans HS7.out)
            clear HSG HS7 ha2
            go_wp2_with fail
            go_roundg (n - a2)
            case measure => have := HGK.out; have := HST'.out; have := HN.out; omega
            case rel => exact ⟨a2, ov7, O1 ++ o1, ts, rfl, rfl, by have := HST'.out; have := HN.out; omega, HR7, HS7', Lib.hid (.inr HST'.out.1)⟩
            --]t1
          · have hX : L.drop a = 239 :: r := hX
            --[t2
            obtain ⟨hla, hna, hda⟩ := drop_cons hX
            have HNX := Lib.hid (rNextS w2 HR2.out (by have := HN.out; omega) hla (by rw [hna]; omega))
            rw [hna] at HNX
            have hrl : r.length + (a + 1) = L.length := by
              have := congrArg List.length hda
              rw [List.length_drop] at this
              omega
            have hsuf := threes_suffix ht
            have hlen := ht.len
            obtain ⟨a2, ha2⟩ : ∃ a2, a2 = L.length - rest.length := ⟨_, rfl⟩
            have HST' : Hid (StR L HD TR o K a2 (O1 ++ o1) ts ∧ a2 ≤ L.length ∧ a < a2) := Lib.hid ⟨⟨o2, k2, by
              have h9 : L.drop a2 = rest := by
                rw [show a2 = (a + 1) + (r.length - rest.length) by omega, ← List.drop_drop, hda]; exact hsuf
              rw [h9]; exact hs2, by omega, by rw [List.append_assoc]; rw [ho] at hO; exact hO, hts, by omega⟩, by omega, by omega⟩
            have hsp : O1.length + o1.length ≤ 90000 := by
              have h1 := congrArg List.length hO
              rw [ho, List.length_append, List.length_append, List.length_append] at h1
              have := HOB.out; omega
            have HTH : Hid (Threes 2 0 (L.drop (a + 1)) o1 rest) := Lib.hid (by rw [hda]; exact ht)
            have HSP := Lib.hid hsp
            have HLA := Lib.hid hla
            have HA2 := Lib.hid ha2
            go_wp2_with fail
            refine HNX.out.mono ?_
            rintro e w3 ⟨rfl, HR3, HS3⟩
            have HS3' : Hid (Step rb (.slice none 0 0) ov1 W1 w3) := Lib.hid (HS2.out.trans HS3.out)
            clear HNX HS3 HS2 HR2 c3
            obtain ⟨e0, e1, e2, e3⟩ := HR3.out.cells
            have hOlen : O1.length ≤ 90000 := by
              have h1 := congrArg List.length hO
              rw [List.length_append, List.length_append] at h1
              have := HOB.out; omega
            have HOL := Lib.hid hOlen
            clear hOlen
            clear hla hna hda hX hsay hak hO hts hal2 ho hk hs2 hsp hrl hsuf hlen ht
            have HSG := Lib.hid (rThrees 2 (by omega) (by omega) w3 HR3.out o1 rest HTH.out HLA.out (by have := HN.out; omega) HSP.out)
            rw [← HA2.out] at HSG
            go_wp2_with fail
            refine HSG.out.mono ?_
            rintro e w7 ⟨ov7, rfl, HR7, HS7⟩
            have HS7' : Hid (Step rb (.slice none 0 0) ov7 W1 w7) := Lib.hid (HS3'.out.trans HS7.out)
            clear HSG HS7 ha2
            go_wp2_with fail
            go_roundg (n - a2)
            case measure => have := HGK.out; have := HST'.out; have := HN.out; omega
            case rel => exact ⟨a2, ov7, O1 ++ o1, ts, rfl, rfl, by have := HST'.out; have := HN.out; omega, HR7, HS7', Lib.hid (.inr HST'.out.1)⟩
            --]t2
          · have hX : L.drop a = 238 :: r := hX
            --[t3
            obtain ⟨hla, hna, hda⟩ := drop_cons hX
            have HNX := Lib.hid (rNextS w2 HR2.out (by have := HN.out; omega) hla (by rw [hna]; omega))
            rw [hna] at HNX
            have hrl : r.length + (a + 1) = L.length := by
              have := congrArg List.length hda
              rw [List.length_drop] at this
              omega
            have hsuf := threes_suffix ht
            have hlen := ht.len
            obtain ⟨a2, ha2⟩ : ∃ a2, a2 = L.length - rest.length := ⟨_, rfl⟩
            have HST' : Hid (StR L HD TR o K a2 (O1 ++ o1) ts ∧ a2 ≤ L.length ∧ a < a2) := Lib.hid ⟨⟨o2, k2, by
              have h9 : L.drop a2 = rest := by
                rw [show a2 = (a + 1) + (r.length - rest.length) by omega, ← List.drop_drop, hda]; exact hsuf
              rw [h9]; exact hs2, by omega, by rw [List.append_assoc]; rw [ho] at hO; exact hO, hts, by omega⟩, by omega, by omega⟩
            have hsp : O1.length + o1.length ≤ 90000 := by
              have h1 := congrArg List.length hO
              rw [ho, List.length_append, List.length_append, List.length_append] at h1
              have := HOB.out; omega
            have HTH : Hid (Threes 3 0 (L.drop (a + 1)) o1 rest) := Lib.hid (by rw [hda]; exact ht)
            have HSP := Lib.hid hsp
            have HLA := Lib.hid hla
            have HA2 := Lib.hid ha2
            go_wp2_with fail
            refine HNX.out.mono ?_
            rintro e w3 ⟨rfl, HR3, HS3⟩
            have HS3' : Hid (Step rb (.slice none 0 0) ov1 W1 w3) := Lib.hid (HS2.out.trans HS3.out)
            clear HNX HS3 HS2 HR2 c3
            obtain ⟨e0, e1, e2, e3⟩ := HR3.out.cells
            have hOlen : O1.length ≤ 90000 := by
              have h1 := congrArg List.length hO
              rw [List.length_append, List.length_append] at h1
              have := HOB.out; omega
            have HOL := Lib.hid hOlen
            clear hOlen
            clear hla hna hda hX hsay hak hO hts hal2 ho hk hs2 hsp hrl hsuf hlen ht
            have HSG := Lib.hid (rThrees 3 (by omega) (by omega) w3 HR3.out o1 rest HTH.out HLA.out (by have := HN.out; omega) HSP.out)
            rw [← HA2.out] at HSG
            go_wp2_with fail
            refine HSG.out.mono ?_
            rintro e w7 ⟨ov7, rfl, HR7, HS7⟩
            have HS7' : Hid (Step rb (.slice none 0 0) ov7 W1 w7) := Lib.hid (HS3'.out.trans HS7.out)
            clear HSG HS7 ha2
            go_wp2_with fail
            go_roundg (n - a2)
            case measure => have := HGK.out; have := HST'.out; have := HN.out; omega
            case rel => exact ⟨a2, ov7, O1 ++ o1, ts, rfl, rfl, by have := HST'.out; have := HN.out; omega, HR7, HS7', Lib.hid (.inr HST'.out.1)⟩
            --]t3
        · skip
          --[six
          obtain ⟨hla, hna, hda⟩ := drop_cons hX
          have HNX := Lib.hid (rNextS w2 HR2.out (by have := HN.out; omega) hla (by rw [hna]; omega))
          rw [hna] at HNX
          have hrl : r.length + (a + 1) = L.length := by
            have := congrArg List.length hda
            rw [List.length_drop] at this
            omega
          have hsuf := sixes_suffix ht
          have hlen := ht.len
          obtain ⟨a2, ha2⟩ : ∃ a2, a2 = L.length - rest.length := ⟨_, rfl⟩
          have HST' : Hid (StR L HD TR o K a2 (O1 ++ o1) ts ∧ a2 ≤ L.length ∧ a < a2) := Lib.hid ⟨⟨o2, k2, by
            have h9 : L.drop a2 = rest := by
              rw [show a2 = (a + 1) + (r.length - rest.length) by omega, ← List.drop_drop, hda]; exact hsuf
            rw [h9]; exact hs2, by omega, by rw [List.append_assoc]; rw [ho] at hO; exact hO, hts, by omega⟩, by omega, by omega⟩
          have hsp : O1.length + o1.length ≤ 90000 := by
            have h1 := congrArg List.length hO
            rw [ho, List.length_append, List.length_append, List.length_append] at h1
            have := HOB.out; omega
          have HTH : Hid (Sixes (L.drop (a + 1)) o1 rest) := Lib.hid (by rw [hda]; exact ht)
          have HSP := Lib.hid hsp
          have HLA := Lib.hid hla
          have HA2 := Lib.hid ha2
          go_wp2_with fail
          refine HNX.out.mono ?_
          rintro e w3 ⟨rfl, HR3, HS3⟩
          have HS3' : Hid (Step rb (.slice none 0 0) ov1 W1 w3) := Lib.hid (HS2.out.trans HS3.out)
          clear HNX HS3 HS2 HR2 c3
          obtain ⟨e0, e1, e2, e3⟩ := HR3.out.cells
          have hOlen : O1.length ≤ 90000 := by
            have h1 := congrArg List.length hO
            rw [List.length_append, List.length_append] at h1
            have := HOB.out; omega
          have HOL := Lib.hid hOlen
          clear hOlen
          clear hla hna hda hX hsay hak hO hts hal2 ho hk hs2 hsp hrl hsuf hlen ht
          have HSG := Lib.hid (rSixes w3 HR3.out o1 rest HTH.out HLA.out (by have := HN.out; omega) HSP.out)
          rw [← HA2.out] at HSG
          go_wp2_with fail
          refine HSG.out.mono ?_
          rintro e w7 ⟨ov7, rfl, HR7, HS7⟩
          have HS7' : Hid (Step rb (.slice none 0 0) ov7 W1 w7) := Lib.hid (HS3'.out.trans HS7.out)
          clear HSG HS7 ha2
          go_wp2_with fail
          go_roundg (n - a2)
          case measure => have := HGK.out; have := HST'.out; have := HN.out; omega
          case rel => exact ⟨a2, ov7, O1 ++ o1, ts, rfl, rfl, by have := HST'.out; have := HN.out; omega, HR7, HS7', Lib.hid (.inr HST'.out.1)⟩
          --]six
        --]main
      --]more
    · have h0i : decide ((0 : Int) < (R : Int)) = false := decide_eq_false (by omega)
      have h0n : decide (0 < R) = false := decide_eq_false h0
      --[last
      have HFIN : Hid (O1 = HD ++ o ∧ K = n ∧ sb ts = TR) := Lib.hid (by
        have hR0 := HRE.out
        rcases HI.out with ⟨ha0, _⟩ | ⟨o', k', hsay, hak, hO, hts, hal2⟩
        · exfalso; omega
        · rcases say_cases hsay with ⟨hX, ho, hk⟩ | ⟨r, hX, _⟩ | ⟨ch, k2, r, o2, hX, _⟩ | ⟨v2, k2, r, o2, hX, _⟩ | ⟨mode, k2, r, o1, rest, o2, hX, _⟩ | ⟨k2, r, o1, rest, o2, hX, _⟩
          · rw [ho, List.append_nil] at hO; exact ⟨hO, by omega, hts⟩
          all_goals (exfalso; have h1 := (drop_cons hX).1; have := HN.out; omega))
      have hOlen : O1.length ≤ 90000 := by
        have h1 := congrArg List.length HFIN.out.1
        rw [List.length_append] at h1
        have := HOB.out; omega
      have HOL := Lib.hid hOlen
      go_wp2_with fail
      refine HLF.out.mono ?_
      rintro e w' ⟨rfl, mq, rfl⟩
      have HR2 := Lib.hid (HR.out.same (Same.drewN w1 mq))
      have HS2 : Hid (Step rb (.slice none 0 0) ov1 W1 (w1.drewN mq)) := Lib.hid (HS.out.trans (Step.of_same (Same.drewN w1 mq)))
      obtain ⟨w3, hw3⟩ : ∃ wz, wz = w1.drewN mq := ⟨_, rfl⟩
      rw [← hw3] at HR2 HS2 ⊢
      clear hw3 HR HS HLF c3s h0 hOlen HI
      obtain ⟨e0, e1, e2, e3⟩ := HR2.out.cells
      have hO8 : ∀ y ∈ O1, y < 256 := fun y hy => by
        rw [HFIN.out.1] at hy
        rcases List.mem_append.1 hy with h | h
        · have := HOB.out.2.2.2.2 y h; omega
        · have := HOB.out.1 y h; omega
      obtain ⟨A2, c2, hov, hconv⟩ := rdr_conv HR2.out hO8
      obtain ⟨m, hm⟩ : ∃ m, m = O1.length := ⟨_, rfl⟩
      rw [← hm] at hov hconv
      obtain ⟨S1, hS1⟩ : ∃ S1, S1 = bs O1 := ⟨_, rfl⟩
      rw [← hS1] at hconv
      have HSS : Hid (sb (S1 ++ ts) = HD ++ o ++ TR) := Lib.hid (by
        rw [sb_append, hS1, sb_bs O1 hO8, HFIN.out.1, HFIN.out.2.2])
      have hfit : (9223372036854775807 < S1.size + ts.size) = False := eq_false (by
        have h1 : S1.size = O1.length := by rw [hS1]; exact bs_size O1
        have h2 : ts.size = TR.length := by rw [← sb_len, HFIN.out.2.2]
        have := HOL.out; have := HOB.out
        omega)
      have HBF : Hid (Below w.heap.size w w3) := Lib.hid (HB1.out.trans (by
        have h1 := HR2.out.rlt
        refine Mod.below HS2.out.1 HB1.out.size fun k hk => ?_
        rcases hk with hk | hk
        · rw [hk, HRB.out]; exact Nat.le_refl _
        · cases hk))
      rw [hov] at e2
      have HK : Hid (K = n) := Lib.hid HFIN.out.2.1
      clear hO8 hov hm hS1 HFIN
      go_wp2_with fail
      go_quiet (fail)
      go_wp2_with fail
      refine bodyPost_ret (v := .tuple #[.string (S1 ++ ts), .int .i64 n, .bool true]) (by simp [results, Tryz.results20, go_sem]) rfl ⟨_, by rw [HK.out], HSS, HBF.out.trans ((Same.drewN w3 _).below.mono HBF.out.size)⟩
      --]last
end Go.Proofs.YtcadknfcahmdcaaGreat
