/-
  DecodedBitStreamParser_decode over words of ASCII and X12, and impl.DMParse, walked. No condition beyond the bounds that each theorem states.
-/
import Derived.Test.YthnepajhiialpaaDoorDAF
import Derived.Test.YthnepajhiialpaaDoorCPM
namespace Go.Proofs.YthnepajhiialpaaDoor
open Go.RowKit Go.Qz Go.Qz.BS Go.Qz.DW
set_option linter.unusedVariables false

theorem Tryd.infoRowsG : (Tryd.prog.info? 27).map (fun i => (i.zero, i.size, i.bytes)) = some (some (.slice none 0 0), 1, 24) := by kernel_rfl
def DecPost (L B : List Nat) (A : Option Addr) (n c : Nat) (w : World) (e : Ending) (w' : World) : Prop :=
  ∃ (p : Nat) (nb : Value), e = .returned (.tuple #[.pointer (some ⟨p, 0, none⟩), .nilIface]) ∧ Hid (DR w' p (.slice A n c) nb (bs L) (.slice none 0 0) ⟨#[]⟩ 0 0 .nilIface (-1) (-1) 1) ∧ Hid (Rd w' A n (fun j => .int .u8 (nth B j : Nat))) ∧ Hid (Below w.heap.size w w')
set_option maxRecDepth 100000 in
set_option maxHeartbeats 12800000 in
theorem decodeW (L B : List Nat) (hL : L.length < 10000) (hL8 : ∀ x ∈ L, x < 256) (A : Option Addr) (n c : Nat) (hn : n = B.length) (hnl : n < 1000000) (hB : ∀ j, nth B j < 256) (hT : Rest B 1 0 L) (w : World) (h : Rd w A n (fun j => .int .u8 (nth B j : Nat))) (hA : ∀ a, A = some a → a.block < w.heap.size) :
    Calls Tryd.prog 15 #[.slice A n c] w (DecPost L B A n c w) := by
  have HN := Lib.hid hn
  have HBB := Lib.hid hB
  have HTT := Lib.hid hT
  have HLL := Lib.hid hL
  have HL8 := Lib.hid hL8
  have HA := Lib.hid hA
  have HR := Lib.hid h
  clear hn hB hT hL hL8 hA h
  have hmk1 : ∀ W, (Instr.makeSlice 27 (.int .i64 0) (.int .i64 100)).run Tryd.prog W = .ok (.slice (some ⟨W.heap.size, 0, none⟩) 0 100) (W.alloc (.cells (zeros 100 (.int .u8 0)) 5)) := fun W => run_make0 (P := Tryd.prog) 27 5 (.int .u8 0) 1 Tryd.underlying27 Tryd.infoU8D rfl (by decide) 100 (by omega) .i64 .i64 100 rfl W
  have hmk2 : ∀ W, (Instr.makeSlice 27 (.int .i64 0) (.int .i64 0)).run Tryd.prog W = .ok (.slice (some ⟨W.heap.size, 0, none⟩) 0 0) (W.alloc (.cells (zeros 0 (.int .u8 0)) 5)) := fun W => run_make0 (P := Tryd.prog) 27 5 (.int .u8 0) 1 Tryd.underlying27 Tryd.infoU8D rfl (by decide) 0 (by omega) .i64 .i64 0 rfl W
  have hmk3 : ∀ W, (Instr.makeSlice 34 (.int .i64 0) (.int .i64 1)).run Tryd.prog W = .ok (.slice (some ⟨W.heap.size, 0, none⟩) 0 1) (W.alloc (.cells (zeros 1 (.slice none 0 0)) 27)) := fun W => run_make0 (P := Tryd.prog) 34 27 (.slice none 0 0) 24 Tryd.underlying34 Tryd.infoRowsG rfl (by decide) 1 (by omega) .i64 .i64 1 rfl W
  have HMK := Lib.hid (And.intro hmk1 (And.intro hmk2 hmk3))
  clear hmk1 hmk2 hmk3
  go_enter Tryd.func15, Tryd.ntmps15
  go_wp2_with fail
  refine (srcNew A n c w).mono ?_
  rintro e w1 ⟨rfl, hsrc, hb1, hlt⟩
  obtain ⟨p, hp⟩ : ∃ p, p = w.heap.size := ⟨_, rfl⟩
  rw [← hp] at hsrc hlt ⊢
  have HP := Lib.hid hp
  have HFAR : Hid (∀ a, A = some a → a.block < p) := Lib.hid (by rw [hp]; exact HA.out)
  have HR1 := Lib.hid (HR.out.below hb1)
  have HB1 : Hid (Below p w w1) := Lib.hid (by rw [hp]; exact hb1)
  have HSRC := Lib.hid hsrc
  have HLT := Lib.hid hlt
  clear hsrc hb1 hlt hp HR HA
  obtain ⟨hmk1, hmk2, hmk3⟩ := HMK.out
  have hmm : ∀ W, (Instr.makeMap 63 none).run Tryd.prog W = .ok (.map (some W.heap.size)) (W.alloc (.map #[] 0)) := fun W => by
    simp [Instr.makeMap]
  go_wp2_with fail
  have hs1 : Below (p + 1) w1 (w1.alloc (.cells (zeros 100 (.int .u8 0)) 5)) := (Below.refl _ _).alloc HLT.out _
  have hD1 : DSt B p A n c 0 (.slice (some ⟨w1.heap.size, 0, none⟩) 0 100) [] (w1.alloc (.cells (zeros 100 (.int .u8 0)) 5)) :=
    ⟨Arr.below HSRC.out hs1 (Nat.lt_succ_self p), HR1.out.alloc _, own_make0 w1 5 (.int .u8 0) 100 (p + 1) HLT.out (by unfold maxLen; omega), HFAR.out⟩
  obtain ⟨W1, hW1⟩ : ∃ W1, W1 = w1.alloc (.cells (zeros 100 (.int .u8 0)) 5) := ⟨_, rfl⟩
  have hz1 : W1.heap.size = w1.heap.size + 1 := by rw [hW1]; simp
  have hBW1 : Below p w W1 := HB1.out.trans (by rw [hW1]; exact hs1.mono (Nat.le_succ p))
  rw [← hW1] at hD1 ⊢
  obtain ⟨W2, hW2⟩ : ∃ W2, W2 = W1.alloc (.cells (zeros 0 (.int .u8 0)) 5) := ⟨_, rfl⟩
  have hz2 : W2.heap.size = W1.heap.size + 1 := by rw [hW2]; simp
  have hb2 : Below W1.heap.size W1 W2 := by rw [hW2]; exact (Below.refl _ _).alloc (Nat.le_refl _) _
  rw [← hW2]
  obtain ⟨W3, hW3⟩ : ∃ W3, W3 = W2.alloc (.cells (zeros 1 (.slice none 0 0)) 27) := ⟨_, rfl⟩
  have hz3 : W3.heap.size = W2.heap.size + 1 := by rw [hW3]; simp
  have hb3 : Below W2.heap.size W2 W3 := by rw [hW3]; exact (Below.refl _ _).alloc (Nat.le_refl _) _
  rw [← hW3]
  obtain ⟨W4, hW4⟩ : ∃ W4, W4 = W3.alloc (.map #[] 0) := ⟨_, rfl⟩
  have hEM : Emp W4 W3.heap.size := by rw [hW4]; exact heap_alloc_new W3 _
  have hb4 : Below W3.heap.size W3 W4 := by rw [hW4]; exact (Below.refl _ _).alloc (Nat.le_refl _) _
  rw [← hW4]
  have hbb : Below W1.heap.size W1 W4 := (hb2.trans (hb3.mono (by omega))).trans (hb4.mono (by omega))
  obtain ⟨v0, hv0⟩ : ∃ v0 : Value, v0 = .slice (some ⟨w1.heap.size, 0, none⟩) 0 100 := ⟨_, rfl⟩
  rw [← hv0] at hD1 ⊢
  have HD4 : Hid (DSt B p A n c 0 v0 [] W4) := Lib.hid (hD1.grow (hbb.mono (by have := hD1.plt; omega)) (own_below hD1.own hbb))
  have HV0 : Hid (∀ k, v0.ownBlock = some k → w.heap.size ≤ k ∧ k ≠ W3.heap.size) := Lib.hid (fun k hk => by
    rw [hv0] at hk
    simp only [Value.ownBlock, Option.some.injEq] at hk
    have := HLT.out; have := HP.out; omega)
  have HB4 : Hid (Below p w W4) := Lib.hid (hBW1.trans (hbb.mono (by have := hD1.plt; omega)))
  have HPM : Hid (p < W3.heap.size) := Lib.hid (by have := hD1.plt; omega)
  have hmb : W3.heap.size = w1.heap.size + 3 := by omega
  have hsg : w1.heap.size + 1 + 1 = w1.heap.size + 2 := rfl
  obtain ⟨mb, hmbe⟩ : ∃ mb, mb = W3.heap.size := ⟨_, rfl⟩
  rw [← hmbe] at hEM HV0 HPM
  have HEM := Lib.hid hEM
  have e9 : w1.heap.size + 1 + 1 + 1 = mb := by omega
  rw [e9]
  obtain ⟨g7, hg7⟩ : ∃ g7, g7 = w1.heap.size + 1 + 1 := ⟨_, rfl⟩
  rw [← hg7]
  obtain ⟨g6, hg6⟩ : ∃ g6, g6 = w1.heap.size + 1 := ⟨_, rfl⟩
  rw [← hg6]
  have HST4 := Lib.hid (Stay.refl W4 p v0)
  have hmbl := hEM.lt
  have HMB := Lib.hid hEM.lt
  clear e9 hg6 hg7 hmbl hmbe hEM hmb hsg hbb hb4 hW4 hb3 hz3 hW3 hb2 hz2 hW2 hBW1 hz1 hW1 hv0 hD1 hs1 hmm hmk1 hmk2 hmk3 HMK HSRC HLT HB1 HR1
  go_loopg [5, 6, 7, 8, 11] (n + 1) (fun gk x t s md ec wr => ∃ (mode q : Nat) (R T : List Nat), t = .slice (some ⟨g6, 0, none⟩) 0 0 ∧ s = .slice (some ⟨g7, 0, none⟩) 0 1 ∧ md = .int .i64 mode ∧ ec = .bool false ∧ (mode ≠ 0 → n < gk + q) ∧ Hid (DSt B p A n c q x R wr) ∧ Hid (Stay W4 wr p v0 x) ∧ Hid (R ++ T = L) ∧ Hid (Rest B mode q T))
  case atStart => exact ⟨1, 0, [], L, rfl, rfl, rfl, rfl, fun _ => by omega, HD4, HST4, Lib.hid rfl, HTT⟩
  case round =>
    obtain ⟨mode, q, R, T, rfl, rfl, rfl, rfl, hgk, HD, HST, HRT, HTT⟩ := hrel
    clear HST4
    obtain ⟨wi, hwi⟩ : ∃ wi, wi = wr := ⟨_, rfl⟩
    rw [← hwi] at HD HST ⊢
    clear hwi
    by_cases hm0 : mode = 0
    · subst hm0
      have hT : T = [] := by
        rcases HTT.out with ⟨_, h⟩ | ⟨h, _⟩ | ⟨h, _⟩
        · exact h
        · cases h
        · cases h
      subst hT
      obtain rfl : R = L := by have := HRT.out; rwa [List.append_nil] at this
      have HEM1 : Hid (Emp wi mb) := Lib.hid (HEM.out.mod HST.out.1 (fun h => by
        rcases h with h | h
        · have := HPM.out; omega
        · exact (HV0.out _ h).2 rfl))
      have HBW : Hid (Below p w wi) := Lib.hid (HB4.out.trans (HST.out.1.below (Nat.le_of_lt HD4.out.plt) (fun k h => by
        rcases h with h | h
        · omega
        · have := (HV0.out _ h).1; have := HP.out; omega)))
      clear HD4 HB4 HEM HST hgk HRT HTT
      have HC := Lib.hid (fun i W hW => contains mb i W hW)
      go_wp2_with fail
      refine (HC.out 0 wi HEM1.out).mono ?_
      rintro e wa ⟨rfl, ha⟩
      have HEMa := Lib.hid (HEM1.out.mod (Mod.of_below (S := fun _ => False) ha) (fun h => h))
      have HAa := Lib.hid ha
      clear ha
      go_wp2_with fail
      refine (HC.out 4 wa HEMa.out).mono ?_
      rintro e wb ⟨rfl, hb⟩
      have HEMb := Lib.hid (HEMa.out.mod (Mod.of_below (S := fun _ => False) hb) (fun h => h))
      have HAb := Lib.hid (HAa.out.trans (hb.mono HAa.out.size))
      clear hb HEMa HAa
      go_wp2_with fail
      refine (HC.out 1 wb HEMb.out).mono ?_
      rintro e wc ⟨rfl, hc⟩
      have HEMc := Lib.hid (HEMb.out.mod (Mod.of_below (S := fun _ => False) hc) (fun h => h))
      have HAc := Lib.hid (HAb.out.trans (hc.mono HAb.out.size))
      clear hc HEMb HAb
      go_wp2_with fail
      refine (HC.out 5 wc HEMc.out).mono ?_
      rintro e wd ⟨rfl, hd⟩
      have HAd := Lib.hid (HAc.out.trans (hd.mono HAc.out.size))
      clear hd HEMc HAc
      have HRD : Hid (Rd wd A n (fun j => .int .u8 (nth B j : Nat))) := Lib.hid (HD.out.rd.below HAd.out)
      obtain ⟨A5, c5, rfl, hconv⟩ := conv_ownB (own_below HD.out.own HAd.out) HL8.out
      have HRES := Lib.hid (resNewS A n c hnl (bs R) wd)
      have HBD : Hid (Below p w wd) := Lib.hid (HBW.out.trans (HAd.out.mono (Nat.le_of_lt HD.out.plt)))
      clear HD HBW HAd HC HEM1
      go_wp2_with fail
      refine HRES.out.mono ?_
      rintro e we ⟨p', nb, rfl, HDR, HBE⟩
      have HRE : Hid (Rd we A n (fun j => .int .u8 (nth B j : Nat))) := Lib.hid (HRD.out.below HBE.out)
      have HBF : Hid (Below w.heap.size w we) := Lib.hid (by rw [← HP.out]; exact HBD.out.trans (HBE.out.mono (by have := HBD.out.size; have := HP.out; omega)))
      clear HRES HRD HBD hconv
      go_wp2_with fail
      go_ret2
      exact ⟨p', nb, rfl, HDR, HRE, HBF⟩
    · have hqn : q < n := by
        have := HN.out
        rcases HTT.out with ⟨h, _⟩ | ⟨_, h | ⟨_, h, _⟩⟩ | ⟨_, h⟩
        · exact absurd h hm0
        · have := h.lt; omega
        · omega
        · have := h.lt; omega
      obtain ⟨m, hm⟩ : ∃ m, m = 8 * (n - q) := ⟨_, rfl⟩
      have HAV := Lib.hid (av8 p A n c q m (by omega) hnl wi HD.out.src)
      have hmp : (0 : Int) < (m : Int) := by omega
      have hgk2 : n < gk + q := hgk hm0
      by_cases hm1 : mode = 1
      · subst hm1
        have HSEG := Lib.hid (fun k => asciiSeg L B HLL.out p A n c q HN.out hnl HBB.out u5 R T HRT.out HTT.out (.slice (some ⟨g6, 0, none⟩) 0 0) (.map (some mb)) (wi.drewN k) (HD.out.drewN k))
        clear hm hm0 hgk
        go_wp2_with fail
        refine HAV.out.mono ?_
        rintro e wa ⟨rfl, k1, rfl⟩
        go_wp2_with fail
        refine (HSEG.out k1).mono ?_
        rintro e wb ⟨mode', q', v', R', T', rfl, HD', HST', HRT', HTT', HM5, HQ'⟩
        have HST2 := Lib.hid ((HST.out.drewN k1).trans HST'.out)
        clear HSEG HAV HD HST HST' HRT HTT
        go_wp2_with fail
        go_roundg (gk - 1)
        case measure => omega
        case rel => exact ⟨mode', q', R', T', rfl, rfl, rfl, rfl, fun h => by have := HQ'.out; omega, HD', HST2, HRT', HTT'⟩
      · have hm4 : mode = 4 ∧ X12 B q T := by
          rcases HTT.out with ⟨h, _⟩ | ⟨h, _⟩ | h
          · exact absurd h hm0
          · exact absurd h hm1
          · exact h
        obtain ⟨rfl, hx⟩ := hm4
        have HSEG := Lib.hid (fun k => x12Seg L B HLL.out p A n c q HN.out hnl HBB.out u5 R T HRT.out hx (wi.drewN k) (HD.out.drewN k))
        clear hm hm0 hm1 hgk hx
        go_wp2_with fail
        refine HAV.out.mono ?_
        rintro e wa ⟨rfl, k1, rfl⟩
        go_wp2_with fail
        refine (HSEG.out k1).mono ?_
        rintro e wb ⟨q', v', R', T', rfl, HD', HST', HRT', HTT', HQ'⟩
        have HST2 := Lib.hid ((HST.out.drewN k1).trans HST'.out)
        clear HSEG HAV HD HST HST' HRT HTT
        go_wp2_with fail
        go_roundg (gk - 1)
        case measure => omega
        case rel => exact ⟨1, q', R', T', rfl, rfl, rfl, rfl, fun h => by have := HQ'.out; omega, HD', HST2, HRT', Lib.hid (.inr (.inl ⟨rfl, .inl HTT'.out⟩))⟩
end Go.Proofs.YthnepajhiialpaaDoor
