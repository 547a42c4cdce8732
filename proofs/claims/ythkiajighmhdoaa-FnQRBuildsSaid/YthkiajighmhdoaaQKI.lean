/-
  The bits of the format and of the version as the encoder makes them, walked. No condition beyond the bounds that each theorem states.
-/
import Derived.Test.YthkiajighmhdoaaQKH
import Derived.Test.YthkiajighmhdoaaQKS
namespace Go.Proofs.Ythkiajighmhdoaa
open Go.RowKit Go.Qz Go.Qz.QK Go.Qz.QW Go.Qz.QB
set_option linter.unusedVariables false

def NewEPost (w : World) (e : Ending) (w' : World) : Prop := ∃ p g, e = .returned (.pointer (some ⟨p, 0, none⟩)) ∧ Hid (BitsZ w' p g 0 32 (fun _ => false)) ∧ Hid (Below w.heap.size w w') ∧ Hid (w.heap.size ≤ p ∧ w.heap.size ≤ g ∧ p < w'.heap.size ∧ g < w'.heap.size)
set_option maxRecDepth 100000 in
theorem newEmpty (w : World) : Calls Try.prog 90 #[] w (NewEPost w) := by
  go_enter Try.func90, Try.ntmps90
  go_wp2_with fail
  refine (make_words 1 1 1 rfl (by omega) rfl _).mono ?_
  rintro e w' ⟨rfl, rfl⟩
  have HB := BA.made w 1 0
  go_wp2_with fail
  go_ret
  exact ⟨_, _, rfl, Lib.hid ⟨_, HB, rfl, fun i => bit_zeros 1 i⟩, Lib.hid (((Below.refl _ _).alloc (Nat.le_refl _) _).alloc (by simp) _), Lib.hid ⟨Nat.le_succ _, Nat.le_refl _, by simp, by simp; omega⟩⟩
theorem bit_one (x i : Nat) : bit [x] i = (decide (i < 32) && x.testBit i) := by
  unfold bit nth
  by_cases h : i < 32
  · rw [show i / 32 = 0 by omega, show i % 32 = i by omega]; simp [h]
  · have : ([x] : List Nat).getD (i / 32) 0 = 0 := by
      rw [List.getD_eq_getElem?_getD, List.getElem?_eq_none (by simp; omega)]; rfl
    rw [this]; simp [h]
def XorPost (p g n : Nat) (z : Nat → Bool) (w : World) (e : Ending) (w' : World) : Prop := e = .returned .nilIface ∧ Hid (BitsZ w' p g n 32 z) ∧ Hid (Mod (· = g) w w')
set_option maxRecDepth 100000 in
set_option maxHeartbeats 3200000 in
theorem baXor (p g q h n : Nat) (z y : Nat → Bool) (hqg : q ≠ g) (hhg : h ≠ g) (hn : n < 1000) (w : World) (h1 : BitsZ w p g n 32 z) (h2 : BitsZ w q h n 32 y) :
    Calls Try.prog 125 #[.pointer (some ⟨p, 0, none⟩), .pointer (some ⟨q, 0, none⟩)] w (XorPost p g n (fun i => z i != y i) w) := by
  obtain ⟨ws, hb1, hl1, hz1⟩ := h1
  obtain ⟨vs, hb2, hl2, hz2⟩ := h2
  match ws, hl1, vs, hl2 with
  | [a], _, [b], _ =>
    have s1 := hb1.size
    have s2 := hb2.size
    have H1 := Lib.hid hb1
    have H2 := Lib.hid hb2
    have ha := hb1.lt a (by simp)
    have hb := hb2.lt b (by simp)
    have hx := u32_xor a b ha hb
    obtain ⟨x, hxe⟩ : ∃ x, x = a ^^^ b := ⟨_, rfl⟩
    rw [← hxe] at hx
    have hxl : x < 4294967296 := by rw [hxe]; exact Nat.xor_lt_two_pow (n := 32) ha hb
    have HZ : Hid (∀ i, bit [x] i = (z i != y i)) := Lib.hid (fun i => by
      rw [← hz1 i, ← hz2 i, bit_one, bit_one, bit_one, hxe, Nat.testBit_xor]
      cases decide (i < 32) <;> cases a.testBit i <;> cases b.testBit i <;> rfl)
    have w1 := hb1.bits
    have w2 := hb2.bits
    have w3 : w.cell? ⟨g, 0, none⟩ = some (.int .u32 (a : Nat)) := hb1.word (j := 0) (by simp)
    have w4 : w.cell? ⟨h, 0, none⟩ = some (.int .u32 (b : Nat)) := hb2.word (j := 0) (by simp)
    have hfr := hb1.free 0
    simp only [List.length_singleton] at w1 w2
    have HN := Lib.hid (And.intro hqg hhg)
    have HA := Lib.hid (hb1.set_ 0 x hxl)
    clear hb1 hb2 hz1 hz2 hxe hl1 hl2 hqg hhg
    go_enter Try.func125, Try.ntmps125
    go_wp2_with fail
    go_quiet (fail)
    all_goals
      clear s1 s2 w1 w2 w3 w4 hfr HA
      go_wp2_with fail
      go_loopw [5] (fun i wr => ∃ t : Nat, t ≤ 1 ∧ i = .int .i64 t ∧ Hid (BA wr p g [if t = 0 then a else x] n) ∧ Hid (BA wr q h [b] n) ∧ Hid (Mod (· = g) w wr)) (fun i _ => 1 - (intOf i).toNat)
      case atStart => exact ⟨0, by omega, rfl, Lib.hid (H1.out.keep rfl rfl), Lib.hid (H2.out.keep rfl rfl), Lib.hid ((Mod.refl _).drewN _)⟩
      case round =>
        obtain ⟨t, ht, rfl, HA, HB, HM⟩ := hrel
        obtain ⟨wi, hwi⟩ : ∃ wi, wi = wr := ⟨_, rfl⟩
        rw [← hwi] at HA HB HM ⊢
        clear hwi
        have w1 := HA.out.bits
        have w2 := HB.out.bits
        simp only [List.length_singleton] at w1 w2
        by_cases ht0 : t = 0
        · subst ht0
          have HA : Hid (BA wi p g [a] n) := HA
          have w3 : wi.cell? ⟨g, 0, none⟩ = some (.int .u32 (a : Nat)) := HA.out.word (j := 0) (by simp)
          have w4 : wi.cell? ⟨h, 0, none⟩ = some (.int .u32 (b : Nat)) := HB.out.word (j := 0) (by simp)
          have hfr := HA.out.free 0
          have HA2 := Lib.hid (HA.out.set_ 0 x hxl)
          have hpg := HA.out.ne
          have HB2 : Hid (BA (wi.setCell ⟨g, 0, none⟩ (.int .u32 x)) q h [b] n) := Lib.hid (HB.out.keep (Below.heap_setCell _ _ _ _ HN.out.1) (Below.heap_setCell _ _ _ _ HN.out.2))
          have HM2 := Lib.hid (HM.out.setCell (p := ⟨g, 0, none⟩) (.inl rfl) (.int .u32 x))
          clear HA HB HM hpg
          go_wp2_with fail
          go_region_law (fail)
          all_goals
            go_wp2_with fail
            go_roundw
            case rel => exact ⟨1, by omega, by go_num, Lib.hid (HA2.out.keep rfl rfl), Lib.hid (HB2.out.keep rfl rfl), Lib.hid (HM2.out.drewN _)⟩
            case measure => simp [intOf]
        · obtain rfl : t = 1 := by omega
          have HA : Hid (BA wi p g [x] n) := HA
          go_wp2_with fail
          go_ret
          exact ⟨rfl, Lib.hid ⟨_, HA.out, rfl, HZ.out⟩, HM⟩
theorem zAdd_out {n k v t : Nat} {z : Nat → Bool} (i : Nat) (h : n + t ≤ i) : zAdd n k v t z i = false := by
  unfold zAdd
  rw [if_neg (by omega)]; simp; omega
theorem zty_all : ((List.range 32).all fun d => (List.range 15).all fun i => (zAdd 5 10 (rrest 1335 11 8 (d * 1024)) 10 (zAdd 0 5 d 5 fun _ => false) i != zAdd 0 15 21522 15 (fun _ => false) i) == (fb d).testBit (14 - i)) = true := by decide +kernel
theorem zver_all : ((List.range 41).all fun v => (List.range 18).all fun i => zAdd 6 12 (rrest 7973 13 6 (v * 4096)) 12 (zAdd 0 6 v 6 fun _ => false) i == (vb v).testBit (17 - i)) = true := by decide +kernel
theorem zty (d i : Nat) (hd : d < 32) (hi : i < 15) : (zAdd 5 10 (rrest 1335 11 8 (d * 1024)) 10 (zAdd 0 5 d 5 fun _ => false) i != zAdd 0 15 21522 15 (fun _ => false) i) = (fb d).testBit (14 - i) := by
  have h := zty_all
  rw [List.all_eq_true] at h
  have h := h d (by simpa using hd)
  rw [List.all_eq_true] at h
  simpa using h i (by simpa using hi)
theorem zver (v i : Nat) (hv : v < 41) (hi : i < 18) : zAdd 6 12 (rrest 7973 13 6 (v * 4096)) 12 (zAdd 0 6 v 6 fun _ => false) i = (vb v).testBit (17 - i) := by
  have h := zver_all
  rw [List.all_eq_true] at h
  have h := h v (by simpa using hv)
  rw [List.all_eq_true] at h
  simpa using h i (by simpa using hi)
theorem bchTy (d : Nat) (hd : d < 32) (w : World) : Calls Try.prog 124 #[.int .i64 d, .int .i64 1335] w fun e w' => e = .returned (.tuple #[.int .i64 (rrest 1335 11 8 (d * 1024) : Nat), .nilIface]) ∧ w = w' := by
  have h := okB_ty
  rw [List.all_eq_true] at h
  have h := h d (by simpa using hd)
  rw [Bool.and_eq_true, decide_eq_true_eq] at h
  have hb := bch d 1335 11 0 (by omega) (by omega) (by omega) (by omega) (by omega) (by decide) h.1 w
  rw [show (11 - 1 : Nat) = 10 from rfl, show (2 : Nat) ^ 10 = 1024 from rfl, h.2] at hb
  exact hb
theorem bchVer (v : Nat) (hv : v < 41) (w : World) : Calls Try.prog 124 #[.int .i64 v, .int .i64 7973] w fun e w' => e = .returned (.tuple #[.int .i64 (rrest 7973 13 6 (v * 4096) : Nat), .nilIface]) ∧ w = w' := by
  have h := okB_ver
  rw [List.all_eq_true] at h
  have h := h v (by simpa using hv)
  rw [Bool.and_eq_true, decide_eq_true_eq] at h
  have hb := bch v 7973 13 0 (by omega) (by omega) (by omega) (by omega) (by omega) (by decide) h.1 w
  rw [show (13 - 1 : Nat) = 12 from rfl, show (2 : Nat) ^ 12 = 4096 from rfl, h.2] at hb
  exact hb
theorem rr_lt : ((List.range 64).all fun v => decide (rrest 7973 13 6 (v * 4096) < 4096) && decide (rrest 1335 11 8 (v % 32 * 1024) < 1024)) = true := by decide +kernel
/-- What the making of bits leaves. -/
def BitsPost (p g n : Nat) (Z : Nat → Bool) (w : World) (e : Ending) (w' : World) : Prop := e = .returned .nilIface ∧ ∃ g' z, Hid (BitsZ w' p g' n 32 z) ∧ Hid (∀ i, i < n → z i = Z (n - 1 - i)) ∧ Hid (Mod (fun x => x = p ∨ x = g) w w') ∧ Hid (g' = g ∨ w.heap.size ≤ g')
set_option maxRecDepth 100000 in
theorem validMask (m : Nat) (hm : m < 8) (w : World) : Calls Try.prog 121 #[.int .i64 m] w fun e w' => e = .returned (.bool true) ∧ w = w' := by
  have g1 : (0 : Int) ≤ (m : Int) := by omega
  have g2 : (m : Int) < 8 := by omega
  go_enter Try.func121, Try.ntmps121
  go_wp2_with fail
  go_ret
  exact ⟨rfl, rfl⟩
set_option maxRecDepth 100000 in
theorem lvBits (l : Int) (w : World) : Calls Try.prog 122 #[.int .i64 l] w fun e w' => e = .returned (.int .i64 l) ∧ w = w' := by
  go_enter Try.func122, Try.ntmps122
  go_wp2_with fail
  go_ret
  exact ⟨rfl, rfl⟩
set_option maxRecDepth 100000 in
set_option maxHeartbeats 3200000 in
theorem typeBits (l m p g : Nat) (hl : l < 4) (hm : m < 8) (w : World) (h : BitsZ w p g 0 32 (fun _ => false)) :
    Calls Try.prog 91 #[.int .i64 l, .int .i64 m, .pointer (some ⟨p, 0, none⟩)] w (BitsPost p g 15 (fun i => (fb (l * 8 + m)).testBit i) w) := by
  have h38 := or38 ⟨l, hl⟩ ⟨m, hm⟩
  simp only at h38
  have hor := i64_or (l * 8) m (by omega) (by omega)
  rw [h38] at hor
  obtain ⟨d, hd⟩ : ∃ d, d = l * 8 + m := ⟨_, rfl⟩
  rw [← hd] at hor ⊢
  have hd32 : d < 32 := by omega
  obtain ⟨l8, hl8⟩ : ∃ x, x = l * 8 := ⟨_, rfl⟩
  have e8 : (l : Int) * 8 = (l8 : Int) := by omega
  rw [← hl8] at hor
  have hl8b : l8 < 32 := by omega
  have hne := neqW
  have HVM := Lib.hid (validMask m hm w)
  have HLB := Lib.hid (lvBits l w)
  have HA1 := Lib.hid (appendCap p g 0 5 d 32 (fun _ => false) (by omega) (by omega) (by omega) (by omega) (fun _ _ => rfl) w h)
  have HLT : Hid (p < w.heap.size ∧ g < w.heap.size) := Lib.hid (by obtain ⟨ws, hb, _⟩ := h; exact ⟨hb.plt, hb.glt⟩)
  have hr := rr_lt
  rw [List.all_eq_true] at hr
  have hr := hr d (by simp; omega)
  rw [Bool.and_eq_true, decide_eq_true_eq, decide_eq_true_eq, Nat.mod_eq_of_lt hd32] at hr
  have HZT := Lib.hid (fun i (hi : i < 15) => zty d i hd32 hi)
  have HBC := Lib.hid (fun W => bchTy d hd32 W)
  obtain ⟨r, hre⟩ : ∃ r, r = rrest 1335 11 8 (d * 1024) := ⟨_, rfl⟩
  rw [← hre] at HZT HBC hr
  have hr1024 : r < 1024 := hr.2
  clear hd hl8 h38 h hr hre
  go_enter Try.func91, Try.ntmps91
  go_wp2_with fail
  refine HVM.out.mono ?_
  rintro e w1 ⟨rfl, rfl⟩
  go_wp2_with fail
  refine HLB.out.mono ?_
  rintro e w1 ⟨rfl, rfl⟩
  go_wp2_with fail
  refine (callsAs HA1.out rfl).mono ?_
  rintro e w1 ⟨rfl, g1, hz1, hm1, hg1⟩
  have H1 := Lib.hid hz1
  have M1 := Lib.hid hm1
  have G1 := Lib.hid hg1
  have HA2 := Lib.hid (appendCap p g1 5 10 r 32 _ (by omega) (by omega) (by omega) (by omega) (fun i hi => zAdd_out i hi) w1 (by simpa only [Nat.zero_add] using H1.out))
  clear hz1 hm1 hg1 HA1
  go_wp2_with fail
  refine (HBC.out _).mono ?_
  rintro e w2 ⟨rfl, rfl⟩
  go_wp2_with fail
  refine (callsAs HA2.out rfl).mono ?_
  rintro e w2 ⟨rfl, g2, hz2, hm2, hg2⟩
  have H2 := Lib.hid hz2
  have M2 : Hid (Mod (fun x => x = p ∨ x = g) w w2) := Lib.hid (M1.out.then hm2 (fun i hi hh => by
    rcases hh with hh | hh
    · exact .inl hh
    · rcases G1.out with h | h
      · exact .inr (by rw [hh, h])
      · omega))
  have G2 : Hid (g2 = g ∨ w.heap.size ≤ g2) := Lib.hid (by
    rcases hg2 with h | h
    · rw [h]; exact G1.out
    · exact .inr (Nat.le_trans M1.out.size h))
  clear hz2 hm2 hg2 HA2 H1 M1
  go_wp2_with fail
  refine (newEmpty w2).mono ?_
  rintro e w3 ⟨q, k, rfl, HE, HBE, HQ⟩
  have hlt2 : p < w2.heap.size ∧ g2 < w2.heap.size := by obtain ⟨ws, hb, _⟩ := H2.out; exact ⟨hb.plt, hb.glt⟩
  have H3 : Hid (BitsZ w3 p g2 15 32 (zAdd 5 10 r 10 (zAdd 0 5 d 5 fun _ => false))) := Lib.hid (by
    obtain ⟨ws, hb, hl, hz⟩ := H2.out
    exact ⟨ws, hb.below HBE.out hb.plt hb.glt, hl, hz⟩)
  have M3 : Hid (Mod (fun x => x = p ∨ x = g) w w3) := Lib.hid (M2.out.then (Mod.of_below (S := fun _ => False) HBE.out) (fun i _ h => False.elim h))
  have HA3 := Lib.hid (appendCap q k 0 15 21522 32 (fun _ => false) (by omega) (by omega) (by omega) (by omega) (fun _ _ => rfl) w3 HE.out)
  have HD : Hid (p ≠ q ∧ p ≠ k ∧ g2 ≠ q ∧ g2 ≠ k ∧ w2.heap.size ≤ q ∧ w2.heap.size ≤ k ∧ k < w3.heap.size ∧ g2 < w3.heap.size) := Lib.hid (by have := HQ.out; have := HBE.out.size; omega)
  clear HE HBE HQ H2 hlt2
  go_wp2_with fail
  refine (callsAs HA3.out rfl).mono ?_
  rintro e w4 ⟨rfl, k1, hz4, hm4, hk4⟩
  have H4 : Hid (BitsZ w4 p g2 15 32 (zAdd 5 10 r 10 (zAdd 0 5 d 5 fun _ => false))) := Lib.hid (by
    obtain ⟨ws, hb, hl, hz⟩ := H3.out
    exact ⟨ws, hb.keep (hm4.block p hb.plt (fun hh => by have := HD.out; rcases hh with hh | hh <;> omega)) (hm4.block g2 hb.glt (fun hh => by have := HD.out; rcases hh with hh | hh <;> omega)), hl, hz⟩)
  have M4 : Hid (Mod (fun x => x = p ∨ x = g) w w4) := Lib.hid (M3.out.then hm4 (fun i hi hh => by have := HD.out; have := M2.out.size; rcases hh with hh | hh <;> omega))
  have HX := Lib.hid (baXor p g2 q k1 15 _ _ (by have := HD.out; omega) (by have := HD.out; rcases hk4 with h | h <;> omega) (by omega) w4 H4.out (by simpa only [Nat.zero_add] using hz4))
  clear hz4 hm4 hk4 HA3 H3 M3 H4
  go_wp2_with fail
  refine HX.out.mono ?_
  rintro e w5 ⟨rfl, H5, M5'⟩
  have M5 : Hid (Mod (fun x => x = p ∨ x = g) w w5) := Lib.hid (M4.out.then M5'.out (fun i hi hh => by
    have hh : i = g2 := hh
    rcases G2.out with h | h
    · exact .inr (by omega)
    · omega))
  have HS : Hid (Calls Try.prog 92 #[.pointer (some ⟨p, 0, none⟩)] w5 fun e w' => e = .returned (.int .i64 15) ∧ w5 = w') := Lib.hid (by
    obtain ⟨ws, hb, _⟩ := H5.out
    exact ba_size p g2 15 ws w5 hb)
  clear HX M4 M5'
  go_wp2_with fail
  refine HS.out.mono ?_
  rintro e w6 ⟨rfl, rfl⟩
  go_wp2_with fail
  go_ret
  exact ⟨rfl, g2, _, H5, Lib.hid (fun i hi => by rw [HZT.out i hi]), M5, G2⟩
set_option maxRecDepth 100000 in
set_option maxHeartbeats 3200000 in
theorem verBits (v pv p g : Nat) (hv1 : 1 ≤ v) (hv : v ≤ 40) (hpv : pv ≠ p ∧ pv ≠ g) (w : World) (hc : w.cell? ⟨pv, 0, none⟩ = some (.int .i64 v)) (h : BitsZ w p g 0 32 (fun _ => false)) :
    Calls Try.prog 98 #[.pointer (some ⟨pv, 0, none⟩), .pointer (some ⟨p, 0, none⟩)] w (BitsPost p g 18 (fun i => (vb v).testBit i) w) := by
  have HV := Lib.hid (verNum pv v w hc)
  have HC := Lib.hid hc
  have HPV := Lib.hid hpv
  have HA1 := Lib.hid (appendCap p g 0 6 v 32 (fun _ => false) (by omega) (by omega) (by omega) (by omega) (fun _ _ => rfl) w h)
  have hr := rr_lt
  rw [List.all_eq_true] at hr
  have hr := hr v (by simp; omega)
  rw [Bool.and_eq_true, decide_eq_true_eq] at hr
  have HZT := Lib.hid (fun i (hi : i < 18) => zver v i (by omega) hi)
  have HBC := Lib.hid (fun W => bchVer v (by omega) W)
  obtain ⟨r, hre⟩ : ∃ r, r = rrest 7973 13 6 (v * 4096) := ⟨_, rfl⟩
  rw [← hre] at HZT HBC hr
  have hr4096 : r < 4096 := hr.1
  clear h hr hre hc hpv
  go_enter Try.func98, Try.ntmps98
  go_wp2_with fail
  refine HV.out.mono ?_
  rintro e w1 ⟨rfl, rfl⟩
  go_wp2_with fail
  refine (callsAs HA1.out rfl).mono ?_
  rintro e w1 ⟨rfl, g1, hz1, hm1, hg1⟩
  have H1 := Lib.hid hz1
  have M1 := Lib.hid hm1
  have G1 := Lib.hid hg1
  have HV1 := Lib.hid (verNum pv v w1 (mod_cell hm1 (fun hh => by have := HPV.out; rcases hh with hh | hh <;> omega) HC.out))
  have HA2 := Lib.hid (appendCap p g1 6 12 r 32 _ (by omega) (by omega) (by omega) (by omega) (fun i hi => zAdd_out i hi) w1 (by simpa only [Nat.zero_add] using H1.out))
  clear hz1 hm1 hg1 HA1 HV
  go_wp2_with fail
  refine HV1.out.mono ?_
  rintro e w2 ⟨rfl, rfl⟩
  go_wp2_with fail
  refine (HBC.out _).mono ?_
  rintro e w2 ⟨rfl, rfl⟩
  go_wp2_with fail
  refine (callsAs HA2.out rfl).mono ?_
  rintro e w2 ⟨rfl, g2, hz2, hm2, hg2⟩
  have H2 := Lib.hid hz2
  have M2 : Hid (Mod (fun x => x = p ∨ x = g) w w2) := Lib.hid (M1.out.then hm2 (fun i hi hh => by
    rcases hh with hh | hh
    · exact .inl hh
    · rcases G1.out with h | h
      · exact .inr (by rw [hh, h])
      · omega))
  have G2 : Hid (g2 = g ∨ w.heap.size ≤ g2) := Lib.hid (by
    rcases hg2 with h | h
    · rw [h]; exact G1.out
    · exact .inr (Nat.le_trans M1.out.size h))
  have HS : Hid (Calls Try.prog 92 #[.pointer (some ⟨p, 0, none⟩)] w2 fun e w' => e = .returned (.int .i64 18) ∧ w2 = w') := Lib.hid (by
    obtain ⟨ws, hb, _⟩ := H2.out
    exact ba_size p g2 18 ws w2 hb)
  clear hz2 hm2 hg2 HA2 H1 M1
  go_wp2_with fail
  refine HS.out.mono ?_
  rintro e w6 ⟨rfl, rfl⟩
  go_wp2_with fail
  go_ret
  exact ⟨rfl, g2, _, H2, Lib.hid (fun i hi => by rw [HZT.out i hi]), M2, G2⟩
end Go.Proofs.Ythkiajighmhdoaa
