/-
  QRFormatBits, newFormatInformation, doDecodeFormatInformation and the doors, walked. No condition beyond the bounds that each theorem states.
-/
import Derived.Test.YtpeipolknphjhaaQFT
import Derived.OwnWalk
namespace Go.Proofs.Ytpeipolknphjhaa
open Go.RowKit Go.Qz Go.Qz.PC Go.Qz.QB
set_option linter.unusedVariables false

theorem pc_le : ∀ n y, pc n y ≤ n
  | 0, y => by simp [pc]
  | n + 1, y => by have := pc_le n (y / 2); simp only [pc]; omega
theorem or38 : ∀ l : Fin 4, ∀ m : Fin 8, l.val * 8 ||| m.val = l.val * 8 + m.val := by decide

set_option maxRecDepth 100000 in
set_option maxHeartbeats 1600000 in
theorem qrFormatBits (l m : Nat) (hl : l < 4) (hm : m < 8) (w : World) :
    Calls Try.prog 8 #[.int .i64 l, .int .i64 m] w fun e w' => e = .returned (.int .i64 (fb (l * 8 + m) : Nat)) ∧ w = w' := by
  have h1 := or38 ⟨l, hl⟩ ⟨m, hm⟩
  simp only at h1
  have hor1 := i64_or (l * 8) m (by omega) (by omega)
  rw [h1] at hor1
  obtain ⟨d, hd⟩ : ∃ d, d = l * 8 + m := ⟨_, rfl⟩
  rw [← hd] at hor1 ⊢
  have hd32 : d < 32 := by omega
  have hfl := fb_lt ⟨d, hd32⟩
  simp only at hfl
  obtain ⟨l8, hl8⟩ : ∃ x, x = l * 8 := ⟨_, rfl⟩
  have e8 : (l : Int) * 8 = (l8 : Int) := by omega
  rw [← hl8] at hor1
  have hl8b : l8 < 32 := by omega
  clear hl8 hd h1
  obtain ⟨x, hx⟩ : ∃ x, x = d * 1024 := ⟨_, rfl⟩
  have ex : (d : Int) * 1024 = (x : Int) := by omega
  have HR := Lib.hid (qrRest11 x (by omega) w)
  have HV : Hid (fb d = (x ||| rrest 1335 11 8 x) ^^^ 21522) := Lib.hid (by unfold fb; rw [← hx])
  rw [← hx] at hfl
  obtain ⟨r, hrd⟩ : ∃ r, r = rrest 1335 11 8 x := ⟨_, rfl⟩
  rw [← hrd] at HR hfl HV
  have hxl : x < 32768 := by omega
  have hor := i64_or x r (by omega) (by omega)
  have hol : x ||| r < 2 ^ 18 := Nat.or_lt_two_pow (by omega) (by omega)
  generalize x ||| r = y at *
  have hxo : bits .xor .i64 (y : Int) 21522 = ((y ^^^ 21522 : Nat) : Int) := i64_xor y 21522 (by omega) (by omega)
  generalize y ^^^ 21522 = z at *
  clear hx hrd
  go_enter Try.func8, Try.ntmps8
  go_wp2_with fail
  refine HR.out.mono ?_
  rintro e w1 ⟨rfl, rfl⟩
  go_wp2_with fail
  go_ret
  exact ⟨by rw [HV.out]; rfl, rfl⟩

set_option maxRecDepth 100000 in
set_option maxHeartbeats 1600000 in
theorem forBits (b : Nat) (hb : b < 4) (w : World) :
    Calls Try.prog 73 #[.int .u64 b] w fun e w' => e = .returned (.tuple #[.int .i64 b, .nilIface]) ∧ w = w' := by
  have h : b = 0 ∨ b = 1 ∨ b = 2 ∨ b = 3 := by omega
  clear hb
  rcases h with rfl | rfl | rfl | rfl
  · go_enter Try.func73, Try.ntmps73
    go_wp2_with fail
    go_ret2
    exact ⟨rfl, rfl⟩
  · go_enter Try.func73, Try.ntmps73
    go_wp2_with fail
    go_ret2
    exact ⟨rfl, rfl⟩
  · go_enter Try.func73, Try.ntmps73
    go_wp2_with fail
    go_ret2
    exact ⟨rfl, rfl⟩
  · go_enter Try.func73, Try.ntmps73
    go_wp2_with fail
    go_ret2
    exact ⟨rfl, rfl⟩

/-- A pointer to what a level and a mask are told by. -/
def NewPost (f : Nat) (w : World) (e : Ending) (w' : World) : Prop := ∃ p, e = .returned (.pointer (some ⟨p, 0, none⟩)) ∧ Hid (w'.cell? ⟨p, 0, none⟩ = some (.int .i64 (f / 8 : Nat)) ∧ w'.cell? ⟨p, 1, none⟩ = some (.int .u8 (f % 8 : Nat))) ∧ Below w.heap.size w w'
set_option maxRecDepth 100000 in
set_option maxHeartbeats 1600000 in
theorem newFormat (f : Nat) (hf : f < 32) (w : World) : Calls Try.prog 70 #[.int .u64 f] w (NewPost f w) := by
  obtain ⟨l, hl⟩ : ∃ l, l = f / 8 := ⟨_, rfl⟩
  obtain ⟨m, hm⟩ : ∃ m, m = f % 8 := ⟨_, rfl⟩
  have el : (f : Int) / 8 = (l : Int) := by omega
  have hl4 : l < 4 := by omega
  have hm8 : m < 8 := by omega
  have ha1 : bits .and .u64 (l : Int) 3 = (l : Int) := by
    have h := u64_and_nat l 3 (by omega) (by omega)
    rw [show l &&& 3 = l % 4 from Nat.and_two_pow_sub_one_eq_mod l 2, Nat.mod_eq_of_lt hl4] at h
    exact h
  have ha2 : bits .and .u64 (f : Int) 7 = (m : Int) := by
    have h := u64_and_nat f 7 (by omega) (by omega)
    rw [show f &&& 7 = f % 8 from Nat.and_two_pow_sub_one_eq_mod f 3, ← hm] at h
    exact h
  have HFB := Lib.hid (forBits l hl4 w)
  have HP : Hid (NewPost f w = fun e w' => ∃ p, e = .returned (.pointer (some ⟨p, 0, none⟩)) ∧ Hid (w'.cell? ⟨p, 0, none⟩ = some (.int .i64 l) ∧ w'.cell? ⟨p, 1, none⟩ = some (.int .u8 m)) ∧ Below w.heap.size w w') := Lib.hid (by unfold NewPost; rw [← hl, ← hm])
  rw [HP.out]
  clear hl hm HP
  go_enter Try.func70, Try.ntmps70
  go_wp2_with fail
  refine HFB.out.mono ?_
  rintro e w1 ⟨rfl, rfl⟩
  go_wp2_with fail
  go_ret
  refine ⟨_, rfl, Lib.hid ⟨?_, ?_⟩, (Below.refl _ _).alloc (Nat.le_refl _) _⟩
  · rw [World.cell?_alloc_at _ _ _ _ rfl]; rfl
  · rw [World.cell?_alloc_at _ _ _ _ rfl]; rfl

set_option maxRecDepth 100000 in
set_option maxHeartbeats 12800000 in
theorem doDecode (j x y : Nat) (hj : j < 32) (hx : x < 32768) (hy : y < 32768) (hnx : pc 24 (x ^^^ fb j) ≤ 3) (hny : pc 24 (y ^^^ fb j) ≤ 3) (w : World) :
    Calls Try.prog 49 #[.int .u64 x, .int .u64 y] w (NewPost j w) := by
  have HNX := Lib.hid hnx
  have HNY := Lib.hid hny
  have HF : Hid (∀ k, k < 32 → k ≠ j → 4 ≤ pc 24 (x ^^^ fb k) ∧ 4 ≤ pc 24 (y ^^^ fb k)) := Lib.hid (fun k hk hne => by
    have h1 := fb_far ⟨j, hj⟩ ⟨k, hk⟩ (fun h => hne (by injection h with h; exact h.symm))
    simp only at h1
    have h2 := far hnx h1
    have h3 := far hny h1
    omega)
  clear hnx hny
  go_enter Try.func49, Try.ntmps49
  go_wp2_with fail
  refine (fmtTable w).mono ?_
  rintro e w1 ⟨b, p, rfl, hbel, HT⟩
  have HB := Lib.hid hbel
  have hst : Hid ((0 ≤ j → 4 ≤ 2147483647) ∧ (j < 0 → 2147483647 ≤ 3 ∧ 0 = j)) := Lib.hid ⟨fun _ => by omega, fun h => by omega⟩
  clear hbel
  go_wp2_with fail
  go_loop [5, 6, 13] (fun d v i => ∃ k D B : Nat, k ≤ 32 ∧ D ≤ 2147483647 ∧ B < 32 ∧ i = .int .i64 k ∧ d = .int .i64 D ∧ v = .int .u64 B ∧ Hid ((k ≤ j → 4 ≤ D) ∧ (j < k → D ≤ 3 ∧ B = j))) (fun _ _ i => 32 - (intOf i).toNat)
  case atStart => exact ⟨0, 2147483647, 0, by omega, by omega, by omega, rfl, rfl, rfl, hst⟩
  case round =>
    obtain ⟨k, D, B, hk, hD, hB, rfl, rfl, rfl, HK⟩ := hrel
    clear hst
    by_cases hlt : k < 32
    · obtain ⟨hc0, hc1, hc2⟩ := HT.out k hlt
      have hvl := (fb_lt ⟨k, hlt⟩).1
      simp only at hvl
      have hlt1 : (k : Int) < 32 := by omega
      have hlt0 : (0 : Int) ≤ (k : Int) := by omega
      have HKF : Hid (k ≠ j → 4 ≤ pc 24 (x ^^^ fb k) ∧ 4 ≤ pc 24 (y ^^^ fb k)) := Lib.hid (HF.out k hlt)
      have HKN : Hid (k = j → pc 24 (x ^^^ fb k) ≤ 3 ∧ pc 24 (y ^^^ fb k) ≤ 3) := Lib.hid (fun h => by rw [h]; exact ⟨HNX.out, HNY.out⟩)
      obtain ⟨t, ht⟩ : ∃ t, t = fb k := ⟨_, rfl⟩
      rw [← ht] at hc1 hvl HKF HKN
      generalize p k = q at *
      clear ht
      by_cases heq : t = x ∨ t = y
      · have hkj : k = j := by
          by_cases h : k = j
          · exact h
          · have h2 := HKF.out h
            rcases heq with heq | heq
            · rw [heq, pc_self] at h2; omega
            · have h3 := h2.2
              rw [heq, pc_self] at h3; omega
        subst hkj
        clear HKF HKN
        by_cases hex : t = x
        · subst hex
          have hq : ((t : Int) == (t : Int)) = true := by simp
          clear heq
          go_wp2_with fail
          refine (newFormat k hlt w1).mono ?_
          rintro e w2 ⟨p, rfl, HC, hb2⟩
          have HB2 := Lib.hid (HB.out.trans (hb2.mono HB.out.size))
          clear hb2
          go_wp2_with fail
          go_ret
          exact ⟨p, rfl, HC, HB2.out⟩
        · have hey : t = y := by rcases heq with h | h; exact absurd h hex; exact h
          subst hey
          have hq : ((t : Int) == (t : Int)) = true := by simp
          have hq2 : ((t : Int) == (x : Int)) = false := by simp; omega
          clear heq
          go_wp2_with fail
          refine (newFormat k hlt w1).mono ?_
          rintro e w2 ⟨p, rfl, HC, hb2⟩
          have HB2 := Lib.hid (HB.out.trans (hb2.mono HB.out.size))
          clear hb2
          go_wp2_with fail
          go_ret
          exact ⟨p, rfl, HC, HB2.out⟩
      · have hneq : ((t : Int) == (x : Int)) = false := by simp; omega
        have hneq2 : ((t : Int) == (y : Int)) = false := by simp; omega
        have HBX := Lib.hid (bitsDiffer x t (by omega) (by omega) w1)
        have HBY := Lib.hid (bitsDiffer y t (by omega) (by omega) w1)
        by_cases hxy : x = y
        · subst hxy
          have hxx : ((x : Int) != (x : Int)) = false := by simp
          obtain ⟨d, hd⟩ : ∃ d, d = pc 24 (x ^^^ t) := ⟨_, rfl⟩
          rw [← hd] at HBX HKF HKN
          have hd24 : d ≤ 24 := by rw [hd]; exact pc_le _ _
          clear hd heq HBY
          by_cases h1 : d < D
          · have hl1 : (d : Int) < (D : Int) := by omega
            have HN : Hid ((k + 1 ≤ j → 4 ≤ d) ∧ (j < k + 1 → d ≤ 3 ∧ k = j)) := Lib.hid (by
              obtain ⟨h1, h2⟩ := HK.out
              have h3 := HKF.out
              have h4 := HKN.out
              by_cases hkj : k = j
              · have := h4 hkj; have := h1 (by omega); omega
              · have := h3 hkj; omega)
            clear HKF HKN HK
            clear h1
            go_wp2_with fail
            refine HBX.out.mono ?_
            rintro e w2 ⟨rfl, rfl⟩
            go_wp2_with fail
            go_round
            case rel => exact ⟨k + 1, d, k, by omega, by omega, by omega, by go_num, rfl, rfl, HN⟩
            case measure => simp [intOf]; omega
          · have hl1 : ((d : Int) < (D : Int)) = False := by simp; omega
            have HN : Hid ((k + 1 ≤ j → 4 ≤ D) ∧ (j < k + 1 → D ≤ 3 ∧ B = j)) := Lib.hid (by
              obtain ⟨h1, h2⟩ := HK.out
              have h3 := HKF.out
              have h4 := HKN.out
              by_cases hkj : k = j
              · have := h4 hkj; have := h1 (by omega); omega
              · have := h3 hkj; omega)
            clear HKF HKN HK
            clear h1
            go_wp2_with fail
            refine HBX.out.mono ?_
            rintro e w2 ⟨rfl, rfl⟩
            go_wp2_with fail
            go_round
            case rel => exact ⟨k + 1, D, B, by omega, by omega, by omega, by go_num, rfl, rfl, HN⟩
            case measure => simp [intOf]; omega
        · have hxx : ((x : Int) != (y : Int)) = true := by simp; omega
          obtain ⟨d, hd⟩ : ∃ d, d = pc 24 (x ^^^ t) := ⟨_, rfl⟩
          rw [← hd] at HBX HKF HKN
          have hd24 : d ≤ 24 := by rw [hd]; exact pc_le _ _
          obtain ⟨c, hc⟩ : ∃ d, d = pc 24 (y ^^^ t) := ⟨_, rfl⟩
          rw [← hc] at HBY HKF HKN
          have hc24 : c ≤ 24 := by rw [hc]; exact pc_le _ _
          clear hd hc heq hxy
          by_cases h1 : d < D
          · have hl1 : (d : Int) < (D : Int) := by omega
            by_cases h2 : c < d
            · have hl2 : (c : Int) < (d : Int) := by omega
              have HN : Hid ((k + 1 ≤ j → 4 ≤ c) ∧ (j < k + 1 → c ≤ 3 ∧ k = j)) := Lib.hid (by
                obtain ⟨h1, h2⟩ := HK.out
                have h3 := HKF.out
                have h4 := HKN.out
                by_cases hkj : k = j
                · have := h4 hkj; have := h1 (by omega); omega
                · have := h3 hkj; omega)
              clear HKF HKN HK
              clear h1 h2
              go_wp2_with fail
              refine HBX.out.mono ?_
              rintro e w2 ⟨rfl, rfl⟩
              go_wp2_with fail
              refine HBY.out.mono ?_
              rintro e w2 ⟨rfl, rfl⟩
              go_wp2_with fail
              go_round
              case rel => exact ⟨k + 1, c, k, by omega, by omega, by omega, by go_num, rfl, rfl, HN⟩
              case measure => simp [intOf]; omega
            · have hl2 : ((c : Int) < (d : Int)) = False := by simp; omega
              have HN : Hid ((k + 1 ≤ j → 4 ≤ d) ∧ (j < k + 1 → d ≤ 3 ∧ k = j)) := Lib.hid (by
                obtain ⟨h1, h2⟩ := HK.out
                have h3 := HKF.out
                have h4 := HKN.out
                by_cases hkj : k = j
                · have := h4 hkj; have := h1 (by omega); omega
                · have := h3 hkj; omega)
              clear HKF HKN HK
              clear h1 h2
              go_wp2_with fail
              refine HBX.out.mono ?_
              rintro e w2 ⟨rfl, rfl⟩
              go_wp2_with fail
              refine HBY.out.mono ?_
              rintro e w2 ⟨rfl, rfl⟩
              go_wp2_with fail
              go_round
              case rel => exact ⟨k + 1, d, k, by omega, by omega, by omega, by go_num, rfl, rfl, HN⟩
              case measure => simp [intOf]; omega

          · have hl1 : ((d : Int) < (D : Int)) = False := by simp; omega
            by_cases h2 : c < D
            · have hl2 : (c : Int) < (D : Int) := by omega
              have HN : Hid ((k + 1 ≤ j → 4 ≤ c) ∧ (j < k + 1 → c ≤ 3 ∧ k = j)) := Lib.hid (by
                obtain ⟨h1, h2⟩ := HK.out
                have h3 := HKF.out
                have h4 := HKN.out
                by_cases hkj : k = j
                · have := h4 hkj; have := h1 (by omega); omega
                · have := h3 hkj; omega)
              clear HKF HKN HK
              clear h1 h2
              go_wp2_with fail
              refine HBX.out.mono ?_
              rintro e w2 ⟨rfl, rfl⟩
              go_wp2_with fail
              refine HBY.out.mono ?_
              rintro e w2 ⟨rfl, rfl⟩
              go_wp2_with fail
              go_round
              case rel => exact ⟨k + 1, c, k, by omega, by omega, by omega, by go_num, rfl, rfl, HN⟩
              case measure => simp [intOf]; omega
            · have hl2 : ((c : Int) < (D : Int)) = False := by simp; omega
              have HN : Hid ((k + 1 ≤ j → 4 ≤ D) ∧ (j < k + 1 → D ≤ 3 ∧ B = j)) := Lib.hid (by
                obtain ⟨h1, h2⟩ := HK.out
                have h3 := HKF.out
                have h4 := HKN.out
                by_cases hkj : k = j
                · have := h4 hkj; have := h1 (by omega); omega
                · have := h3 hkj; omega)
              clear HKF HKN HK
              clear h1 h2
              go_wp2_with fail
              refine HBX.out.mono ?_
              rintro e w2 ⟨rfl, rfl⟩
              go_wp2_with fail
              refine HBY.out.mono ?_
              rintro e w2 ⟨rfl, rfl⟩
              go_wp2_with fail
              go_round
              case rel => exact ⟨k + 1, D, B, by omega, by omega, by omega, by go_num, rfl, rfl, HN⟩
              case measure => simp [intOf]; omega
    · obtain rfl : k = 32 := by omega
      obtain ⟨hD3, rfl⟩ := HK.out.2 (by omega)
      have hD4 : (D : Int) ≤ 3 := by omega
      clear HK hk hlt
      go_wp2_with fail
      refine (newFormat B hj w1).mono ?_
      rintro e w2 ⟨p, rfl, HC, hb2⟩
      have HB2 := Lib.hid (HB.out.trans (hb2.mono HB.out.size))
      clear hb2
      go_wp2_with fail
      go_ret
      exact ⟨p, rfl, HC, HB2.out⟩

set_option maxRecDepth 100000 in
set_option maxHeartbeats 800000 in
theorem decodeFormat (j x y : Nat) (hj : j < 32) (hx : x < 32768) (hy : y < 32768) (hnx : pc 24 (x ^^^ fb j) ≤ 3) (hny : pc 24 (y ^^^ fb j) ≤ 3) (w : World) :
    Calls Try.prog 29 #[.int .u64 x, .int .u64 y] w (NewPost j w) := by
  have HD := Lib.hid (doDecode j x y hj hx hy hnx hny w)
  clear hnx hny
  go_enter Try.func29, Try.ntmps29
  go_wp2_with fail
  refine HD.out.mono ?_
  rintro e w2 ⟨p, rfl, HC, hb2⟩
  have HB2 := Lib.hid hb2
  clear hb2
  go_wp2_with fail
  go_ret
  exact ⟨p, rfl, HC, HB2.out⟩

set_option maxRecDepth 100000 in
theorem getLevel (p l : Nat) (w : World) (h : w.cell? ⟨p, 0, none⟩ = some (.int .i64 l)) :
    Calls Try.prog 30 #[.pointer (some ⟨p, 0, none⟩)] w fun e w' => e = .returned (.int .i64 l) ∧ w = w' := by
  go_enter Try.func30, Try.ntmps30
  go_wp2_with fail
  go_ret
  exact ⟨rfl, rfl⟩
set_option maxRecDepth 100000 in
theorem getMask (p l : Nat) (w : World) (h : w.cell? ⟨p, 1, none⟩ = some (.int .u8 l)) :
    Calls Try.prog 32 #[.pointer (some ⟨p, 0, none⟩)] w fun e w' => e = .returned (.int .u8 l) ∧ w = w' := by
  go_enter Try.func32, Try.ntmps32
  go_wp2_with fail
  go_ret
  exact ⟨rfl, rfl⟩
set_option maxRecDepth 100000 in
theorem getBits (l : Int) (w : World) :
    Calls Try.prog 31 #[.int .i64 l] w fun e w' => e = .returned (.int .i64 l) ∧ w = w' := by
  go_enter Try.func31, Try.ntmps31
  go_wp2_with fail
  go_ret
  exact ⟨rfl, rfl⟩

set_option maxRecDepth 100000 in
set_option maxHeartbeats 800000 in
theorem doorFormat (j x y : Nat) (hj : j < 32) (hx : x < 32768) (hy : y < 32768) (hnx : pc 24 (x ^^^ fb j) ≤ 3) (hny : pc 24 (y ^^^ fb j) ≤ 3) (w : World) :
    Calls Try.prog 11 #[.int .u64 x, .int .u64 y] w fun e w' => e = .returned (.tuple #[.int .i64 (j / 8 : Nat), .int .i64 (j % 8 : Nat), .bool true]) ∧ Below w.heap.size w w' := by
  have HD := Lib.hid (decodeFormat j x y hj hx hy hnx hny w)
  have hm8 : j % 8 < 8 := by omega
  obtain ⟨l, hl⟩ : ∃ l, l = j / 8 := ⟨_, rfl⟩
  obtain ⟨m, hm⟩ : ∃ m, m = j % 8 := ⟨_, rfl⟩
  have HNP : Hid (NewPost j w = fun e w' => ∃ p, e = .returned (.pointer (some ⟨p, 0, none⟩)) ∧ Hid (w'.cell? ⟨p, 0, none⟩ = some (.int .i64 l) ∧ w'.cell? ⟨p, 1, none⟩ = some (.int .u8 m)) ∧ Below w.heap.size w w') := Lib.hid (by unfold NewPost; rw [← hl, ← hm])
  rw [HNP.out] at HD
  rw [← hl, ← hm]
  rw [← hm] at hm8
  clear hnx hny hl hm HNP
  go_enter Try.func11, Try.ntmps11
  go_wp2_with fail
  refine HD.out.mono ?_
  rintro e w1 ⟨p, rfl, HC, hb⟩
  have HB := Lib.hid hb
  have HL := Lib.hid (getLevel p l w1 HC.out.1)
  have HM := Lib.hid (getMask p m w1 HC.out.2)
  have HG := Lib.hid (getBits l w1)
  clear hb
  go_wp2_with fail
  refine HL.out.mono ?_
  rintro e w2 ⟨rfl, rfl⟩
  go_wp2_with fail
  refine HG.out.mono ?_
  rintro e w2 ⟨rfl, rfl⟩
  go_wp2_with fail
  refine HM.out.mono ?_
  rintro e w2 ⟨rfl, rfl⟩
  go_wp2_with fail
  go_ret3
  exact ⟨rfl, HB.out⟩
end Go.Proofs.Ytpeipolknphjhaa
