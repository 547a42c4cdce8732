/-
  VERSION_DECODE_INFO, Version_decodeVersionInformation, impl.QRVersionBits and the statement FnQRVersionNear, walked. No condition beyond the bounds that each theorem states.
-/
import Derived.Test.YtpeipolknphjhaaQVS
import Derived.Test.YtpeipolknphjhaaQRB
import Derived.Test.YtpeipolknphjhaaARR
namespace Go.Proofs.Ytpeipolknphjhaa
open Go.RowKit Go.Qz Go.Qz.PC Go.Qz.QB
set_option linter.unusedVariables false

def isI64 : Value → Bool
  | .int .i64 _ => true
  | _ => false
theorem isI64_eq {v : Value} (h : isI64 v = true) : v = .int .i64 (intOf v) := by
  unfold isI64 at h
  split at h
  · rfl
  · cases h
theorem below_lit {w : World} (cs : Array Value) (t : TypeId) : Below w.heap.size w (w.alloc (.cells cs t)) := (Below.refl _ _).alloc (Nat.le_refl _) _
/-- The table of the versions' bits. -/
def TabPost (w : World) (e : Ending) (w' : World) : Prop := ∃ b : Nat, e = .returned (.slice (some ⟨b, 0, none⟩) 34 34) ∧ b < w'.heap.size ∧ Hid (∀ j, j < 34 → w'.cell? ⟨b, j, none⟩ = some (.int .i64 (vb (j + 7) : Nat))) ∧ Below w.heap.size w w'
theorem TabPost.mk {w : World} {cs : Array Value} {t : TypeId} (hn : cs.size = 34) (h : (List.range 34).all (fun j => isI64 (cs.getD j undef) && intOf (cs.getD j undef) == ((vb (j + 7) : Nat) : Int)) = true) :
    TabPost w (.returned (.slice (some ⟨w.heap.size, 0, none⟩) 34 34)) (w.alloc (.cells cs t)) := by
  refine ⟨w.heap.size, rfl, by simp, Lib.hid fun j hj => ?_, below_lit _ _⟩
  rw [World.cell?_alloc_at _ _ _ _ rfl]
  have h1 := List.all_eq_true.1 h j (List.mem_range.2 hj)
  simp only [Bool.and_eq_true, beq_iff_eq] at h1
  have h2 := isI64_eq h1.1
  rw [h1.2] at h2
  have hj2 : j < cs.size := by omega
  have h3 : cs.getD j undef = cs[j] := by simp [Array.getD, hj2]
  rw [Array.getElem?_eq_getElem hj2, ← h3, h2]

set_option maxRecDepth 100000 in
set_option maxHeartbeats 1600000 in
theorem infoTable (w : World) : Calls Try.prog 57 #[] w (TabPost w) := by
  go_enter Try.func57, Try.ntmps57
  go_wp2_with fail
  go_ret
  exact TabPost.mk rfl (by decide +kernel)

/-- A version that is told. -/
def DecPost (v : Nat) (w : World) (e : Ending) (w' : World) : Prop := ∃ p, e = .returned (.tuple #[.pointer (some ⟨p, 0, none⟩), .nilIface]) ∧ w'.cell? ⟨p, 0, none⟩ = some (.int .i64 v) ∧ Below w.heap.size w w'

set_option maxRecDepth 100000 in
set_option maxHeartbeats 3200000 in
theorem decodeVersion (j x : Nat) (hj : j < 34) (hx : x < 262144) (hnear : pc 24 (x ^^^ vb (j + 7)) ≤ 3) (w : World) :
    Calls Try.prog 42 #[.int .i64 x] w (DecPost (j + 7) w) := by
  have HNE := Lib.hid hnear
  have HF : Hid (∀ k, k < 34 → k ≠ j → 5 ≤ pc 24 (x ^^^ vb (k + 7))) := Lib.hid (fun k hk hne => by
    have h1 := vb_far ⟨j, hj⟩ ⟨k, hk⟩ (fun h => hne (by injection h with h; exact h.symm))
    simp only at h1
    have h2 := far hnear h1
    omega)
  clear hnear
  go_enter Try.func42, Try.ntmps42
  go_wp2_with fail
  refine (infoTable w).mono ?_
  rintro e w1 ⟨b, rfl, hb0, HT, hbel⟩
  have HB := Lib.hid hbel
  have hst : Hid ((0 ≤ j → 5 ≤ 2147483647) ∧ (j < 0 → 2147483647 ≤ 3 ∧ 0 = j + 7)) := Lib.hid ⟨fun _ => by omega, fun h => by omega⟩
  clear hbel
  go_wp2_with fail
  go_loop [4, 5, 11] (fun d v i => ∃ k D B : Nat, k ≤ 34 ∧ D ≤ 2147483647 ∧ B ≤ 100 ∧ i = .int .i64 k ∧ d = .int .i64 D ∧ v = .int .i64 B ∧ Hid ((k ≤ j → 5 ≤ D) ∧ (j < k → D ≤ 3 ∧ B = j + 7))) (fun _ _ i => 34 - (intOf i).toNat)
  case atStart => exact ⟨0, 2147483647, 0, by omega, by omega, by omega, rfl, rfl, rfl, hst⟩
  case round =>
    obtain ⟨k, D, B, hk, hD, hB, rfl, rfl, rfl, HK⟩ := hrel
    clear hst
    by_cases hlt : k < 34
    · have hcell := HT.out k hlt
      have hvl := (vb_lt ⟨k, hlt⟩).1
      simp only at hvl
      have hlt1 : (k : Int) < 34 := by omega
      have hlt0 : (0 : Int) ≤ (k : Int) := by omega
      have HKF : Hid (k ≠ j → 5 ≤ pc 24 (x ^^^ vb (k + 7))) := Lib.hid (HF.out k hlt)
      have HKN : Hid (k = j → pc 24 (x ^^^ vb (k + 7)) ≤ 3) := Lib.hid (fun h => by rw [h]; exact HNE.out)
      obtain ⟨t, ht⟩ : ∃ t, t = vb (k + 7) := ⟨_, rfl⟩
      rw [← ht] at hcell hvl HKF HKN
      clear ht
      by_cases heq : t = x
      · have hkj : k = j := by
          by_cases h : k = j
          · exact h
          · have := HKF.out h
            rw [heq, pc_self] at this
            omega
        subst hkj heq
        have hq : ((t : Int) == (t : Int)) = true := by simp
        have HG := Lib.hid (getVersion ((k : Int) + 7) (by omega) (by omega) w1)
        clear HKF HKN hk
        go_wp2_with fail
        refine HG.out.mono ?_
        rintro e w2 ⟨hb2, ⟨hv, p, rfl, hc⟩ | ⟨hv, y, rfl, hy⟩⟩
        · have HB2 := Lib.hid (HB.out.trans (hb2.mono HB.out.size))
          have HC : Hid (w2.cell? ⟨p, 0, none⟩ = some (.int .i64 ((k + 7 : Nat) : Int))) := Lib.hid (by rw [hc]; simp)
          clear hb2 hc hv
          go_wp2_with fail
          go_ret2
          exact ⟨p, rfl, HC.out, HB2.out⟩
        · exact absurd (by omega) hv
      · have hneq : ((t : Int) == (x : Int)) = false := by simp; omega
        have HBD := Lib.hid (bitsDiffer x t (by omega) (by omega) w1)
        obtain ⟨d, hd⟩ : ∃ d, d = pc 24 (x ^^^ t) := ⟨_, rfl⟩
        rw [← hd] at HBD HKF HKN
        have hd24 : d ≤ 24 := by
          rw [hd]
          have : ∀ n y, pc n y ≤ n := fun n => by
            induction n with
            | zero => intro y; simp [pc]
            | succ n ih => intro y; have := ih (y / 2); simp only [pc]; omega
          exact this 24 _
        clear hd heq
        by_cases hdd : d < D
        · have hdl : (d : Int) < (D : Int) := by omega
          have HN : Hid ((k + 1 ≤ j → 5 ≤ d) ∧ (j < k + 1 → d ≤ 3 ∧ k + 7 = j + 7)) := Lib.hid (by
            obtain ⟨h1, h2⟩ := HK.out
            have h3 := HKF.out
            have h4 := HKN.out
            refine ⟨fun h => h3 (by omega), fun h => ?_⟩
            by_cases hkj : k = j
            · exact ⟨h4 hkj, by omega⟩
            · have := h3 hkj
              have := h2 (by omega)
              omega)
          clear HKF HKN HK hdd
          go_wp2_with fail
          refine HBD.out.mono ?_
          rintro e w2 ⟨rfl, rfl⟩
          go_wp2_with fail
          go_round
          case rel => exact ⟨k + 1, d, k + 7, by omega, by omega, by omega, by go_num, rfl, by go_num, HN⟩
          case measure => simp [intOf]; omega
        · have hdl : decide ((d : Int) < (D : Int)) = false := by simp; omega
          have hdl2 : ((d : Int) < (D : Int)) = False := by simp; omega
          have HN : Hid ((k + 1 ≤ j → 5 ≤ D) ∧ (j < k + 1 → D ≤ 3 ∧ B = j + 7)) := Lib.hid (by
            obtain ⟨h1, h2⟩ := HK.out
            have h3 := HKF.out
            have h4 := HKN.out
            refine ⟨fun h => h1 (by omega), fun h => ?_⟩
            by_cases hkj : k = j
            · have := h4 hkj
              have := h1 (by omega)
              omega
            · exact h2 (by omega))
          clear HKF HKN HK hdd
          go_wp2_with fail
          refine HBD.out.mono ?_
          rintro e w2 ⟨rfl, rfl⟩
          go_wp2_with fail
          go_round
          case rel => exact ⟨k + 1, D, B, by omega, by omega, by omega, by go_num, rfl, rfl, HN⟩
          case measure => simp [intOf]; omega
    · obtain rfl : k = 34 := by omega
      obtain ⟨hD3, rfl⟩ := HK.out.2 (by omega)
      have hD4 : (D : Int) ≤ 3 := by omega
      have HG := Lib.hid (getVersion ((j + 7 : Nat) : Int) (by omega) (by omega) w1)
      clear HK hk hlt
      go_wp2_with fail
      refine HG.out.mono ?_
      rintro e w2 ⟨hb2, ⟨hv, p, rfl, hc⟩ | ⟨hv, y, rfl, hy⟩⟩
      · have HB2 := Lib.hid (HB.out.trans (hb2.mono HB.out.size))
        have HC := Lib.hid hc
        clear hb2 hc hv
        go_wp2_with fail
        go_ret2
        exact ⟨p, rfl, HC.out, HB2.out⟩
      · exact absurd (by omega) hv

set_option maxRecDepth 100000 in
set_option maxHeartbeats 800000 in
theorem doorVersionBits (j x : Nat) (hj : j < 34) (hx : x < 262144) (hnear : pc 24 (x ^^^ vb (j + 7)) ≤ 3) (w : World) :
    Calls Try.prog 18 #[.int .i64 x] w fun e w' => e = .returned (.tuple #[.int .i64 (j + 7 : Nat), .bool true]) ∧ Below w.heap.size w w' := by
  have HP := Lib.hid (decodeVersion j x hj hx hnear w)
  have hneq : ∀ W, (binOp .neq 69 .nilIface .nilIface).run Try.prog W = .ok (.bool false) W := fun W => rfl
  obtain ⟨v, hv⟩ : ∃ v, v = j + 7 := ⟨_, rfl⟩
  rw [← hv] at HP ⊢
  clear hv hnear
  go_enter Try.func18, Try.ntmps18
  go_wp2_with fail
  refine HP.out.mono ?_
  rintro e w1 ⟨p, rfl, hc, hb⟩
  have HB := Lib.hid hb
  have HN := Lib.hid (versionNumber p v w1 hc)
  clear hb hc
  go_wp2_with fail
  refine HN.out.mono ?_
  rintro e w2 ⟨rfl, rfl⟩
  go_wp2_with fail
  go_ret2
  exact ⟨rfl, HB.out⟩
end Go.Proofs.Ytpeipolknphjhaa
