/-
  calculateBlackPoints, walked. No condition beyond the bounds that the theorem states.
-/
import Derived.Test.YthgnmcofclndlaaPYI
namespace Go.Proofs.Ythgnmcofclndlaa
open Go.RowKit Go.Qz
set_option linter.unusedVariables false

/-- The least and the greatest gray that has been met. -/
def MN (d l : Nat) (a b : Bool) : Nat := if a then d else if b then l else 255
def MX (d l : Nat) (a b : Bool) : Nat := if b then l else if a then d else 0
/-- A sum of so many grays; of two different ones, if the dark one has been met. -/
def SumOk (d l : Nat) (a : Bool) (n s : Nat) : Prop := n * d ≤ s ∧ s + (if a then l - d else 0) ≤ n * l
theorem SumOk.zero (d l : Nat) : SumOk d l false 0 0 := ⟨by simp, by simp⟩
theorem SumOk.add {d l n s : Nat} {a z : Bool} (h : SumOk d l a n s) (hdl : d < l) : SumOk d l (a || z) (n + 1) (s + if z then d else l) := by
  obtain ⟨h1, h2⟩ := h
  unfold SumOk
  rw [Nat.add_mul, Nat.add_mul, Nat.one_mul, Nat.one_mul]
  cases a <;> cases z <;> simp at h2 ⊢ <;> omega
theorem SumOk.weak {d l n s : Nat} {a : Bool} (h : SumOk d l a n s) : s ≤ n * l := by have := h.2; omega
/-- What has been met of a square: k rows, and j of the next. -/
def MetSq (Z : Nat → Nat → Bool) (yo xo : Nat) (a b : Bool) (k j : Nat) : Prop := ∀ i c, c < 8 → (i < k ∨ i = k ∧ c < j) → (Z (yo + i) (xo + c) = true → a = true) ∧ (Z (yo + i) (xo + c) = false → b = true)
theorem MetSq.up {Z : Nat → Nat → Bool} {yo xo : Nat} {a b : Bool} {k j : Nat} (h : MetSq Z yo xo a b k j) : MetSq Z yo xo (a || Z (yo + k) (xo + j)) (b || !Z (yo + k) (xo + j)) k (j + 1) := fun i c hc hh => by
  by_cases e : i = k ∧ c = j
  · obtain ⟨rfl, rfl⟩ := e
    exact ⟨fun e => by rw [e]; simp, fun e => by rw [e]; simp⟩
  · have := h i c hc (by omega)
    exact ⟨fun e => by rw [this.1 e]; rfl, fun e => by rw [this.2 e]; rfl⟩
theorem MetSq.next {Z : Nat → Nat → Bool} {yo xo : Nat} {a b : Bool} {k : Nat} (h : MetSq Z yo xo a b k 8) : MetSq Z yo xo a b (k + 1) 0 := fun i c hc hh => h i c hc (by omega)
theorem MetSq.all {Z : Nat → Nat → Bool} {yo xo : Nat} {a b : Bool} (h : MetSq Z yo xo a b 8 0) (hs : Sq Z yo xo) : a = true ∧ b = true := by
  obtain ⟨k, hk, hne⟩ := hs
  have h1 := h (k / 8) (k % 8) (by omega) (by omega)
  have h2 := h 0 0 (by omega) (by omega)
  simp only [Nat.add_zero] at h2
  cases e1 : Z (yo + k / 8) (xo + k % 8) <;> cases e2 : Z yo xo
  · rw [e1, e2] at hne; exact absurd rfl hne
  · exact ⟨h2.1 e2, h1.2 e1⟩
  · exact ⟨h1.1 e1, h2.2 e2⟩
  · rw [e1, e2] at hne; exact absurd rfl hne
theorem mn_step {d l : Nat} {a b z : Bool} (h : TwoOk d l) : min (if z then d else l) (MN d l a b) = MN d l (a || z) (b || !z) := by
  unfold MN; have := h.1; have := h.2
  cases a <;> cases b <;> cases z <;> simp <;> omega
theorem mx_step {d l : Nat} {a b z : Bool} (h : TwoOk d l) : max (if z then d else l) (MX d l a b) = MX d l (a || z) (b || !z) := by
  unfold MX; have := h.1; have := h.2
  cases a <;> cases b <;> cases z <;> simp <;> omega
/-- Where the sum of a square stands. -/
def Prog (Z : Nat → Nat → Bool) (d l W yo xo yy o s mn mx : Nat) : Prop :=
  (yy < 8 ∧ o = (yo + yy) * W + xo ∧ ∃ a b, mn = MN d l a b ∧ mx = MX d l a b ∧ SumOk d l a (8 * yy) s ∧ MetSq Z yo xo a b yy 0) ∨ (8 ≤ yy ∧ yy ≤ 9 ∧ mn = d ∧ mx = l ∧ SumOk d l true 64 s)
def PtsPost (d l SW SH : Nat) (w : World) (e : Ending) (w' : World) : Prop := ∃ (G : Nat) (bp : Nat → Nat → Nat), e = .returned (.slice (some ⟨G, 0, none⟩) SH SH) ∧ Hid (Grid w' 79 3 G SH SW SH (fun y x => .int .i64 ((bp y x : Nat) : Int))) ∧ Hid (∀ y x, y < SH → x < SW → d ≤ bp y x ∧ bp y x < l) ∧ Below w.heap.size w w'
theorem Try.infoRowIH : (Try.prog.info? 79).map (fun i => (i.zero, i.size, i.bytes)) = some (some (.slice none 0 0), 1, 24) := by kernel_rfl

set_option maxRecDepth 100000 in
set_option maxHeartbeats 16000000 in
theorem blackPoints (v : Value) (Z : Nat → Nat → Bool) (W H N d l c SW SH : Nat) (hW0 : 8 ≤ W) (hH0 : 8 ≤ H) (hW : W ≤ 200) (hH : H ≤ 200) (hdl : TwoOk d l) (h24 : d + 24 < l) (hsq : Squares Z H W) (hN : N = W * H) (hSW : SW = (W + 7) / 8) (hSH : SH = (H + 7) / 8) (A : Option Addr) (w : World)
    (hr : Rd w A N (fun j => .int .u8 ((gr Z W d l j : Nat) : Int))) :
    Calls Try.prog 81 #[v, .slice A N c, .int .i64 SW, .int .i64 SH, .int .i64 W, .int .i64 H] w (PtsPost d l SW SH w) := by
  have hmkH := fun X => run_make1 (P := Try.prog) 129 79 (.slice none 0 0) 24 Try.underlying129 Try.infoRowIH rfl (by decide) SH (by omega) .i64 .i64 SH rfl X
  have hmkW := fun X => run_make1 (P := Try.prog) 79 3 (.int .i64 0) 8 Try.underlying79 Try.infoIntG rfl (by decide) SW (by omega) .i64 .i64 SW rfl X
  have HR := Lib.hid hr
  have HDL := Lib.hid hdl
  have HSQ := Lib.hid hsq
  have HNN := Lib.hid hN
  have HSS := Lib.hid (And.intro hSW hSH)
  have hSW1 : SW ≤ 25 := by omega
  have hSH1 : SH ≤ 25 := by omega
  obtain ⟨my, hmy⟩ : ∃ m, m = H - 8 := ⟨_, rfl⟩
  obtain ⟨mx0, hmx⟩ : ∃ m, m = W - 8 := ⟨_, rfl⟩
  have e1 : IntKind.i64.wrap ((H : Int) - 8) = (my : Int) := by rw [IntKind.wrap_i64]; omega
  have e2 : IntKind.i64.wrap ((W : Int) - 8) = (mx0 : Int) := by rw [IntKind.wrap_i64]; omega
  have HMY := Lib.hid (And.intro hmy hmx)
  obtain ⟨G, hG⟩ : ∃ G, G = w.heap.size := ⟨_, rfl⟩
  obtain ⟨W3, hW3⟩ : ∃ W3, W3 = w.alloc (.cells (zeros SH (.slice none 0 0)) 79) := ⟨_, rfl⟩
  have HG0 : Hid (Grid W3 79 3 G SH SW 0 (fun y x => .int .i64 (((fun _ _ => 0) y x : Nat) : Int))) := Lib.hid (by rw [hW3, hG]; exact Grid.zero _ _ _ _ _)
  have HB0 : Hid (Below G w W3) := Lib.hid (by rw [hW3, hG]; exact (Below.refl _ _).alloc (Nat.le_refl _) _)
  have HS0 : Hid (W3.heap.size = G + 1 + 0) := Lib.hid (by rw [hW3, hG]; simp)
  have HW3 := Lib.hid hW3
  have HGE := Lib.hid hG
  clear hr hdl hsq hN hSW hSH hmy hmx hW3
  go_enter Try.func81, Try.ntmps81
  go_wp2_with fail
  rw [← hG, ← HW3.out]
  clear hG hmkH e1 e2
  go_loopw [16] (fun i wr => ∃ (k : Nat) (bp : Nat → Nat → Nat), k ≤ SH ∧ i = .int .i64 k ∧ Hid (Grid wr 79 3 G SH SW k (fun y x => .int .i64 ((bp y x : Nat) : Int))) ∧ Hid (wr.heap.size = G + 1 + k) ∧ Hid (Below G w wr) ∧ Hid (∀ y x, y < k → x < SW → d ≤ bp y x ∧ bp y x < l)) (fun i _ => SH - (intOf i).toNat)
  case atStart => exact ⟨0, _, by omega, rfl, HG0, HS0, HB0, Lib.hid (fun y x h => by omega)⟩
  case round =>
    obtain ⟨wo, hwo⟩ : ∃ wo, wo = wr := ⟨_, rfl⟩
    rw [← hwo] at hrel ⊢
    clear hwo HG0 HB0 HS0
    obtain ⟨k, bp, hk, rfl, HGk, HS, HB, HP⟩ := hrel
    by_cases hlt : k < SH
    · have hck : wo.cell? ⟨G, k, none⟩ = some (.slice none 0 0) := by rw [HGk.out.hd.cell?, hdr_get _ _ _ _ _ hlt, if_neg (by omega)]
      have hsz : wo.heap.size = G + 1 + k := HS.out
      have hk0 : (0 : Int) ≤ (k : Int) := by omega
      have hk1 : (k : Int) < (SH : Int) := by omega
      have hGl := HGk.out.hd.lt
      have hck2 : (wo.alloc (.cells (zeros SW (.int .i64 0)) 3)).cell? ⟨G, k, none⟩ = some (.slice none 0 0) := (World.cell?_alloc_past _ _ _ hGl).trans hck
      have hfk2 : (wo.alloc (.cells (zeros SW (.int .i64 0)) 3)).frozen? ⟨G, k, none⟩ = false := (HGk.out.hd.mod (S := fun _ => False) ((Mod.refl _).alloc (.cells (zeros SW (.int .i64 0)) 3)) (fun h => h)).free k
      have hG2 := (HGk.out.congr (g := fun y x => .int .i64 (((if y < k then bp y x else 0) : Nat) : Int)) (fun r c hr hc => by rw [if_pos hr])).push (.int .i64 0) (fun c hc => by simp) hsz
      have hB2 : Below G w ((wo.alloc (.cells (zeros SW (.int .i64 0)) 3)).setCell ⟨G, k, none⟩ (.slice (some ⟨G + 1 + k, 0, none⟩) SW SW)) := (HB.out.alloc (by omega) _).setCell (p := ⟨G, k, none⟩) (Nat.le_refl _) _
      have hS2 : ((wo.alloc (.cells (zeros SW (.int .i64 0)) 3)).setCell ⟨G, k, none⟩ (.slice (some ⟨G + 1 + k, 0, none⟩) SW SW)).heap.size = G + 1 + (k + 1) := by simp [World.setCell]; omega
      obtain ⟨W4, hW4⟩ : ∃ W4, W4 = (wo.alloc (.cells (zeros SW (.int .i64 0)) 3)).setCell ⟨G, k, none⟩ (.slice (some ⟨G + 1 + k, 0, none⟩) SW SW) := ⟨_, rfl⟩
      rw [← hW4] at hG2 hB2 hS2
      have HG2 := Lib.hid hG2
      have HB2 := Lib.hid hB2
      have HS2 := Lib.hid hS2
      have HW4 := Lib.hid hW4
      have HP2 : Hid (∀ y x, (y < k ∧ x < SW ∨ y = k ∧ x < 0) → d ≤ (if y < k then bp y x else 0) ∧ (if y < k then bp y x else 0) < l) := Lib.hid (fun y x h => by
        have h' : y < k ∧ x < SW := by omega
        rw [if_pos h'.1]; exact HP.out y x h'.1 h'.2)
      obtain ⟨k8, hk8⟩ : ∃ k8, k8 = 8 * k := ⟨_, rfl⟩
      have e3 : (k : Int) * 2 ^ 3 = (k8 : Int) := by omega
      have e3' : (k : Int) * 8 = (k8 : Int) := by omega
      have e4 : IntKind.i64.wrap (k8 : Int) = (k8 : Int) := by rw [IntKind.wrap_i64]; omega
      have HK8 := Lib.hid hk8
      clear hck HGk HB HS HP hG2 hB2 hS2 hW4 hk8
      go_upto_region 9 with (fail)
      rw [← HW4.out]
      clear hck2 hfk2 hsz hGl e3 e3' e4
      go_upto_if 50 with (fail)
      go_cut [17] (fun a wx => ∃ yo : Nat, W4 = wx ∧ a = .int .i64 yo ∧ yo + 8 ≤ H ∧ yo ≤ k8)
      case first =>
        by_cases h1 : my < k8
        · have q1 : decide ((my : Int) < (k8 : Int)) = true := by simp; omega
          have q2 : decide (my < k8) = true := by simp; omega
          go_wp2_with fail
          go_meet
          case rel => exact ⟨my, rfl, rfl, by have := HMY.out; omega, by omega⟩
        · have q1 : decide ((my : Int) < (k8 : Int)) = false := by simp; omega
          have q2 : decide (my < k8) = false := by simp; omega
          go_wp2_with fail
          go_meet
          case rel => exact ⟨k8, rfl, rfl, by have := HMY.out; omega, by omega⟩
      case rest =>
        obtain ⟨yo, rfl, rfl, hyo, _⟩ := hcut
        clear HW4
        go_wp2_with fail
        go_loopw [18] (fun i wr => ∃ (j : Nat) (bp : Nat → Nat → Nat), j ≤ SW ∧ i = .int .i64 j ∧ Hid (Grid wr 79 3 G SH SW (k + 1) (fun y x => .int .i64 ((bp y x : Nat) : Int))) ∧ Hid (wr.heap.size = G + 1 + (k + 1)) ∧ Hid (Below G w wr) ∧ Hid (∀ y x, (y < k ∧ x < SW ∨ y = k ∧ x < j) → d ≤ bp y x ∧ bp y x < l)) (fun i _ => SW - (intOf i).toNat)
        case atStart => exact ⟨0, _, by omega, rfl, HG2, HS2, HB2, HP2⟩
        case round =>
          obtain ⟨wu, hwu⟩ : ∃ wu, wu = wr := ⟨_, rfl⟩
          rw [← hwu] at hrel ⊢
          clear hwu HG2 HS2 HB2 HP2
          obtain ⟨j, bp2, hj, rfl, HGj, HSj, HBj, HPj⟩ := hrel
          by_cases hjl : j < SW
          · have hj0 : (0 : Int) ≤ (j : Int) := by omega
            have hj1 : (j : Int) < (SW : Int) := by omega
            obtain ⟨j8, hj8⟩ : ∃ j8, j8 = 8 * j := ⟨_, rfl⟩
            have e3 : (j : Int) * 2 ^ 3 = (j8 : Int) := by omega
            have e3' : (j : Int) * 8 = (j8 : Int) := by omega
            have e4 : IntKind.i64.wrap (j8 : Int) = (j8 : Int) := by rw [IntKind.wrap_i64]; omega
            have hj8b : j8 ≤ 200 := by omega
            clear hj8
            go_upto_if 61 with (fail)
            clear e3 e3' e4
            go_cut [19] (fun a wx => ∃ xo : Nat, wu = wx ∧ a = .int .i64 xo ∧ xo + 8 ≤ W ∧ xo ≤ j8)
            case first =>
              by_cases h1 : mx0 < j8
              · have q1 : decide ((mx0 : Int) < (j8 : Int)) = true := by simp; omega
                have q2 : decide (mx0 < j8) = true := by simp; omega
                go_wp2_with fail
                go_meet
                case rel => exact ⟨mx0, rfl, rfl, by have := HMY.out; omega, by omega⟩
              · have q1 : decide ((mx0 : Int) < (j8 : Int)) = false := by simp; omega
                have q2 : decide (mx0 < j8) = false := by simp; omega
                go_wp2_with fail
                go_meet
                case rel => exact ⟨j8, rfl, rfl, by have := HMY.out; omega, by omega⟩
            case rest =>
              obtain ⟨xo, rfl, rfl, hxo, _⟩ := hcut
              have hyW : yo * W ≤ 200 * 200 := Nat.mul_le_mul (by omega) hW
              obtain ⟨m, hm⟩ : ∃ m, m = yo * W := ⟨_, rfl⟩
              rw [← hm] at hyW
              have e1 : (yo : Int) * (W : Int) = (m : Int) := by rw [hm]; simp
              have e2 : IntKind.i64.wrap (m : Int) = (m : Int) := by rw [IntKind.wrap_i64]; omega
              obtain ⟨o0, ho0⟩ : ∃ o, o = m + xo := ⟨_, rfl⟩
              have e3 : IntKind.i64.wrap ((m : Int) + (xo : Int)) = (o0 : Int) := by rw [IntKind.wrap_i64]; omega
              have HP0 : Hid (Prog Z d l W yo xo 0 o0 0 255 0) := Lib.hid (.inl ⟨by omega, by rw [Nat.add_zero, ho0, hm], false, false, rfl, rfl, SumOk.zero d l, fun i c hc hh => by omega⟩)
              have HRu : Hid (Rd wu A N (fun j => .int .u8 ((gr Z W d l j : Nat) : Int))) := Lib.hid (HR.out.below (by rw [← HGE.out]; exact HBj.out))
              clear hm ho0
              go_wp2_with fail
              clear e1 e2 e3 hyW
              go_loop [20, 21, 22, 23, 24] (fun a b c i o => ∃ s mn mx yy q : Nat, a = .int .i64 s ∧ b = .int .i64 mn ∧ c = .int .i64 mx ∧ i = .int .i64 yy ∧ o = .int .i64 q ∧ yy ≤ 9 ∧ Hid (Prog Z d l W yo xo yy q s mn mx)) (fun _ _ _ i _ => 9 - (intOf i).toNat)
              case atStart => exact ⟨0, 255, 0, 0, o0, rfl, rfl, rfl, rfl, by first | rfl | (congr 1; omega), by omega, HP0⟩
              case round =>
                obtain ⟨s, mn, mx, yy, q, rfl, rfl, rfl, rfl, rfl, hy9, HPr⟩ := hrel
                clear HP0
                by_cases hyy : yy < 8
                · have hyyi : (yy : Int) < 8 := by omega
                  have hpr : q = (yo + yy) * W + xo ∧ ∃ a b, mn = MN d l a b ∧ mx = MX d l a b ∧ SumOk d l a (8 * yy) s ∧ MetSq Z yo xo a b yy 0 := by
                    rcases HPr.out with h | h
                    · exact h.2
                    · omega
                  obtain ⟨hq, a, b, h1, h2, h3, h4⟩ := hpr
                  have HQ := Lib.hid hq
                  have HI0 : Hid (∃ a b, mn = MN d l a b ∧ mx = MX d l a b ∧ SumOk d l a (8 * yy + 0) s ∧ MetSq Z yo xo a b yy 0) := Lib.hid ⟨a, b, h1, h2, h3, h4⟩
                  have hqb : q ≤ 40400 := by
                    have h1 : (yo + yy) * W ≤ 200 * 200 := Nat.mul_le_mul (by omega) hW
                    omega
                  clear hq h1 h2 h3 h4 HPr
                  go_wp2_with fail
                  go_loop [20, 21, 22, 25] (fun a b c i => ∃ s mn mx x : Nat, a = .int .i64 s ∧ b = .int .i64 mn ∧ c = .int .i64 mx ∧ i = .int .i64 x ∧ x ≤ 8 ∧ Hid (∃ a b, mn = MN d l a b ∧ mx = MX d l a b ∧ SumOk d l a (8 * yy + x) s ∧ MetSq Z yo xo a b yy x)) (fun _ _ _ i => 8 - (intOf i).toNat)
                  case atStart => exact ⟨s, mn, mx, 0, rfl, rfl, rfl, rfl, by omega, HI0⟩
                  case round =>
                    obtain ⟨s, mn, mx, x, rfl, rfl, rfl, rfl, hx8, HI⟩ := hrel
                    clear HI0
                    by_cases hxx : x < 8
                    · have hxi : (x : Int) < 8 := by omega
                      obtain ⟨ix, hix⟩ : ∃ ix, ix = q + x := ⟨_, rfl⟩
                      have hYH : yo + yy < H := by omega
                      have hXW : xo + x < W := by omega
                      have hixe : ix = (yo + yy) * W + (xo + x) := by have := HQ.out; omega
                      have hixN : ix < N := by
                        have h1 : (yo + yy + 1) * W ≤ H * W := Nat.mul_le_mul_right _ hYH
                        rw [Nat.add_mul (yo + yy), Nat.one_mul, Nat.mul_comm H W, ← HNN.out] at h1
                        omega
                      have e3 : IntKind.i64.wrap ((q : Int) + (x : Int)) = (ix : Int) := by rw [IntKind.wrap_i64]; omega
                      have hix0 : (0 : Int) ≤ (ix : Int) := by omega
                      have hix1 : (ix : Int) < (N : Int) := by omega
                      obtain ⟨ab, ao, hAe, hab, hac⟩ := HRu.out (by omega)
                      subst hAe
                      have hg := gr_at (Z := Z) (W := W) (d := d) (l := l) (y := yo + yy) (x := xo + x) hXW
                      rw [← hixe] at hg
                      have cx := hac ix hixN
                      dsimp only at cx
                      rw [hg] at cx
                      have h256 : (if Z (yo + yy) (xo + x) then d else l) < 256 := by have := HDL.out.1; have := HDL.out.2; split <;> omega
                      obtain ⟨a, b, h1, h2, h3, h4⟩ := HI.out
                      have k1 := mn_step (z := Z (yo + yy) (xo + x)) (a := a) (b := b) HDL.out
                      have k2 := mx_step (z := Z (yo + yy) (xo + x)) (a := a) (b := b) HDL.out
                      have k3 := h3.add (z := Z (yo + yy) (xo + x)) (by omega)
                      have k4 := h4.up
                      rw [← h1] at k1
                      rw [← h2] at k2
                      obtain ⟨u, hu⟩ : ∃ u, u = (if Z (yo + yy) (xo + x) then d else l) := ⟨_, rfl⟩
                      rw [← hu] at cx h256 k1 k2 k3
                      have ea := u8_and_255 u h256
                      have hsb : s ≤ 64 * 255 := by
                        have := h3.weak
                        have h5 : (8 * yy + x) * l ≤ 64 * 255 := Nat.mul_le_mul (by omega) (by have := HDL.out.2; omega)
                        omega
                      have es : IntKind.i64.wrap ((s : Int) + (u : Int)) = ((s + u : Nat) : Int) := by rw [IntKind.wrap_i64]; omega
                      obtain ⟨s2, hs2⟩ : ∃ s2, s2 = s + u := ⟨_, rfl⟩
                      rw [← hs2] at es k3
                      have HI2 : Hid (∃ a b, min u mn = MN d l a b ∧ max u mx = MX d l a b ∧ SumOk d l a (8 * yy + (x + 1)) s2 ∧ MetSq Z yo xo a b yy (x + 1)) := Lib.hid ⟨_, _, k1, k2, k3, k4⟩
                      clear hix hixe hac hg h1 h2 h3 h4 k1 k2 k3 k4 hu hs2 HI
                      by_cases g1 : u < mn
                      · have q1 : decide ((u : Int) < (mn : Int)) = true := by simp; omega
                        have q2 : decide (u < mn) = true := by simp; omega
                        by_cases g2 : mx < u
                        · have q3 : decide ((mx : Int) < (u : Int)) = true := by simp; omega
                          have q4 : decide (mx < u) = true := by simp; omega
                          rw [Nat.min_eq_left (by omega), Nat.max_eq_left (by omega)] at HI2
                          clear g1 g2
                          go_wp2_with fail
                          go_round
                          case rel => exact ⟨s2, u, u, x + 1, rfl, rfl, rfl, by go_num, by omega, HI2⟩
                          case measure => simp [intOf]; omega
                        · have q3 : decide ((mx : Int) < (u : Int)) = false := by simp; omega
                          have q4 : decide (mx < u) = false := by simp; omega
                          rw [Nat.min_eq_left (by omega), Nat.max_eq_right (by omega)] at HI2
                          clear g1 g2
                          go_wp2_with fail
                          go_round
                          case rel => exact ⟨s2, u, mx, x + 1, rfl, rfl, rfl, by go_num, by omega, HI2⟩
                          case measure => simp [intOf]; omega
                      · have q1 : decide ((u : Int) < (mn : Int)) = false := by simp; omega
                        have q2 : decide (u < mn) = false := by simp; omega
                        by_cases g2 : mx < u
                        · have q3 : decide ((mx : Int) < (u : Int)) = true := by simp; omega
                          have q4 : decide (mx < u) = true := by simp; omega
                          rw [Nat.min_eq_right (by omega), Nat.max_eq_left (by omega)] at HI2
                          clear g1 g2
                          go_wp2_with fail
                          go_round
                          case rel => exact ⟨s2, mn, u, x + 1, rfl, rfl, rfl, by go_num, by omega, HI2⟩
                          case measure => simp [intOf]; omega
                        · have q3 : decide ((mx : Int) < (u : Int)) = false := by simp; omega
                          have q4 : decide (mx < u) = false := by simp; omega
                          rw [Nat.min_eq_right (by omega), Nat.max_eq_right (by omega)] at HI2
                          clear g1 g2
                          go_wp2_with fail
                          go_round
                          case rel => exact ⟨s2, mn, mx, x + 1, rfl, rfl, rfl, by go_num, by omega, HI2⟩
                          case measure => simp [intOf]; omega
                    · obtain rfl : x = 8 := by omega
                      obtain ⟨a, b, h1, h2, h3, h4⟩ := HI.out
                      have hsb : s ≤ 64 * 255 := by
                        have := h3.weak
                        have h5 : (8 * yy + 8) * l ≤ 64 * 255 := Nat.mul_le_mul (by omega) (by have := HDL.out.2; omega)
                        omega
                      obtain ⟨q2, hq2⟩ : ∃ q2, q2 = q + W := ⟨_, rfl⟩
                      have e5 : IntKind.i64.wrap ((q : Int) + (W : Int)) = (q2 : Int) := by rw [IntKind.wrap_i64]; omega
                      have HQ2 : Hid (q2 = (yo + (yy + 1)) * W + xo) := Lib.hid (by rw [← Nat.add_assoc, Nat.add_mul (yo + yy), Nat.one_mul]; have := HQ.out; omega)
                      have hq2b : q2 ≤ 40600 := by omega
                      have HMET := Lib.hid h4.next
                      have h3' : SumOk d l a (8 * (yy + 1)) s := by rw [Nat.mul_add]; exact h3
                      have HSU := Lib.hid h3'
                      clear hq2 h4 h3 h3' HI hx8 hxx
                      by_cases hab : a = true ∧ b = true
                      · obtain ⟨rfl, rfl⟩ := hab
                        obtain rfl : mn = d := h1
                        obtain rfl : mx = l := h2
                        obtain ⟨dm, hdm⟩ : ∃ dm, dm = mx - mn := ⟨_, rfl⟩
                        have ew : IntKind.i64.wrap ((mx : Int) - (mn : Int)) = (dm : Int) := by have := HDL.out.2; rw [IntKind.wrap_i64]; omega
                        have q1 : decide ((24 : Int) < (dm : Int)) = true := by simp; omega
                        have q2' : decide (24 < dm) = true := by simp; omega
                        have e6 : IntKind.i64.wrap ((yy : Int) + 1) = ((yy + 1 : Nat) : Int) := by rw [IntKind.wrap_i64]; omega
                        obtain ⟨y1, hy1⟩ : ∃ y1, y1 = yy + 1 := ⟨_, rfl⟩
                        rw [← hy1] at e6 HQ2 HSU
                        have hy18 : y1 ≤ 8 := by omega
                        clear hdm HMET
                        go_wp2_with fail
                        clear q1 q2' ew e6 e5
                        go_loop [20, 23, 24] (fun a i o => ∃ s yv q : Nat, a = .int .i64 s ∧ i = .int .i64 yv ∧ o = .int .i64 q ∧ yv ≤ 8 ∧ Hid (q = (yo + yv) * W + xo) ∧ Hid (SumOk mn mx true (8 * yv) s)) (fun _ i _ => 8 - (intOf i).toNat)
                        case atStart => exact ⟨s, y1, q2, rfl, by first | rfl | (congr 1; omega), by first | rfl | (congr 1; omega), hy18, HQ2, HSU⟩
                        case round =>
                          obtain ⟨s, yv, q, rfl, rfl, rfl, hyv, HQv, HSv⟩ := hrel
                          clear HQ2 HSU HQ
                          have hqb2 : q ≤ 40600 := by
                            have h1 : (yo + yv) * W ≤ 200 * 200 := Nat.mul_le_mul (by omega) hW
                            have := HQv.out; omega
                          by_cases hyl : yv < 8
                          · have hyli : (yv : Int) < 8 := by omega
                            have HS0 : Hid (SumOk mn mx true (8 * yv + 0) s) := HSv
                            go_wp2_with fail
                            go_loop [20, 27] (fun a i => ∃ s x : Nat, a = .int .i64 s ∧ i = .int .i64 x ∧ x ≤ 8 ∧ Hid (SumOk mn mx true (8 * yv + x) s)) (fun _ i => 8 - (intOf i).toNat)
                            case atStart => exact ⟨s, 0, rfl, rfl, by omega, HS0⟩
                            case round =>
                              obtain ⟨s, x, rfl, rfl, hx8, HSx⟩ := hrel
                              clear HS0 HSv
                              by_cases hxx : x < 8
                              · have hxi : (x : Int) < 8 := by omega
                                obtain ⟨ix, hix⟩ : ∃ ix, ix = q + x := ⟨_, rfl⟩
                                have hYH : yo + yv < H := by omega
                                have hXW : xo + x < W := by omega
                                have hixe : ix = (yo + yv) * W + (xo + x) := by have := HQv.out; omega
                                have hixN : ix < N := by
                                  have h1 : (yo + yv + 1) * W ≤ H * W := Nat.mul_le_mul_right _ hYH
                                  rw [Nat.add_mul (yo + yv), Nat.one_mul, Nat.mul_comm H W, ← HNN.out] at h1
                                  omega
                                have e3 : IntKind.i64.wrap ((q : Int) + (x : Int)) = (ix : Int) := by rw [IntKind.wrap_i64]; omega
                                have hix0 : (0 : Int) ≤ (ix : Int) := by omega
                                have hix1 : (ix : Int) < (N : Int) := by omega
                                obtain ⟨ab, ao, hAe, hab, hac⟩ := HRu.out (by omega)
                                subst hAe
                                have hg := gr_at (Z := Z) (W := W) (d := mn) (l := mx) (y := yo + yv) (x := xo + x) hXW
                                rw [← hixe] at hg
                                have cx := hac ix hixN
                                dsimp only at cx
                                rw [hg] at cx
                                have h256 : (if Z (yo + yv) (xo + x) then mn else mx) < 256 := by have := HDL.out.1; have := HDL.out.2; split <;> omega
                                have k3 := HSx.out.add (z := Z (yo + yv) (xo + x)) (by omega)
                                rw [Bool.true_or] at k3
                                obtain ⟨u, hu⟩ : ∃ u, u = (if Z (yo + yv) (xo + x) then mn else mx) := ⟨_, rfl⟩
                                rw [← hu] at cx h256 k3
                                have ea := u8_and_255 u h256
                                have hsb : s ≤ 64 * 255 := by
                                  have := HSx.out.weak
                                  have h5 : (8 * yv + x) * mx ≤ 64 * 255 := Nat.mul_le_mul (by omega) (by have := HDL.out.2; omega)
                                  omega
                                obtain ⟨s2, hs2⟩ : ∃ s2, s2 = s + u := ⟨_, rfl⟩
                                have es : IntKind.i64.wrap ((s : Int) + (u : Int)) = (s2 : Int) := by rw [IntKind.wrap_i64]; omega
                                rw [← hs2] at k3
                                have HS2 : Hid (SumOk mn mx true (8 * yv + (x + 1)) s2) := Lib.hid k3
                                clear hix hixe hac hg k3 hu hs2 HSx
                                go_wp2_with fail
                                go_round
                                case rel => exact ⟨s2, x + 1, by first | rfl | (congr 1; omega), by go_num, by omega, HS2⟩
                                case measure => simp [intOf]; omega
                              · obtain rfl : x = 8 := by omega
                                obtain ⟨q3, hq3⟩ : ∃ q3, q3 = q + W := ⟨_, rfl⟩
                                have e5 : IntKind.i64.wrap ((q : Int) + (W : Int)) = (q3 : Int) := by rw [IntKind.wrap_i64]; omega
                                have HQ3 : Hid (q3 = (yo + (yv + 1)) * W + xo) := Lib.hid (by rw [← Nat.add_assoc, Nat.add_mul (yo + yv), Nat.one_mul]; have := HQv.out; omega)
                                have HS3 : Hid (SumOk mn mx true (8 * (yv + 1)) s) := Lib.hid (by rw [Nat.mul_add]; exact HSx.out)
                                clear hq3 HSx
                                go_wp2_with fail
                                go_round
                                case rel => exact ⟨s, yv + 1, q3, rfl, by go_num, by first | rfl | (congr 1; omega), by omega, HQ3, HS3⟩
                                case measure => simp [intOf]; omega
                          · obtain rfl : yv = 8 := by omega
                            have HPF : Hid (∀ q', Prog Z mn mx W yo xo 9 q' s mn mx) := Lib.hid (fun q' => .inr ⟨by omega, by omega, rfl, rfl, HSv.out⟩)
                            have e5 : IntKind.i64.wrap ((q : Int) + (W : Int)) = ((q + W : Nat) : Int) := by rw [IntKind.wrap_i64]; omega
                            clear HSv
                            go_wp2_with fail
                            go_round
                            case rel => exact ⟨s, mn, mx, 9, q + W, rfl, rfl, rfl, by first | rfl | go_num, by first | rfl | go_num | (congr 1; omega), by omega, Lib.hid (HPF.out _)⟩
                            case measure => simp [intOf]; omega
                      · have hdf : ∃ dm : Int, IntKind.i64.wrap ((mx : Int) - (mn : Int)) = dm ∧ dm ≤ 24 := by
                          refine ⟨(mx : Int) - mn, ?_, ?_⟩
                          · have hb1 : mx ≤ 255 ∧ mn ≤ 255 := by
                              have k1 := HDL.out.1
                              have k2 := HDL.out.2
                              rw [h1, h2]; unfold MN MX
                              cases a <;> cases b <;> simp <;> omega
                            rw [IntKind.wrap_i64]; omega
                          · rw [h1, h2]; unfold MN MX
                            cases a <;> cases b <;> simp_all
                        obtain ⟨dm, ew, hdm⟩ := hdf
                        have q1 : decide ((24 : Int) < dm) = false := by simp; omega
                        have HPF : Hid (Prog Z d l W yo xo (yy + 1) q2 s mn mx ∧ yy + 1 ≤ 9) := Lib.hid ⟨by
                          by_cases h8 : yy + 1 < 8
                          · exact .inl ⟨h8, HQ2.out, a, b, h1, h2, HSU.out, HMET.out⟩
                          · have e8 : yy + 1 = 8 := by omega
                            have := HMET.out
                            rw [e8] at this
                            exact absurd (this.all (HSQ.out yo xo hyo hxo)) hab, by omega⟩
                        have e6 : IntKind.i64.wrap ((yy : Int) + 1) = ((yy + 1 : Nat) : Int) := by rw [IntKind.wrap_i64]; omega
                        clear h1 h2 hab HMET HSU HQ2
                        go_wp2_with fail
                        go_round
                        case rel => exact ⟨s, mn, mx, yy + 1, q2, rfl, rfl, rfl, by go_num, by first | rfl | (congr 1; omega), HPF.out.2, Lib.hid HPF.out.1⟩
                        case measure => simp [intOf]; omega
                · have hfin : mn = d ∧ mx = l ∧ SumOk d l true 64 s := by
                    rcases HPr.out with h | h
                    · omega
                    · exact h.2.2
                  obtain ⟨rfl, rfl, hsu⟩ := hfin
                  have hdl2 := HDL.out
                  obtain ⟨av, hav⟩ : ∃ av, av = s / 64 := ⟨_, rfl⟩
                  have hsu1 : 64 * mn ≤ s := hsu.1
                  have hsu2 : s + (mx - mn) ≤ 64 * mx := hsu.2
                  have ha1 : mn ≤ av := by rw [hav]; omega
                  have ha2 : av < mx := by rw [hav]; omega
                  have ha3 : av < 256 := by have := hdl2.2; omega
                  have hsb : s ≤ 64 * 255 := by have := hdl2.2; omega
                  have e1 : (s : Int) / 64 = (av : Int) := by omega
                  have e2 : (s : Int) / 2 ^ 6 = (av : Int) := by omega
                  have e3 : IntKind.i64.wrap (av : Int) = (av : Int) := by rw [IntKind.wrap_i64]; omega
                  obtain ⟨dm, hdm⟩ : ∃ dm, dm = mx - mn := ⟨_, rfl⟩
                  have ew : IntKind.i64.wrap ((mx : Int) - (mn : Int)) = (dm : Int) := by have := hdl2.2; rw [IntKind.wrap_i64]; omega
                  have q1 : decide ((dm : Int) ≤ 24) = false := by simp; omega
                  have q2 : decide (dm ≤ 24) = false := by simp; omega
                  have ch := HGj.out.head k (by omega) hlt
                  have cc := HGj.out.cell k j (by omega) hjl
                  have fc := (HGj.out.row k (by omega)).free j
                  have HG5 : Hid (Grid (wu.setCell ⟨G + 1 + k, j, none⟩ (.int .i64 av)) 79 3 G SH SW (k + 1) (fun y x => .int .i64 (((if y = k ∧ x = j then av else bp2 y x : Nat)) : Int))) := Lib.hid (HGj.out.set_ k j (by omega) (.int .i64 av) (fun r' c' hr' hc' => by by_cases e : r' = k ∧ c' = j <;> simp [e]))
                  have HS5 : Hid ((wu.setCell ⟨G + 1 + k, j, none⟩ (.int .i64 av)).heap.size = G + 1 + (k + 1)) := Lib.hid (by simp only [World.setCell]; rw [Array.size_modify]; exact HSj.out)
                  have HB5 : Hid (Below G w (wu.setCell ⟨G + 1 + k, j, none⟩ (.int .i64 av))) := Lib.hid (HBj.out.setCell (p := ⟨G + 1 + k, j, none⟩) (by dsimp only; omega) _)
                  have HP5 : Hid (∀ y x, (y < k ∧ x < SW ∨ y = k ∧ x < j + 1) → mn ≤ (if y = k ∧ x = j then av else bp2 y x) ∧ (if y = k ∧ x = j then av else bp2 y x) < mx) := Lib.hid (fun y x h => by
                    by_cases e : y = k ∧ x = j
                    · rw [if_pos e]; exact ⟨ha1, ha2⟩
                    · rw [if_neg e]; exact HPj.out y x (by omega))
                  clear hsu hsu1 hsu2 hav hdm HGj HSj HBj HPj HPr
                  go_wp2_with fail
                  go_roundw
                  case rel => exact ⟨j + 1, _, by omega, by go_num, HG5, HS5, HB5, HP5⟩
                  case measure => simp [intOf]; omega
          · obtain rfl : j = SW := by omega
            have HP3 : Hid (∀ y x, y < k + 1 → x < j → d ≤ bp2 y x ∧ bp2 y x < l) := Lib.hid (fun y x h1 h2 => HPj.out y x (by omega))
            clear HPj
            go_wp2_with fail
            go_roundw
            case rel => exact ⟨k + 1, bp2, by omega, by go_num, HGj, HSj, HBj, HP3⟩
            case measure => simp [intOf]; omega
    · obtain rfl : k = SH := by omega
      go_wp2_with fail
      go_ret
      exact ⟨G, bp, rfl, HGk, HP, by rw [← HGE.out]; exact HB.out⟩
end Go.Proofs.Ythgnmcofclndlaa
