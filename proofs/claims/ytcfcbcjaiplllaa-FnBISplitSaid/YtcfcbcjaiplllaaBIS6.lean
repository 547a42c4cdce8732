/-
  impl.ArrayRun over steps that append numbers, walked. No condition beyond the bounds that the theorem states.
-/
import Derived.Test.YtcfcbcjaiplllaaBIS4
import Derived.Test.YtcfcbcjaiplllaaBIS5
import Derived.Outline
namespace Go.Proofs.Ytcfcbcjaiplllaa
open Go.RowKit Go.Qz Go.Qz.BS
set_option linter.unusedVariables false

/-- The first P bits of the bytes. -/
def zz (B : List Nat) (P i : Nat) : Bool := decide (i < P) && decide (bitAt B i = 1)
theorem zAdd_num (B : List Nat) (P k : Nat) : ∀ i, zAdd P k (num B P k) k (zz B P) i = zz B (P + k) i := by
  intro i
  unfold zAdd zz
  by_cases h : i < P
  · rw [if_pos h]; simp [h, show i < P + k by omega]
  · rw [if_neg h]
    by_cases h2 : i < P + k
    · have := num_bit B P k (i - P) (by omega)
      rw [show P + (i - P) = i by omega] at this
      simp only [h2, decide_true, Bool.true_and]
      rw [Nat.testBit_eq_decide_div_mod_eq, this]
    · simp [h2]

/-- The cells of a step. -/
def stepCells (B ks : List Nat) (j : Nat) : List Value := [.int .i64 6, .int .i64 (num B (pos ks j) (nth ks j) : Nat), .int .i64 (nth ks j : Nat), .slice none 0 0]

def ARPost (B ks : List Nat) (w : World) (e : Ending) (w' : World) : Prop :=
  ∃ A c v, e = .returned (.tuple #[.slice A ks.sum c, v]) ∧ Rd w' A ks.sum (fun j => .bool (zz B ks.sum j)) ∧ Below w.heap.size w w'

set_option maxRecDepth 100000 in
set_option maxHeartbeats 6400000 in
theorem arrayRun (B ks : List Nat) (A : Option Addr) (m c : Nat) (hm : m = ks.length) (hml : m < 1000000) (hk : ∀ j, j < m → nth ks j ≤ 32) (hs : ks.sum < 90000) (hB : ∀ j, nth B j < 256) (w : World)
    (h : 0 < m → ∃ b off, A = some ⟨b, off, none⟩ ∧ b < w.heap.size ∧ ∀ j, j < m → ∀ i v, (stepCells B ks j)[i]? = some v → w.cell? ⟨b, off + j * 4 + i, none⟩ = some v) :
    Calls Try.prog 19 #[.slice none 0 0, .slice A m c] w (ARPost B ks w) := by
  have HM := Lib.hid hm
  have HK := Lib.hid hk
  have HS := Lib.hid hs
  have HB := Lib.hid hB
  have HC := Lib.hid h
  clear hm hk hs hB h
  go_enter Try.func19, Try.ntmps19
  go_wp2_with fail
  refine (ba_array none 0 0 (fun _ => false) _ (by omega) (fun h => absurd h (by omega))).mono ?_
  rintro e w1 ⟨p, g, ws, rfl, hba, hl, hz, hb1, hp, hg⟩
  have HZ0 : Hid (BitsZ w1 p g (pos ks 0) (pos ks 0) (zz B (pos ks 0))) := Lib.hid (by
    rw [show pos ks 0 = 0 by simp [pos]]
    exact ⟨ws, hba, hl, fun i => by rw [hz i]; simp [zz]⟩)
  have HP := Lib.hid hp
  have HG := Lib.hid hg
  have HB1 := Lib.hid hb1
  clear hba hl hz hb1 hp hg
  go_wp2_with fail
  go_loopw [7, 15] (fun a i wr => ∃ q g1 : Nat, q ≤ m ∧ i = .int .i64 q ∧ Hid (w.heap.size ≤ g1) ∧ Hid (BitsZ wr p g1 (pos ks q) (pos ks q) (zz B (pos ks q))) ∧ Hid (wr.ownsRow w.heap.size 4 1 a q (trues q)) ∧ Hid (∀ k, a.ownBlock = some k → k ≠ p ∧ k ≠ g1) ∧ Hid (Below w.heap.size w wr)) (fun _ i _ => m - (intOf i).toNat)
  case atStart => exact ⟨0, g, Nat.zero_le _, rfl, HG, HZ0, Lib.hid (World.ownsRow_nil _ _ _ _), Lib.hid (by simp [Value.ownBlock]), HB1⟩
  case round =>
    obtain ⟨q, g1, hq, rfl, HG1, HZ, HO, HOB, HBE⟩ := hrel
    clear HZ0 HB1
    by_cases hlt : q < m
    · have hq1 : (q : Int) < (m : Int) := by omega
      have hq0 : (0 : Int) ≤ (q : Int) := by omega
      obtain ⟨b, off, e, hb, hc⟩ := HC.out (by omega)
      subst e
      have cc := fun i v hv => (HBE.out.cell (p := ⟨b, off + q * 4 + i, none⟩) hb).trans (hc q hlt i v hv)
      have c0 := cc 0 _ rfl
      have c1 := cc 1 _ rfl
      have c2 := cc 2 _ rfl
      have c3 := cc 3 _ rfl
      clear hc cc
      obtain ⟨k, hk⟩ : ∃ k, k = nth ks q := ⟨_, rfl⟩
      obtain ⟨P, hP⟩ : ∃ P, P = pos ks q := ⟨_, rfl⟩
      obtain ⟨v, hv⟩ : ∃ v, v = num B P k := ⟨_, rfl⟩
      rw [← hk] at c2
      rw [← hk, ← hP, ← hv] at c1
      rw [Nat.add_zero] at c0
      have hk32 : k ≤ 32 := by rw [hk]; exact HK.out q hlt
      have hpl := pos_le ks (q + 1)
      rw [pos_succ (by have := HM.out; omega), ← hk, ← hP] at hpl
      have hvl : v < 4294967296 := by
        have h1 := num_lt B P k
        have h2 : 2 ^ k ≤ 2 ^ 32 := Nat.pow_le_pow_right (by omega) (by omega)
        have h3 : (2 : Nat) ^ 32 = 4294967296 := rfl
        rw [hv]; omega
      have hPS : pos ks (q + 1) = P + k := by rw [pos_succ (by have := HM.out; omega), ← hk, ← hP]
      rw [← hP] at HZ
      have HPS := Lib.hid hPS
      have HV := Lib.hid hv
      have HPL := Lib.hid hpl
      clear hk hP hv hpl hPS
      have HAB := fun W (hW : BitsZ W p g1 P P (zz B P)) => appendBits p g1 P k v (zz B P) hk32 hvl (by have := HPL.out; have := HS.out; omega) (fun i hi => by simp [zz]; omega) W hW
      have HAB := Lib.hid HAB
      have hpw : p < wr.heap.size := by obtain ⟨ws, hb, _⟩ := HZ.out; exact hb.plt
      have hgw : g1 < wr.heap.size := by obtain ⟨ws, hb, _⟩ := HZ.out; exact hb.glt
      go_wp2_with fail
      refine (HAB.out _ (by obtain ⟨ws, hb, h2⟩ := HZ.out; exact ⟨ws, hb.alloc _, h2⟩)).mono ?_
      rintro e w4 ⟨rfl, g2, hz4, hm4, hg4⟩
      have hown4 : w4.ownsRow w.heap.size 4 1 _ q (trues q) := Par.own_local (HO.out.alloc _) (fun k hk => hm4.block k (by have := Par.own_lt HO.out hk; simp; omega) (by have := HOB.out k (by simpa using hk); intro hh; rcases hh with h | h <;> omega))
      have HZ4 : Hid (BitsZ w4 p g2 (pos ks (q + 1)) (pos ks (q + 1)) (zz B (pos ks (q + 1)))) := Lib.hid (by
        rw [HPS.out]
        obtain ⟨ws, h1, h2, h3⟩ := hz4
        exact ⟨ws, h1, h2, fun i => by rw [h3 i, HV.out]; exact zAdd_num B P k i⟩)
      have HG4 : Hid (w.heap.size ≤ g2) := Lib.hid (by
        rcases hg4 with h | h
        · have := HG1.out; omega
        · have := HBE.out.size; simp at h; omega)
      have hbe4 : Below w.heap.size w w4 := (HBE.out.alloc HBE.out.size _).trans (hm4.below (by have := HBE.out.size; simp; omega) (fun k hk => by have := HP.out; have := HG1.out; rcases hk with h | h <;> omega))
      have hob4 := (fun (v : Value) (hO : wr.ownsRow w.heap.size 4 1 v q (trues q)) (hB : ∀ k, v.ownBlock = some k → k ≠ p ∧ k ≠ g1) k (hk : v.ownBlock = some k) => show k ≠ p ∧ k ≠ g2 from ⟨(hB k hk).1, fun e => by
        have h1 := Par.own_lt hO (k := k) (by simpa using hk)
        rcases hg4 with h | h
        · exact (hB k hk).2 (e.trans h)
        · simp at h; omega⟩) _ HO.out HOB.out
      have HO4 := Lib.hid hown4
      have HBE4 := Lib.hid hbe4
      have HOB4 := Lib.hid hob4
      have hpw4 : p < w4.heap.size := by obtain ⟨ws, hb, _⟩ := hz4; exact hb.plt
      clear hz4 hm4 hg4 hown4 hbe4 hob4 HAB HZ HO HOB HBE HG1 c0 c1 c2 c3
      go_wp2_with (at_builtin; refine wpList_pushAt _ _ 22 w.heap.size 4 (.bool false) 1 _ q (trues q) (.bool true) rfl rfl rfl rfl Try.underlying22 Try.infoBoolS rfl rfl (by decide) HO4.out (by omega) HBE4.out.size ?_)
      intro v5 w5 hown5 hgr5 hb5 hat5
      rw [← trues_succ] at hown5
      have HO5 := Lib.hid hown5
      have HZ5 : Hid (BitsZ w5 p g2 (pos ks (q + 1)) (pos ks (q + 1)) (zz B (pos ks (q + 1)))) := Lib.hid (by
        obtain ⟨ws, hb, h2⟩ := HZ4.out
        refine ⟨ws, hb.keep (hgr5.block p hb.plt (fun e => ?_)) (hgr5.block g2 hb.glt (fun e => ?_)), h2⟩
        · exact (HOB4.out p e.symm).1 rfl
        · exact (HOB4.out g2 e.symm).2 rfl)
      have HOB5 : Hid (∀ k, v5.ownBlock = some k → k ≠ p ∧ k ≠ g2) := Lib.hid (fun k hk => by
        rcases hat5 with h | h
        · exact HOB4.out k (by rw [← h, hk])
        · rw [h] at hk; injection hk with hk
          obtain ⟨ws, hb, _⟩ := HZ4.out
          have h1 := hb.plt
          have h2 := hb.glt
          exact ⟨by omega, by omega⟩)
      have HB5 := Lib.hid (HBE4.out.trans hb5)
      clear hown5 hgr5 hb5 hat5 HO4 HZ4 HOB4 HBE4
      go_wp2_with fail
      go_roundw
      case rel => exact ⟨q + 1, g2, by omega, by go_num, HG4, HZ5, HO5, HOB5, HB5⟩
      case measure => simp [intOf]; omega
    · obtain rfl : q = m := by omega
      obtain ⟨ws, hba, hwl, hz⟩ := HZ.out
      have hps : pos ks q = ks.sum := by unfold pos; rw [HM.out, List.take_length]
      rw [hps] at hba hwl hz
      have HBB := Lib.hid (ba_bools p g1 ks.sum ws wr hba (by have := HS.out; omega) hwl)
      have HZ9 := Lib.hid hz
      clear hba hwl hz hps
      go_wp2_with fail
      refine HBB.out.mono ?_
      rintro e w5 ⟨b5, rfl, hr5, hb5⟩
      have HR5 := Lib.hid (hr5.congr (g := fun j => .bool (zz B ks.sum j)) (fun j hj => by rw [HZ9.out j]))
      have HB5 := Lib.hid (HBE.out.trans (hb5.mono HBE.out.size))
      clear hr5 hb5
      go_wp2_with fail
      go_ret2
      exact ⟨_, _, _, rfl, HR5.out, HB5.out⟩
end Go.Proofs.Ytcfcbcjaiplllaa
