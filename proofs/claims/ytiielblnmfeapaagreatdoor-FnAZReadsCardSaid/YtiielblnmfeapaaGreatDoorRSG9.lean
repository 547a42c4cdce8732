
/-
  spec.RSHurt, walked; and what it leaves is a received word.
-/
import Derived.Test.YtiielblnmfeapaaGreatDoorRSG6
import Derived.Test.YtiielblnmfeapaaGreatDoorRSD6
import Derived.BigRegion
import Derived.Deep.RegionHeld3
import Derived.Deep.RegionLaw
namespace Go.Qz.RS
open Go.Qz Go.Proofs.YtiielblnmfeapaaGreatDoor
set_option linter.unusedVariables false
variable {F : Fld}
/-- Words that differ at few places are a code that was received. -/
theorem rcv_of (hF : Six F) {L R H : List Nat} (hL : El F L) (hR : El F R) (hlen : R.length = L.length) (hd : ∀ k, k < L.length → k ∉ H → nth R k = nth L k) :
    ∃ J Y, J.Nodup ∧ J.length ≤ H.length ∧ (∀ j ∈ J, j < L.length) ∧ (∀ j, Y j < F.size) ∧ (∀ j, Y j ≠ 0) ∧ Rcv F Y L R J := by
  have hs := hF.bounds
  obtain ⟨Y, hY⟩ : ∃ Y : Nat → Nat, Y = fun i => if RS.co R i ^^^ RS.co L i = 0 then 1 else RS.co R i ^^^ RS.co L i := ⟨_, rfl⟩
  obtain ⟨J, hJ⟩ : ∃ J, J = (List.range L.length).filter (fun i => RS.co R i != RS.co L i) := ⟨_, rfl⟩
  have hmem : ∀ j, j ∈ J ↔ j < L.length ∧ RS.co R j ≠ RS.co L j := fun j => by rw [hJ]; simp
  have nd : J.Nodup := by rw [hJ]; exact List.Pairwise.filter _ List.nodup_range
  refine ⟨J, Y, nd, ?_, fun j hj => ((hmem j).1 hj).1, fun j => ?_, fun j => ?_, hlen, fun i => ?_⟩
  · have hsub : ∀ k ∈ J.map (fun i => L.length - 1 - i), k ∈ H := by
      intro k hk
      obtain ⟨i, hi, rfl⟩ := List.mem_map.1 hk
      obtain ⟨h1, h2⟩ := (hmem i).1 hi
      by_cases e : L.length - 1 - i ∈ H
      · exact e
      · exfalso
        apply h2
        unfold RS.co
        rw [hlen, if_pos h1, if_pos h1]
        exact hd _ (by omega) e
    have hnd : (J.map (fun i => L.length - 1 - i)).Nodup := by
      unfold List.Nodup
      rw [List.pairwise_map]
      refine List.Pairwise.imp_of_mem ?_ nd
      intro a b ha hb hne e
      have := ((hmem a).1 ha).1
      have := ((hmem b).1 hb).1
      exact hne (by omega)
    have := hnd.length_le_of_subset hsub
    rwa [List.length_map] at this
  · rw [hY]; dsimp only
    split
    · omega
    · exact xor_lt_size hF (co_lt hR j) (co_lt hL j)
  · rw [hY]; dsimp only
    split
    · omega
    · assumption
  · unfold errc
    by_cases hm : i ∈ J
    · rw [if_pos hm, hY]; dsimp only
      have hne := ((hmem i).1 hm).2
      rw [if_neg (fun e => hne (by
        have h2 : RS.co R i ^^^ RS.co L i ^^^ RS.co L i = 0 ^^^ RS.co L i := by rw [e]
        rwa [Nat.xor_assoc, Nat.xor_self, Nat.xor_zero, Nat.zero_xor] at h2))]
      rw [Nat.xor_comm (RS.co R i), ← Nat.xor_assoc, Nat.xor_self, Nat.zero_xor]
    · rw [if_neg hm, Nat.xor_zero]
      by_cases hi : i < L.length
      · exact Classical.byContradiction fun e => hm ((hmem i).2 ⟨hi, e⟩)
      · rw [co_past (by omega), co_past (by omega)]
end Go.Qz.RS
namespace Go.Proofs.YtiielblnmfeapaaGreatDoor
open Go.RowKit Go.Qz Go.Qz.RS
set_option linter.unusedVariables false

theorem Tryz.infoBoolH : (Tryz.prog.info? 4).map (fun i => (i.zero, i.size, i.bytes)) = some (some (.bool false), 1, 1) := by kernel_rfl

theorem rem_runH (a b c : Int) (h0 : ¬ b = 0) (h : a.tmod b = c) (W : World) : (binOp .rem 3 (.int .i64 a) (.int .i64 b)).run Tryz.prog W = .ok (.int .i64 c) W := by
  rw [← h]
  show Sem.run _ _ _ = _
  simp [binOp, go_sem, h0]

def HurtPost (F : Fld) (L : List Nat) (n most : Nat) (w : World) (e : Ending) (w' : World) : Prop :=
  ∃ (R H : List Nat) (A : Option Addr) (c : Nat), e = .returned (.slice A n c) ∧ SlQ w' (fun _ => True) A R c ∧ R.length = n ∧ El F R ∧ H.length ≤ most ∧ (∀ k, k < n → k ∉ H → nth R k = nth L k) ∧ Below w.heap.size w w'

end Go.Proofs.YtiielblnmfeapaaGreatDoor
