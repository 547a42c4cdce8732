/-
  Rows of zeros, a copy of a row inside a region that draws its order; single bits written. No condition beyond the bounds that each theorem states.
-/
import Derived.Test.YtcfcbcjaiplllaaBGW
import Derived.BigRegion
import Derived.Deep.RegionLaw
namespace Go.Proofs.Ytcfcbcjaiplllaa
open Go.RowKit Go.Qz
set_option linter.unusedVariables false

/-- 'append(v, xs...)' onto a row of the call's own, inside a region. -/
theorem step_copyTo {P : Program} {W : World} {ops : Array Oper} {o : Oper} {a : Act} {K : Act → World → Prop} {Q : Exit → Act → World → Prop} {E : Prop} (s x : Operand) (t : TypeId)
    (base : Nat) (e : TypeId) (z : Value) (bytes : Nat) (v : Value) (n : Nat) (xs : List Value) (ad : Addr) (m c : Nat) (f : Nat → Value)
    (hgd : o.guard = none) (ho : o.op = .call { callee := .builtin .append, args := #[s, x], argTypes := #[t, t] })
    (hs : a.eval s = v) (hx : a.eval x = .slice (some ad) m c)
    (ht : P.underlying t = some (.slice e)) (hi : (P.info? e).map (fun i => (i.zero, i.size, i.bytes)) = some (some z, 1, bytes)) (hzs : z.cells.size = 1) (h1 : ∀ j, j < m → (f j).oneCell' = true) (hb : bytes ≤ 64)
    (hown : W.ownsRow base e 1 v n xs) (hr : Rd W (some ad) m f) (hn : n + m < 1099511627776) (hbase : base ≤ W.heap.size) (hm : 0 < m)
    (h : ∀ v' w', w'.ownsRow base e 1 v' (n + m) (xs ++ (List.range m).map f) → W.grownBy w' v.ownBlock → Below base W w' → K (a.put o.dst v') w') :
    if Region.wanted o (yielded ops a.tmps) = true then Oper.wp P o a W K Q else E := by
  have hw : Region.wanted o (yielded ops a.tmps) = true := by simp [Region.wanted, hgd]
  rw [if_pos hw]
  obtain ⟨i0, hi, hz0, hz1, hz2⟩ := info_parts hi
  refine wp_append_own _ s x t ho base e i0 z 1 bytes ht hi hz0 hz1 hz2 hzs (by decide) v n xs hs hown ad m c ((List.range m).map f) hx (by simp) ?_ ?_ ?_ ?_ hbase ?_
  · intro j u hu
    have hj : j < m := by
      rcases Nat.lt_or_ge j m with h | h
      · exact h
      · rw [List.getElem?_eq_none (by simpa using h)] at hu; cases hu
    obtain ⟨b, off, e1, hb, hc⟩ := hr (by omega)
    have e2 : ad = ⟨b, off, none⟩ := by injection e1
    have e3 : u = f j := by
      rw [List.getElem?_map, List.getElem?_range hj] at hu
      simpa using hu.symm
    rw [e2, e3, ← hc j hj]
    unfold Addr.add
    split <;> simp_all
  · intro u hu
    obtain ⟨j, hj, rfl⟩ := List.mem_map.1 hu
    exact h1 j (by simpa using hj)
  · unfold maxLen; omega
  · have : (n + m) * bytes ≤ 1099511627776 * 64 := Nat.mul_le_mul (by omega) hb
    omega
  · intro v' w' g1 g2 _
    exact h v' w' g1 g2 ((Below.refl _ _).grown g2 hbase fun k hk => (hown.lt k hk).1)

def ZeroPost (H W : Nat) (w : World) (e : Ending) (w' : World) : Prop := ∃ G R C, e = .returned (.slice (some ⟨G, 0, none⟩) H H) ∧ Hid (WR w' w.heap.size G W (· < H) (fun _ _ => false) R C) ∧ Below w.heap.size w w'

set_option maxRecDepth 100000 in
set_option maxHeartbeats 1600000 in
theorem biZeros (W H : Nat) (hW : 0 < W) (hWl : W < 100000) (hHl : H < 100000) (w : World) :
    Calls Try.prog 22 #[.int .i64 W, .int .i64 H, .slice none 0 0] w (ZeroPost H W w) := by
  have hmkH := fun W => run_make1 (P := Try.prog) 29 22 (.slice none 0 0) 24 Try.underlying29 Try.infoBools rfl (by decide) H (by omega) .i64 .i64 H rfl W
  have hmkW := fun X => run_make1 (P := Try.prog) 22 4 (.bool false) 1 Try.underlying22 Try.infoBoolG rfl (by decide) W (by omega) .i64 .i64 W rfl X
  have HA0 : Hid (Arr (w.alloc (.cells (zeros H (.slice none 0 0)) 22)) 22 w.heap.size (hdrs w.heap.size W H 0)) := Lib.hid (by
    rw [hdrs_zero]; exact Arr.new w 22 _)
  have HB0 : Hid (Below w.heap.size w (w.alloc (.cells (zeros H (.slice none 0 0)) 22))) := Lib.hid ((Below.refl _ _).alloc (Nat.le_refl _) _)
  have HS0 : Hid ((w.alloc (.cells (zeros H (.slice none 0 0)) 22)).heap.size = w.heap.size + 1 + 0) := Lib.hid (by simp)
  have hW1 : (0 : Int) < (W : Int) := by omega
  go_enter Try.func22, Try.ntmps22
  go_wp2_with fail
  obtain ⟨W3, hW3⟩ : ∃ W3, W3 = w.alloc (.cells (zeros H (.slice none 0 0)) 22) := ⟨_, rfl⟩
  rw [← hW3] at HA0 HB0 HS0 ⊢
  obtain ⟨R, hR⟩ : ∃ R, R = w.heap.size := ⟨_, rfl⟩
  rw [← hR] at HA0 HB0 HS0 ⊢
  have HRR := Lib.hid hR
  clear hW3 hR hmkH
  go_loopw [8] (fun i wr => ∃ k : Nat, k ≤ H ∧ i = .int .i64 k ∧ Hid (Arr wr 22 R (hdrs R W H k)) ∧ Hid (Below R w wr) ∧ Hid (wr.heap.size = R + 1 + k) ∧ Hid (∀ r, r < k → Arr wr 4 (R + 1 + r) (List.replicate W (.bool false)))) (fun i _ => H - (intOf i).toNat)
  case atStart => exact ⟨0, by omega, rfl, HA0, HB0, HS0, Lib.hid (fun r hr => by omega)⟩
  case round =>
    obtain ⟨k, hk, rfl, HA, HB, HS, HR⟩ := hrel
    clear HA0 HB0 HS0
    by_cases hlt : k < H
    · have hk0 : (0 : Int) ≤ (k : Int) := by omega
      have hk1 : (k : Int) < (H : Int) := by omega
      have hA2 := HA.out.mod (S := fun _ => False) ((Mod.refl _).alloc (.cells (zeros W (.bool false)) 4)) (fun h => h)
      have hck2 := hA2.cell? k
      rw [hdrs_get _ _ _ _ _ hlt, if_neg (by omega)] at hck2
      have hfk2 := hA2.free k
      have hA3 := hA2.set_ k (.slice (some ⟨R + 1 + k, 0, none⟩) W W)
      rw [hdrs_set] at hA3
      have hm3 := Mod.set1 (wr.alloc (.cells (zeros W (.bool false)) 4)) R k (.slice (some ⟨R + 1 + k, 0, none⟩) W W)
      have hn3 := (Arr.new wr 4 (List.replicate W (.bool false))).mod hm3 (by rw [HS.out]; omega)
      rw [HS.out] at hn3
      have HA3 := Lib.hid hA3
      have HR3 : Hid (∀ r, r < k + 1 → Arr ((wr.alloc (.cells (zeros W (.bool false)) 4)).setCell ⟨R, k, none⟩ (.slice (some ⟨R + 1 + k, 0, none⟩) W W)) 4 (R + 1 + r) (List.replicate W (.bool false))) := Lib.hid (fun r hr => by
        by_cases e : r = k
        · rw [e]; exact hn3
        · exact ((HR.out r (by omega)).mod (S := fun _ => False) ((Mod.refl _).alloc (.cells (zeros W (.bool false)) 4)) (fun h => h)).mod hm3 (by omega))
      have HB3 : Hid (Below R w ((wr.alloc (.cells (zeros W (.bool false)) 4)).setCell ⟨R, k, none⟩ (.slice (some ⟨R + 1 + k, 0, none⟩) W W))) := Lib.hid ((HB.out.alloc (by have := HS.out; omega) _).setCell (p := ⟨R, k, none⟩) (Nat.le_refl _) _)
      have HS3 : Hid (((wr.alloc (.cells (zeros W (.bool false)) 4)).setCell ⟨R, k, none⟩ (.slice (some ⟨R + 1 + k, 0, none⟩) W W)).heap.size = R + 1 + (k + 1)) := Lib.hid (by have := HS.out; simp [World.setCell]; omega)
      have hsz : wr.heap.size = R + 1 + k := HS.out
      clear hA2 hA3 hm3 hn3 HA HB HR HS
      go_wp2_with fail
      obtain ⟨W4, hW4⟩ : ∃ W4, W4 = (wr.alloc (.cells (zeros W (.bool false)) 4)).setCell ⟨R, k, none⟩ (.slice (some ⟨R + 1 + k, 0, none⟩) W W) := ⟨_, rfl⟩
      rw [← hW4] at HA3 HB3 HS3 HR3 ⊢
      clear hW4 hsz hck2 hfk2
      go_loopw [9] (fun i wz => i = .int .i64 0 ∧ wz = W4) (fun _ _ => 0)
      case atStart => exact ⟨rfl, rfl⟩
      case round =>
        obtain ⟨rfl, rfl⟩ := hrel
        go_wp2_with fail
        go_roundw
        case rel => exact ⟨k + 1, by omega, by go_num, HA3, HB3, HS3, HR3⟩
        case measure => simp [intOf]; omega
    · obtain rfl : k = H := by omega
      have HWR : Hid (WR wr w.heap.size R W (· < k) (fun _ _ => false) (fun r => R + 1 + r) (fun _ => W)) := Lib.hid (by
        refine ⟨⟨fun r hr => by rw [← HRR.out]; omega, fun r hr => (HR.out r hr).lt, fun r r' _ _ e => by omega, fun r c hr => (HR.out r hr).free c, fun r c hr hc => ?_⟩, by rw [HRR.out]; exact Nat.le_refl _, HA.out.lt, HA.out.free, fun r hr => by omega, fun r hr => ?_, fun r hr => ⟨Nat.le_refl _, by unfold maxLen; omega⟩⟩
        · rw [(HR.out r hr).cell?]; simp [hc]
        · rw [HA.out.cell?, hdrs_get _ _ _ _ _ hr, if_pos hr])
      have HB2 : Hid (Below w.heap.size w wr) := Lib.hid (by rw [← HRR.out]; exact HB.out)
      go_wp2_with fail
      go_ret
      exact ⟨R, _, _, rfl, HWR, HB2.out⟩
end Go.Proofs.Ytcfcbcjaiplllaa
