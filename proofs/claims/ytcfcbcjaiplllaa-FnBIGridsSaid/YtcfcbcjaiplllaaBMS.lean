/-
  BitMatrix.SetRow, walked: the words of a row of bits are laid in. No condition beyond the bounds that each theorem states.
-/
import Derived.Test.YtcfcbcjaiplllaaBMP
import Derived.Test.YtcfcbcjaiplllaaCPM
import Derived.StillTailTactics
import Derived.BigQuiet
namespace Go.Proofs.Ytcfcbcjaiplllaa
open Go.RowKit Go.Qz
set_option linter.unusedVariables false

theorem bm_splice {w w' : World} {p g W H o : Nat} {ws rs : List Nat} (h : BM w p g ws W H) (hr : ∀ x ∈ rs, x < 4294967296) (ho : o + rs.length ≤ ws.length)
    (ha : Arr w' 88 g (splice (ws.map fun x : Nat => Value.int .u32 x) o (rs.map fun x : Nat => Value.int .u32 x))) (hm : Mod (· = g) w w') : BM w' p g (splice ws o rs) W H := by
  have e : splice (ws.map fun x : Nat => Value.int .u32 x) o (rs.map fun x : Nat => Value.int .u32 x) = (splice ws o rs).map fun x : Nat => Value.int .u32 x := by
    simp [splice, List.map_take, List.map_drop]
  have el : (splice ws o rs).length = ws.length := by simp [splice]; omega
  rw [e] at ha
  refine ⟨?_, ha, h.ne, ?_, by rw [el]; exact h.len⟩
  · rw [el, hm.block p h.plt h.ne]; exact h.hp
  · intro x hx
    simp only [splice, List.mem_append] at hx
    rcases hx with hx | hx | hx
    · exact h.lt x (List.mem_of_mem_take hx)
    · exact hr x hx
    · exact h.lt x (List.mem_of_mem_drop hx)

set_option maxRecDepth 100000 in
set_option maxHeartbeats 1600000 in
theorem bm_setRow (Y : Int) (y : Nat) (hY : Y = y) (p g W H : Nat) (ws : List Nat) (q r n : Nat) (rs : List Nat) (w : World) (h : BM w p g ws W H) (hb : BA w q r rs n) (hn : rs.length = (W + 31) / 32) (hy : y < H) (hW0 : 0 < W) (hW : W < 10000) (hH : H < 10000) :
    Calls Try.prog 37 #[.pointer (some ⟨p, 0, none⟩), .int .i64 Y, .pointer (some ⟨q, 0, none⟩)] w fun e w' => e = .returned (.tuple #[]) ∧ Hid (BM w' p g (splice ws (y * ((W + 31) / 32)) rs) W H) ∧ Hid (Mod (fun b => b = g) w w') := by
  have hlen := h.len
  have hrow := h.rowSize
  have hbits := h.bits
  have hrb := hb.bits
  obtain ⟨R, hR⟩ : ∃ R, R = (W + 31) / 32 := ⟨_, rfl⟩
  have hR2 : R < 10000 := by omega
  rw [← hR] at hlen hrow hn ⊢
  obtain ⟨jr, hjr⟩ : ∃ jr, jr = y * R := ⟨_, rfl⟩
  have hjl : jr + R ≤ ws.length := by
    rw [hlen, hjr, Nat.mul_comm R H, ← Nat.succ_mul]; exact Nat.mul_le_mul_right _ hy
  have hwl : ws.length ≤ 100000000 := by rw [hlen]; exact Nat.mul_le_mul (show R ≤ 10000 by omega) (show H ≤ 10000 by omega)
  have e0 : Y * (R : Int) = (jr : Int) := by rw [hY, hjr]; simp
  rw [← hjr]
  have hwr : IntKind.i64.wrap (jr : Int) = (jr : Int) := by rw [IntKind.wrap_i64]; omega
  have hws : IntKind.i64.wrap ((jr : Int) + (R : Int)) = (jr : Int) + (R : Int) := by rw [IntKind.wrap_i64]; omega
  have hlt := hb.lt
  have HIG : Hid (Arr w 88 g (ws.map fun x : Nat => Value.int .u32 x)) := Lib.hid h.hg
  obtain ⟨cs, hcs⟩ : ∃ cs, cs = rs.map fun x : Nat => Value.int .u32 x := ⟨_, rfl⟩
  obtain ⟨cur, hcur⟩ : ∃ cur, cur = ws.map fun x : Nat => Value.int .u32 x := ⟨_, rfl⟩
  have HCL : Hid (cs.length = R) := Lib.hid (by rw [hcs, List.length_map, hn])
  have HUL : Hid (cur.length = ws.length) := Lib.hid (by rw [hcur, List.length_map])
  have HCS : Hid (∀ j v, cs[j]? = some v → w.cell? (Addr.add ⟨r, 0, none⟩ j) = some v) := Lib.hid (by
    intro j v hv
    have : Arr w 88 r cs := by rw [hcs]; exact hb.hg
    have e : Addr.add ⟨r, 0, none⟩ j = ⟨r, j, none⟩ := by
      unfold Addr.add
      split
      · rename_i h0; rw [h0]
      · rw [Nat.zero_add]
    rw [e, this.cell?]; exact hv)
  have HONE : Hid (∀ v ∈ cs, v.oneCell' = true) := Lib.hid (by
    intro v hv
    rw [hcs] at hv
    obtain ⟨x, _, rfl⟩ := List.mem_map.1 hv
    rfl)
  rw [← hcur] at HIG
  have HEND : Hid (∀ w', Arr w' 88 g (splice cur jr cs) → Mod (· = g) w w' → BM w' p g (splice ws jr rs) W H) := Lib.hid (by
    intro w' h1 h2
    rw [hcur, hcs] at h1
    exact bm_splice h hlt (by rw [hn]; exact hjl) h1 h2)
  rw [hn] at hrb
  have l1 : (0 : Int) ≤ (jr : Int) := by omega
  have l2 : (jr : Int) ≤ (jr : Int) + (R : Int) := by omega
  have l3 : (jr : Int) + (R : Int) ≤ (ws.length : Int) := by omega
  obtain ⟨N, hN⟩ : ∃ N, N = ws.length := ⟨_, rfl⟩
  rw [← hN] at hbits hjl hwl HUL l3
  have hR0 : 0 < R := by omega
  have hNj : ¬ N = jr := by omega
  have htn : ((jr : Int) + (R : Int)).toNat = jr + R := by omega
  have hsb : jr + R - jr = R := by omega
  have HRP : Hid (R ≤ N - jr) := Lib.hid (by omega)
  have HJL := Lib.hid hjl
  clear h hb hcs hcur hjr hR hlen hY hn hlt hN
  go_enter Try.func37, Try.ntmps37
  go_wp2_with fail
  go_still_tail 16, (by kernel_rfl)
  repeat still_step
  change wpList _ _ _ _ _ w.drew
  obtain ⟨W2, hW2⟩ : ∃ W2, W2 = w.drew := ⟨_, rfl⟩
  have HI2 : Hid (Arr W2 88 g cur) := Lib.hid (by rw [hW2]; exact HIG.out)
  have HC2 : Hid (∀ j v, cs[j]? = some v → W2.cell? (Addr.add ⟨r, 0, none⟩ j) = some v) := Lib.hid (by rw [hW2]; exact HCS.out)
  have HM2 : Hid (Mod (· = g) w W2) := Lib.hid (by rw [hW2]; exact (Mod.refl _).drew)
  rw [← hW2]
  clear hW2 HIG HCS hbits hrow hrb
  refine wpList_copy_mod rfl _ _ 90 90 rfl 88 Try.underlying90 (by kernel_rfl) _ _ _ _ _ _ rfl rfl g jr cur 88 HI2.out cs (by rw [HCL.out]; exact (Nat.min_self _).symm) (fun _ => ⟨by first | rfl | simp, ⟨r, 0, none⟩, rfl, HC2.out⟩) (by rw [HCL.out, HUL.out]; exact HJL.out) HONE.out ?_
  intro w3 HA3 HM3
  go_wp2_with fail
  go_end0
  exact ⟨rfl, Lib.hid (HEND.out w3 HA3.out (HM2.out.trans HM3.out)), Lib.hid (HM2.out.trans HM3.out)⟩
end Go.Proofs.Ytcfcbcjaiplllaa
