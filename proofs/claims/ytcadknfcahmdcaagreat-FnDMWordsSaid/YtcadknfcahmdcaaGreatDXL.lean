/-
  NewEncoderContext and the setters, walked. No condition beyond the bounds that each theorem states.
-/
import Derived.Test.YtcadknfcahmdcaaGreatDXK
import Derived.Great.Walk
import Derived.Deep.LoopGhost
namespace Go.Proofs.YtcadknfcahmdcaaGreat
open Go.RowKit Go.Qz Go.Qz.DF
open Go.Qz.DV hiding val run part
set_option linter.unusedVariables false

theorem conv_at {P : Program} {ops : Array Oper} {rest : List Oper} {o : Oper} {a : Act} {w : World} {Q : Exit → Act → World → Prop} (t1 t2 : TypeId) (x : Operand) (u v : Value) (W' : World)
    (hg : o.guard = none) (ho : o.op = .convert t1 t2 x) (hx : a.eval x = u) (hrun : (convert t1 t2 u).run P w = .ok v W')
    (h : wpList P ops Q rest (a.put o.dst v) W') : wpList P ops Q (o :: rest) a w := by
  refine Great.wpList_runTo hg o.dst rfl v W' ?_ h
  unfold execOp
  simp [ho, hx, hrun]
set_option maxRecDepth 100000 in
/-- '[]byte(s)'. -/
theorem conv_sb (s : ByteArray) :
    ∃ (C : World → Nat) (X : World → World), (∀ W, (convert 9 24 (.string s)).run Tryz.prog W = .ok (.slice (some ⟨W.heap.size, 0, none⟩) s.size (C W)) (X W)) ∧ ∀ W, Below W.heap.size W (X W) ∧ (X W).heap.size = W.heap.size + 1 ∧ ∀ j, j < s.size → (X W).cell? ⟨W.heap.size, j, none⟩ = some (.int .u8 (nth (sb s) j : Nat)) := by
  refine ⟨_, _, fun W => run_bytes_of_string W 9 24 5 s (by kernel_rfl) Tryz.underlying24 (by kernel_rfl), fun W => ⟨(Below.refl _ _).drew.alloc (Nat.le_refl _) _, by simp, fun j hj => ?_⟩⟩
  show (W.drew.alloc _).cell? ⟨W.drew.heap.size, j, none⟩ = _
  rw [cell_of_row _ _ _ _ _ _ (heap_alloc_new W.drew _)]
  have hj2 : j < s.data.size := hj
  rw [bytesRow_at _ _ _ hj2]
  have hj3 : j < (sb s).length := by rw [sb_len]; exact hj
  have : s.data[j].toNat = nth (sb s) j := by rw [nth_eq hj3]; simp [sb]
  rw [this]
theorem off_of_own {w : World} {base n : Nat} {e : TypeId} {v : Value} {xs : List Value} (h : w.ownsRow base e 1 v n xs) (hn : 0 < n) : ∃ g cap, v = .slice (some ⟨g, 0, none⟩) n cap ∧ base ≤ g ∧ g < w.heap.size ∧ Off w base e v n xs := by
  obtain ⟨h1, h2⟩ := h
  rcases h2 with ⟨rfl, rfl⟩ | ⟨g, cap, cur, rfl, hb, hh, hc, hm2, hz, ht⟩
  · omega
  · refine ⟨g, cap, rfl, hb, (Array.getElem?_eq_some_iff.1 hh).1, g, 0, cap, cur, rfl, hb, hh, hc, hm2, by omega, by simpa using h1, by simpa using ht⟩
theorem andU8 (x : Nat) (h : x < 256) : bits .and .u8 (x : Int) 255 = (x : Int) := by
  have : ((List.range 256).all fun x => decide (bits .and .u8 (x : Int) 255 = (x : Int))) = true := by decide +kernel
  have := List.all_eq_true.1 this x (List.mem_range.2 h)
  simpa using this
/-- A new context. -/
def NewX (msg : List Nat) (w : World) (e : Ending) (w' : World) : Prop :=
  ∃ p g c v, e = .returned (.tuple #[.pointer (some ⟨p, 0, none⟩), .nilIface]) ∧ Hid (Ctx w' p ⟨msg, g, c, 0, 0, w.heap.size⟩ [] 0 (-1) none v) ∧ Hid (Below w.heap.size w w')
set_option maxRecDepth 100000 in
set_option maxHeartbeats 3200000 in
theorem newCtx (s : ByteArray) (h0 : 0 < s.size) (hs : s.size ≤ 1000) (w : World) : Calls Tryz.prog 28 #[.string s] w (NewX (sb s) w) := by
  obtain ⟨C, X, hconv, hX⟩ := conv_sb s
  obtain ⟨hb1, hz1, hc1⟩ := hX w
  obtain ⟨n, hn⟩ : ∃ n, n = s.size := ⟨_, rfl⟩
  obtain ⟨b0, hb0⟩ : ∃ b, b = w.heap.size := ⟨_, rfl⟩
  obtain ⟨C0, hC0⟩ : ∃ c, c = C w := ⟨_, rfl⟩
  obtain ⟨W0, hW0⟩ : ∃ W, W = X w := ⟨_, rfl⟩
  have hcv := hconv w
  rw [← hn, ← hb0, ← hC0, ← hW0] at hcv
  obtain ⟨l, hl⟩ : ∃ l, l = sb s := ⟨_, rfl⟩
  have hll : l.length = n := by rw [hl, hn, sb_len]
  have hl8 : ∀ j, j < n → nth l j < 256 := fun j _ => by rw [hl]; exact sb_at s j
  rw [← hb0, ← hW0] at hb1 hz1 hc1
  rw [← hn, ← hl] at hc1
  rw [← hn] at h0 hs
  have hm0 := fun X => run_make0 (P := Tryz.prog) 24 5 (.int .u8 0) 1 Tryz.underlying24 Tryz.infoBy rfl (by decide) n (by omega) .i64 .i64 n rfl X
  obtain ⟨base, hbase⟩ : ∃ b, b = b0 + 1 := ⟨_, rfl⟩
  obtain ⟨W1, hW1⟩ : ∃ W, W = W0.alloc (.cells (zeros n (.int .u8 0)) 5) := ⟨_, rfl⟩
  obtain ⟨g0, hg0⟩ : ∃ g, g = W0.heap.size := ⟨_, rfl⟩
  have HOWN : Hid (W1.ownsRow base 5 1 (.slice (some ⟨g0, 0, none⟩) 0 n) 0 []) := Lib.hid (by rw [hW1, hg0]; exact own_make0 W0 5 _ n base (by omega) (by unfold maxLen; omega))
  have HBL : Hid (Below b0 w W1) := Lib.hid (by rw [hW1]; exact hb1.alloc (by omega) _)
  have HRD : Hid (∀ j, j < n → W1.cell? ⟨b0, j, none⟩ = some (.int .u8 (nth l j : Nat))) := Lib.hid fun j hj => by
    rw [hW1, World.cell?_alloc_old _ _ _ (by show b0 ≠ _; omega)]; exact hc1 j hj
  have HSZ : Hid (base ≤ W1.heap.size) := Lib.hid (by rw [hW1]; simp; omega)
  have HW1 := Lib.hid hW1
  have HG0 := Lib.hid hg0
  have HB0 := Lib.hid hb0
  have HBASE := Lib.hid hbase
  have HLL := Lib.hid hll
  have HL8 := Lib.hid hl8
  have HN0 := Lib.hid h0
  have HCV := Lib.hid hcv
  rw [← hl]
  clear hconv hX hb1 hz1 hc1 hC0 hW0 hcv hl hll hl8 hbase hW1 hg0 hb0 h0 hn
  go_enter Tryz.func28, Tryz.ntmps28
  go_wp2_with (refine conv_at 9 24 _ _ _ _ rfl rfl rfl HCV.out ?_)
  go_upto_region 2 with (fail)
  go_wp2_with fail
  rw [← HW1.out, ← HG0.out]
  clear HW1 HG0
  go_loopg [5, 6] n (fun k v i wr => ∃ j : Nat, k = n - j ∧ j ≤ n ∧ i = .int .i64 j ∧ Hid (wr.ownsRow base 5 1 v j (bys (l.take j))) ∧ Hid (Below b0 w wr) ∧ Hid (∀ j, j < n → wr.cell? ⟨b0, j, none⟩ = some (.int .u8 (nth l j : Nat))) ∧ Hid (base ≤ wr.heap.size))
  case atStart => exact ⟨0, rfl, by omega, rfl, HOWN, HBL, HRD, HSZ⟩
  case round =>
    obtain ⟨j, hgk, hjn, hi6, HO, HBL1, HRD1, HSZ1⟩ := hrel
    obtain ⟨v, hv5⟩ : ∃ v, v = u5 := ⟨_, rfl⟩
    rw [← hv5] at HO ⊢
    subst hi6
    obtain ⟨wo, hwo⟩ : ∃ wo, wo = wr := ⟨_, rfl⟩
    rw [← hwo] at HO HBL1 HRD1 HSZ1 ⊢
    have HGK := Lib.hid hgk
    clear hv5 hwo HOWN HBL HRD HSZ hgk
    by_cases hlt : j < n
    · have hi : (j : Int) < (n : Int) := by omega
      obtain ⟨x, hx⟩ : ∃ x, x = nth l j := ⟨_, rfl⟩
      have cx := HRD1.out j hlt
      rw [← hx] at cx
      have hx8 : x < 256 := by rw [hx]; exact HL8.out j hlt
      have ha : bits .and .u8 (x : Int) 255 = (x : Int) := andU8 x hx8
      have HX := Lib.hid hx
      have HTL : Hid (bys (l.take j) ++ [.int .u8 x] = bys (l.take (j + 1))) := Lib.hid (by
        rw [show l.take (j + 1) = l.take j ++ [x] by rw [hx, nth_eq (by rw [HLL.out]; exact hlt), List.take_append_getElem], bys_append]; rfl)
      clear hx hx8
      go_wp2_with (at_builtin; refine wpList_pushAt _ _ 24 base 5 (.int .u8 0) 1 v j (bys (l.take j)) (.int .u8 x) rfl rfl rfl rfl Tryz.underlying24 Tryz.infoBy rfl rfl (by decide) HO.out (by omega) HSZ1.out ?_)
      intro v' w' ho' hg' hb' hvo'
      rw [HTL.out] at ho'
      have HO' := Lib.hid ho'
      have HBL' : Hid (Below b0 w w') := Lib.hid (HBL1.out.trans (hb'.mono (by rw [HBASE.out]; omega)))
      have HRD' : Hid (∀ j, j < n → w'.cell? ⟨b0, j, none⟩ = some (.int .u8 (nth l j : Nat))) := Lib.hid fun j hj => by
        rw [hb'.cell (by show b0 < base; rw [HBASE.out]; omega)]; exact HRD1.out j hj
      have HSZ' : Hid (base ≤ w'.heap.size) := Lib.hid (Nat.le_trans HSZ1.out hb'.size)
      obtain ⟨j1, hj1⟩ : ∃ j1, j1 = j + 1 := ⟨_, rfl⟩
      have q1 : IntKind.i64.wrap ((j : Int) + 1) = (j1 : Int) := by rw [IntKind.wrap_i64]; omega
      have q2 : ((j : Int) + 1) = (j1 : Int) := by omega
      have HLT : Hid (j < n ∧ j1 = j + 1) := Lib.hid ⟨hlt, hj1⟩
      rw [← hj1] at HO'
      clear hj1 hlt
      clear ho' hg' hb' hvo' HO HBL1 HRD1 HSZ1 cx ha
      go_wp2_with fail
      go_roundg (n - j1)
      case measure => have := HGK.out; have := HLT.out; omega
      case rel => exact ⟨j1, rfl, by have := HLT.out; omega, rfl, HO', HBL', HRD', HSZ'⟩
    · obtain rfl : j = n := by omega
      have hi : ((j : Int) < (j : Int)) = False := by simp
      have hlen : (l.take j) = l := List.take_of_length_le (by rw [HLL.out]; exact Nat.le_refl _)
      rw [hlen] at HO
      obtain ⟨g, c, hv, hbg, hgl, hoff⟩ := off_of_own HO.out HN0.out
      subst hv
      have HOFF := Lib.hid hoff
      have HBG := Lib.hid hbg
      have HGL := Lib.hid hgl
      clear hlt hlen hoff hbg hgl HO
      go_wp2_with fail
      refine bodyPost_ret (v := .tuple #[.pointer (some ⟨wo.heap.size + 1, 0, none⟩), .nilIface]) (by simp [results, Tryz.results28, go_sem]) rfl ⟨wo.heap.size + 1, g, c, .slice (some ⟨wo.heap.size, 0, none⟩) 0 j, rfl, Lib.hid ?_, Lib.hid ?_⟩
      · have hsz : w.heap.size ≤ wo.heap.size := by have := HSZ1.out; have := HBASE.out; have := HB0.out; omega
        have hgl := HGL.out
        obtain ⟨wa, hwa⟩ : ∃ wa, wa = wo.alloc (.cells (zeros j (.int .u8 0)) 5) := ⟨_, rfl⟩
        have hsa : wa.heap.size = wo.heap.size + 1 := by rw [hwa]; simp
        have hcw : Off wa w.heap.size 5 (.slice (some ⟨wo.heap.size, 0, none⟩) 0 j) 0 [] := by rw [hwa]; exact off_make0 wo 5 (.int .u8 0) j _ hsz (by unfold maxLen; omega)
        have hms : Off wa 0 5 (.slice (some ⟨g, 0, none⟩) j c) j (bys l) := by
          rw [hwa]
          obtain ⟨g', off', c', cur, e1, _, hr⟩ := HOFF.out.alloc (.cells (zeros j (.int .u8 0)) 5)
          exact ⟨g', off', c', cur, e1, Nat.zero_le _, hr⟩
        rw [← hwa]
        clear hwa
        have hll := HLL.out
        refine ⟨?_, ?_, hcw.alloc _, ?_, trivial, ?_, ?_⟩
        · have := Arr.new wa 66 [.slice (some ⟨g, 0, none⟩) l.length c, .int .i64 0, .pointer none, .pointer none, .slice (some ⟨wo.heap.size, 0, none⟩) 0 j, .int .i64 0, .int .i64 (-1), symV none, .int .i64 0]
          rw [hsa, hll] at this
          show Arr _ _ _ [.slice (some ⟨g, 0, none⟩) l.length c, _, _, _, _, _, _, _, _]
          rw [hll]
          exact this
        · show Off _ _ _ (.slice (some ⟨g, 0, none⟩) l.length c) l.length (bys l)
          rw [hll]
          exact hms.alloc _
        · show some wo.heap.size ≠ some g
          intro e; injection e with e; omega
        · show w.heap.size ≤ wo.heap.size + 1
          omega
        · show w.heap.size ≤ (wa.alloc _).heap.size
          simp; omega
      · exact HB0.out ▸ (HBL1.out.alloc (by have := HSZ1.out; have := HBASE.out; omega) _).alloc (by have := HSZ1.out; have := HBASE.out; simp; omega) _
end Go.Proofs.YtcadknfcahmdcaaGreat
