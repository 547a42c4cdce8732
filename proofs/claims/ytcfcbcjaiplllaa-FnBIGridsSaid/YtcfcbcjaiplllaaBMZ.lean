/-
  BitMatrix.Rotate90, walked. No condition beyond the bounds that each theorem states.
-/
import Derived.Test.YtcfcbcjaiplllaaBMY
import Derived.Test.YtcfcbcjaiplllaaRDM
namespace Go.Proofs.Ytcfcbcjaiplllaa
open Go.RowKit Go.Qz
set_option linter.unusedVariables false

theorem i64_and31 (x : Nat) (hx : x < 1000000) : bits .and .i64 (x : Int) 31 = ((x % 32 : Nat) : Int) := by
  show IntKind.i64.wrap ((BitVec.ofInt 64 (x : Int) &&& BitVec.ofInt 64 (31 : Int)).toNat : Int) = _
  have e1 : (BitVec.ofInt 64 (x : Int)).toNat = x := by rw [BitVec.ofInt_natCast, BitVec.toNat_ofNat]; omega
  have e2 : (BitVec.ofInt 64 (31 : Int)).toNat = 2 ^ 5 - 1 := by decide
  rw [BitVec.toNat_and, e1, e2, Nat.and_two_pow_sub_one_eq_mod, IntKind.wrap_i64]
  omega
/-- Block g is just these words. -/
structure UA (w : World) (g : Nat) (ns : List Nat) : Prop where
  ar : Arr w 88 g (ns.map fun x : Nat => Value.int .u32 x)
  lt : ∀ x ∈ ns, x < 4294967296
theorem UA.word {w : World} {g q : Nat} {ns : List Nat} (h : UA w g ns) (hq : q < ns.length) : w.cell? ⟨g, q, none⟩ = some (.int .u32 (nth ns q : Nat)) := by
  rw [h.ar.cell?]; simp [hq, nth_eq hq]
theorem UA.set_ {w : World} {g : Nat} {ns : List Nat} (h : UA w g ns) (q x : Nat) (hx : x < 4294967296) : UA (w.setCell ⟨g, q, none⟩ (.int .u32 x)) g (ns.set q x) := by
  refine ⟨?_, ?_⟩
  · have := h.ar.set_ q (.int .u32 x)
    rw [List.map_set]; exact this
  · intro y hy
    rcases List.mem_or_eq_of_mem_set hy with h1 | h1
    · exact h.lt y h1
    · rw [h1]; exact hx
theorem UA.zeros (w : World) (m : Nat) : UA (w.alloc (.cells (zeros m (.int .u32 0)) 88)) w.heap.size (List.replicate m 0) := by
  refine ⟨?_, fun x hx => by rw [(List.mem_replicate.1 hx).2]; omega⟩
  unfold Arr
  rw [heap_alloc_new]
  simp [Go.Qz.zeros]
/-- The words of the turned matrix, so far: the rows above y whole, row y up to x. -/
def Turn (ws ns : List Nat) (W H y x : Nat) : Prop :=
  ns.length = (H + 31) / 32 * W ∧ ∀ i j, i < H → j < W → mb ns H i j = (mb ws W (W - 1 - j) i && decide (i < y ∨ i = y ∧ W - 1 - j < x))
theorem Turn.zero (ws : List Nat) (W H : Nat) : Turn ws (List.replicate ((H + 31) / 32 * W) 0) W H 0 0 := by
  refine ⟨by simp, fun i j hi hj => ?_⟩
  rw [mb_zeros]
  have : decide (i < 0 ∨ i = 0 ∧ W - 1 - j < 0) = false := by rw [decide_eq_false_iff_not]; omega
  rw [this, Bool.and_false]
theorem Turn.skip {ws ns : List Nat} {W H y x : Nat} (h : Turn ws ns W H y x) (hb : mb ws W x y = false) : Turn ws ns W H y (x + 1) := by
  refine ⟨h.1, fun i j hi hj => ?_⟩
  rw [h.2 i j hi hj]
  by_cases e : i = y ∧ W - 1 - j = x
  · rw [e.1, e.2, hb]; rfl
  · congr 1
    rw [Bool.eq_iff_iff]; simp only [decide_eq_true_eq]; omega
theorem Turn.next {ws ns : List Nat} {W H y : Nat} (h : Turn ws ns W H y W) : Turn ws ns W H (y + 1) 0 := by
  refine ⟨h.1, fun i j hi hj => ?_⟩
  rw [h.2 i j hi hj]
  congr 1
  rw [Bool.eq_iff_iff]; simp only [decide_eq_true_eq]; omega
theorem Turn.set_ {ws ns : List Nat} {W H y x : Nat} (h : Turn ws ns W H y x) (hy : y < H) (hx : x < W) (hb : mb ws W x y = true) :
    Turn ws (ns.set ((W - 1 - x) * ((H + 31) / 32) + y / 32) (nth ns ((W - 1 - x) * ((H + 31) / 32) + y / 32) ||| 2 ^ (y % 32))) W H y (x + 1) := by
  refine ⟨by rw [List.length_set]; exact h.1, fun i j hi hj => ?_⟩
  rw [mb_set ns H W i j y (W - 1 - x) h.1 hy (by omega) hi, h.2 i j hi hj]
  by_cases e : i = y ∧ j = W - 1 - x
  · obtain ⟨rfl, rfl⟩ := e
    rw [show W - 1 - (W - 1 - x) = x from by omega, hb]
    simp
  · have e1 : decide (i = y ∧ j = W - 1 - x) = false := by rw [decide_eq_false_iff_not]; exact e
    rw [e1, Bool.or_false]
    congr 1
    rw [Bool.eq_iff_iff]; simp only [decide_eq_true_eq]; omega
theorem Turn.all {ws ns : List Nat} {W H : Nat} (h : Turn ws ns W H H 0) {i j : Nat} (hi : i < H) (hj : j < W) : mb ns H i j = mb ws W (W - 1 - j) i := by
  rw [h.2 i j hi hj]
  have : decide (i < H ∨ i = H ∧ W - 1 - j < 0) = true := by rw [decide_eq_true_eq]; exact .inl hi
  rw [this, Bool.and_true]

theorem BM.freep {w : World} {p g W H : Nat} {ws : List Nat} (h : BM w p g ws W H) (j : Nat) : w.frozen? ⟨p, j, none⟩ = false := by
  simp [World.frozen?, h.hp]
theorem BM.turned {w : World} {p g W H G : Nat} {ws ns : List Nat} (h : BM w p g ws W H) (hu : UA w G ns) (hl : ns.length = (H + 31) / 32 * W) (hpG : p ≠ G) :
    BM ((((w.setCell ⟨p, 0, none⟩ (.int .i64 H)).setCell ⟨p, 1, none⟩ (.int .i64 W)).setCell ⟨p, 2, none⟩ (.int .i64 ((H + 31) / 32 : Nat))).setCell ⟨p, 3, none⟩ (.slice (some ⟨G, 0, none⟩) ns.length ns.length)) p G ns H W := by
  refine ⟨?_, ?_, hpG, hu.lt, hl⟩
  · simp [World.setCell, Array.getElem?_modify, h.hp]
  · rw [Below.heap_setCell _ _ _ _ hpG.symm, Below.heap_setCell _ _ _ _ hpG.symm, Below.heap_setCell _ _ _ _ hpG.symm, Below.heap_setCell _ _ _ _ hpG.symm]
    exact hu.ar

set_option maxRecDepth 100000 in
set_option maxHeartbeats 3200000 in
theorem bm_rot90 (p g W H : Nat) (ws : List Nat) (w : World) (h : BM w p g ws W H) (hW : W < 1000) (hH : H < 1000) (hW0 : 0 < W) (hH0 : 0 < H) :
    Calls Try.prog 36 #[.pointer (some ⟨p, 0, none⟩)] w fun e w' => ∃ g' ns, e = .returned (.tuple #[]) ∧ Hid (BM w' p g' ns H W) ∧ Hid (Turn ws ns W H H 0) ∧ w.heap.size ≤ g' ∧ Hid (Mod (fun b => b = p) w w') := by
  have hwid := h.width
  have hhei := h.height
  have HH := Lib.hid h
  obtain ⟨R2, hR2⟩ : ∃ R2, R2 = (H + 31) / 32 := ⟨_, rfl⟩
  obtain ⟨M, hM⟩ : ∃ M, M = R2 * W := ⟨_, rfl⟩
  have hR2l : R2 < 1000 := by omega
  have hMl : M < 1000000 := by rw [hM]; exact Nat.lt_of_le_of_lt (Nat.mul_le_mul (show R2 ≤ 999 by omega) (show W ≤ 999 by omega)) (by decide)
  have e1 : ((H : Int) + 31) / 32 = (R2 : Int) := by omega
  have e2 : (R2 : Int) * (W : Int) = (M : Int) := by rw [hM]; simp
  have hwM : IntKind.i64.wrap (M : Int) = (M : Int) := by rw [IntKind.wrap_i64]; omega
  have hmk := fun W => run_make1 (P := Try.prog) 90 88 (.int .u32 0) 4 Try.underlying90 Try.infoU32 rfl (by decide) M (by omega) .i64 .i64 M rfl W
  have HR2 := Lib.hid hR2
  have HME := Lib.hid hM
  obtain ⟨G, hG⟩ : ∃ G, G = w.heap.size := ⟨_, rfl⟩
  obtain ⟨w1, hw1⟩ : ∃ w1, w1 = w.alloc (.cells (zeros M (.int .u32 0)) 88) := ⟨_, rfl⟩
  have HU0 : Hid (UA w1 G (List.replicate M 0)) := Lib.hid (by rw [hw1, hG]; exact UA.zeros w M)
  have HT0 : Hid (Turn ws (List.replicate M 0) W H 0 0) := Lib.hid (by rw [hM, hR2]; exact Turn.zero ws W H)
  have HB0 : Hid (Below G w w1) := Lib.hid (by rw [hw1, hG]; exact (Below.refl _ _).alloc (Nat.le_refl _) _)
  have HPG : Hid (p < G ∧ g < G) := Lib.hid (by rw [hG]; exact ⟨h.plt, h.glt⟩)
  have HGE := Lib.hid hG
  have HW1 := Lib.hid hw1
  clear h hR2 hM hG hw1
  go_enter Try.func36, Try.ntmps36
  go_wp2_with fail
  rw [← HW1.out, ← HGE.out]
  rw [e1]
  clear hwid hhei hmk e1
  go_loopw [6] (fun i wr => ∃ (k : Nat) (ns : List Nat), k ≤ H ∧ i = .int .i64 k ∧ Hid (UA wr G ns) ∧ Hid (Turn ws ns W H k 0) ∧ Hid (Below G w wr)) (fun i _ => H - (intOf i).toNat)
  case atStart => exact ⟨0, _, by omega, rfl, HU0, HT0, HB0⟩
  case round =>
    obtain ⟨k, ns, hk, rfl, HU, HT, HB⟩ := hrel
    clear HU0 HT0 HB0
    have hhei := (HH.out.below HB.out HPG.out.1 HPG.out.2).height
    by_cases hlt : k < H
    · go_wp2_with fail
      clear hhei
      go_loopw [7] (fun i wr => ∃ (x : Nat) (ns : List Nat), x ≤ W ∧ i = .int .i64 x ∧ Hid (UA wr G ns) ∧ Hid (Turn ws ns W H k x) ∧ Hid (Below G w wr)) (fun i _ => W - (intOf i).toNat)
      case atStart => exact ⟨0, ns, by omega, rfl, HU, HT, HB⟩
      case round =>
        obtain ⟨x, ns, hx, rfl, HU, HT, HB⟩ := hrel
        have HBM := Lib.hid (HH.out.below HB.out HPG.out.1 HPG.out.2)
        have hwid := HBM.out.width
        by_cases hxl : x < W
        · have hrow := HBM.out.rowSize
          have hbits := HBM.out.bits
          have hat := at_lt hxl hlt
          rw [← HBM.out.len] at hat
          have hw := HBM.out.word hat
          have hwx := HBM.out.lt _ (nth_mem hat)
          obtain ⟨R, hRe⟩ : ∃ R, R = (W + 31) / 32 := ⟨_, rfl⟩
          have hRl : R < 1000 := by omega
          obtain ⟨bt, hbt⟩ : ∃ bt, bt = mb ws W x k := ⟨_, rfl⟩
          have hbt2 := hbt
          unfold mb at hbt2
          rw [← hRe] at hrow hat hw hwx hbt2
          obtain ⟨m, hm⟩ : ∃ m, m = k * R := ⟨_, rfl⟩
          have em : (k : Int) * (R : Int) = (m : Int) := by rw [hm]; simp
          have hml : m < 1000000 := by rw [hm]; exact Nat.lt_of_le_of_lt (Nat.mul_le_mul (show k ≤ 999 by omega) (show R ≤ 999 by omega)) (by decide)
          have hwm : IntKind.i64.wrap (m : Int) = (m : Int) := by rw [IntKind.wrap_i64]; omega
          rw [← hm] at hat hw hwx hbt2
          obtain ⟨q, hq⟩ : ∃ q, q = m + x / 32 := ⟨_, rfl⟩
          rw [← hq] at hat hw hwx hbt2
          obtain ⟨r, hr⟩ : ∃ r, r = x % 32 := ⟨_, rfl⟩
          have ha31 := i64_and31 x (by omega)
          rw [← hr] at ha31 hbt2
          obtain ⟨v, hv⟩ : ∃ v, v = nth ws q := ⟨_, rfl⟩
          rw [← hv] at hw hwx hbt2
          have e6 := shr_bit v r hwx
          rw [← hbt2] at e6
          have hq1 : (m : Int) + (x : Int) / 32 = (q : Int) := by omega
          have hwq : IntKind.i64.wrap (q : Int) = (q : Int) := by rw [IntKind.wrap_i64]; omega
          have hq0 : (0 : Int) ≤ (q : Int) := by omega
          have hqN : (q : Int) < (ws.length : Int) := by omega
          have hr32 : r < 32 := by omega
          have hr0 : (0 : Int) ≤ (r : Int) := by omega
          have hqb : q < 2000000 := by omega
          obtain ⟨N, hN⟩ : ∃ N, N = ws.length := ⟨_, rfl⟩
          rw [← hN] at hbits hqN
          clear hat hq hv hbt2 hr hm hRe hN
          cases bt
          · have HT2 := Lib.hid (HT.out.skip hbt.symm)
            clear hbt HT
            go_wp2_with fail
            go_roundw
            case rel => exact ⟨x + 1, ns, by omega, by go_num, HU, HT2, HB⟩
            case measure => simp [intOf]; omega
          · have hT2 := HT.out.set_ hlt hxl hbt.symm
            have hl2 := HT.out.1
            have hat2 := at_lt hlt (show W - 1 - x < W by omega)
            rw [← hl2] at hat2
            rw [← HR2.out] at hat2 hT2 hl2
            obtain ⟨z, hz⟩ : ∃ z, z = W - 1 - x := ⟨_, rfl⟩
            rw [← hz] at hat2 hT2
            obtain ⟨m2, hm2⟩ : ∃ m2, m2 = z * R2 := ⟨_, rfl⟩
            have ez : (W : Int) - 1 - (x : Int) = (z : Int) := by omega
            have em2 : (z : Int) * (R2 : Int) = (m2 : Int) := by rw [hm2]; simp
            have hm2l : m2 < 1000000 := by rw [hm2]; exact Nat.lt_of_le_of_lt (Nat.mul_le_mul (show z ≤ 999 by omega) (show R2 ≤ 999 by omega)) (by decide)
            have hwm2 : IntKind.i64.wrap (m2 : Int) = (m2 : Int) := by rw [IntKind.wrap_i64]; omega
            rw [← hm2] at hat2 hT2
            obtain ⟨q2, hq2⟩ : ∃ q2, q2 = m2 + k / 32 := ⟨_, rfl⟩
            obtain ⟨r2, hr2⟩ : ∃ r2, r2 = k % 32 := ⟨_, rfl⟩
            have ha32 := i64_and31 k (by omega)
            rw [← hq2] at hat2 hT2
            rw [← hr2] at hT2 ha32
            have hw2 := HU.out.word hat2
            have hwx2 := HU.out.lt _ (nth_mem hat2)
            have hfree2 := HU.out.ar.free q2
            have hr232 : r2 < 32 := by omega
            have hr20 : (0 : Int) ≤ (r2 : Int) := by omega
            have e3 := u32_pow r2 hr232
            have hp2 : 2 ^ r2 < 4294967296 := by
              have h1 : 2 ^ r2 ≤ 2 ^ 31 := Nat.pow_le_pow_right (by omega) (by omega)
              omega
            have e4 := u32_or _ _ hwx2 hp2
            have hor : nth ns q2 ||| 2 ^ r2 < 4294967296 := by have := Nat.or_lt_two_pow (n := 32) (show nth ns q2 < 2 ^ 32 from hwx2) (show 2 ^ r2 < 2 ^ 32 from hp2); omega
            have HU2 := Lib.hid (HU.out.set_ q2 (nth ns q2 ||| 2 ^ r2) hor)
            have HT2 := Lib.hid hT2
            have HB2 := Lib.hid (HB.out.setCell (p := ⟨G, q2, none⟩) (Nat.le_refl _) (.int .u32 ((nth ns q2 ||| 2 ^ r2 : Nat) : Int)))
            have hqq : (m2 : Int) + (k : Int) / 32 = (q2 : Int) := by omega
            have hwq2 : IntKind.i64.wrap (q2 : Int) = (q2 : Int) := by rw [IntKind.wrap_i64]; omega
            have hq20 : (0 : Int) ≤ (q2 : Int) := by omega
            have hq2M : (q2 : Int) < (M : Int) := by have := HME.out; omega
            clear hT2 hat2 hq2 hr2 hm2 hl2 hor hbt HT HU hz
            obtain ⟨y, hy⟩ : ∃ y, y = nth ns q2 ||| 2 ^ r2 := ⟨_, rfl⟩
            rw [← hy] at e4 HU2 HT2 HB2
            obtain ⟨P, hP⟩ : ∃ P, P = 2 ^ r2 := ⟨_, rfl⟩
            rw [← hP] at e3 e4 hp2
            clear hy hP
            go_wp2_with fail
            go_region
            go_wp2_with fail
            go_roundw
            case rel => exact ⟨x + 1, _, by omega, by go_num, Lib.hid ⟨HU2.out.ar.keep rfl, HU2.out.lt⟩, HT2, Lib.hid (HB2.out.drew)⟩
            case measure => simp [intOf]; omega
        · obtain rfl : x = W := by omega
          have HT2 := Lib.hid HT.out.next
          go_wp2_with fail
          go_roundw
          case rel => exact ⟨k + 1, ns, by omega, by go_num, HU, HT2, HB⟩
          case measure => simp [intOf]; omega
    · obtain rfl : k = H := by omega
      have hBM := HH.out.below HB.out HPG.out.1 HPG.out.2
      have hl2 := HT.out.1
      have hT := hBM.turned HU.out hl2 (show p ≠ G by have := HPG.out; omega)
      rw [hl2, ← HR2.out, ← HME.out] at hT
      have HTT := Lib.hid hT
      have hfr := fun j => hBM.freep j
      have hwid := hBM.width
      have hrow := hBM.rowSize
      have hbits := hBM.bits
      clear hT hl2 hBM
      go_wp2_with fail
      go_end0
      have hm0 : Mod (fun b => b = p) w wr := Mod.of_below (by rw [← HGE.out]; exact HB.out)
      exact ⟨G, ns, rfl, HTT, HT, by rw [← HGE.out]; exact Nat.le_refl _, Lib.hid ((((hm0.setCell (p := ⟨p, 0, none⟩) (.inl rfl) _).setCell (p := ⟨p, 1, none⟩) (.inl rfl) _).setCell (p := ⟨p, 2, none⟩) (.inl rfl) _).setCell (p := ⟨p, 3, none⟩) (.inl rfl) _)⟩
end Go.Proofs.Ytcfcbcjaiplllaa
