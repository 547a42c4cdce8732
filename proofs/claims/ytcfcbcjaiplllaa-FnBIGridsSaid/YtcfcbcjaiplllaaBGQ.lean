/-
  Plain: what each step makes of the words of a BitMatrix.
-/
import Derived.Test.YtcfcbcjaiplllaaBGS
import Derived.Test.YtcfcbcjaiplllaaBMS
import Derived.Test.YtcfcbcjaiplllaaBMY
import Derived.Test.YtcfcbcjaiplllaaPSH
import Derived.Outline
namespace Go.Proofs.Ytcfcbcjaiplllaa
open Go.RowKit Go.Qz
set_option linter.unusedVariables false

def ErrIs (e : Value) (t : Bool) : Prop := if t then e = .nilIface else IsErr e
def StepPost (p g : Nat) (P2 : Pic) (t : Bool) (w1 wx : World) (e : Value) : Prop := ∃ g2 ws2, ErrIs e t ∧ BM wx p g2 ws2 P2.W P2.H ∧ (∀ x y, x < P2.W → y < P2.H → mb ws2 P2.W x y = P2.f y x) ∧ Mod (fun b => b = p ∨ b = g) w1 wx ∧ (g2 = g ∨ w1.heap.size ≤ g2)
def GRPost (l : List Stp) (P0 : Pic) (w : World) (e : Ending) (w' : World) : Prop :=
  ∃ G A c, e = .returned (.tuple #[.slice (some ⟨G, 0, none⟩) (runS l P0).H (runS l P0).H, .slice A l.length c]) ∧ Hid (Rows2 w' (some ⟨G, 0, none⟩) (runS l P0).H (runS l P0).W (runS l P0).f) ∧ Hid (Rd w' A l.length (fun j => .bool (nthB (toldS l P0) j))) ∧ Below w.heap.size w w'
def bvs (l : List Bool) : List Value := l.map fun b => Value.bool b
theorem bvs_len (l : List Bool) : (bvs l).length = l.length := by simp [bvs]
theorem bvs_add (l : List Bool) (b : Bool) : bvs l ++ [.bool b] = bvs (l ++ [b]) := by simp [bvs]
theorem Try.infoBoolG : (Try.prog.info? 4).map (fun i => (i.zero, i.size, i.bytes)) = some (some (.bool false), 1, 1) := by kernel_rfl


section
variable {p g : Nat} {ws : List Nat} {P : Pic} {s : Stp} {w1 w2 wx : World}
theorem sp_mono {P2 : Pic} {t : Bool} {e : Value} (h : Below w1.heap.size w1 w2) (hpg : p < w1.heap.size ∧ g < w1.heap.size) (k : StepPost p g P2 t w2 wx e) : StepPost p g P2 t w1 wx e := by
  obtain ⟨g2, ws2, h1, h2, h3, h4, h5⟩ := k
  refine ⟨g2, ws2, h1, h2, h3, (Mod.of_below h).trans h4, ?_⟩
  have := h.size
  rcases h5 with h5 | h5
  · exact .inl h5
  · exact .inr (by omega)
theorem told_true (h : s.op ≠ 4) : s.told P = true := by unfold Stp.told; rw [if_neg h]
theorem err_nil (h : s.op ≠ 4) : ErrIs .nilIface (s.told P) := by rw [told_true h]; rfl
theorem sp_one (ho : s.op ≠ 4) (h8 : s.op ≠ 8) (ws2 : List Nat) (hb : BM wx p g ws2 P.W P.H) (hm : ∀ x y, x < P.W → y < P.H → mb ws2 P.W x y = s.eff P y x) (hmod : Mod (fun b => b = p ∨ b = g) w1 wx) : StepPost p g (s.run P) (s.told P) w1 wx .nilIface := by
  have e : s.run P = ⟨P.W, P.H, s.eff P⟩ := by unfold Stp.run; rw [if_neg h8, if_neg h8]
  rw [e]
  exact ⟨g, ws2, err_nil ho, hb, hm, hmod, .inl rfl⟩
theorem eff1 (h : s.op = 1) (r c : Nat) : s.eff P r c = if (c : Int) = s.X ∧ (r : Int) = s.Y then true else P.f r c := by simp [Stp.eff, h]
theorem eff2 (h : s.op = 2) (r c : Nat) : s.eff P r c = if (c : Int) = s.X ∧ (r : Int) = s.Y then false else P.f r c := by simp [Stp.eff, h]
theorem eff3 (h : s.op = 3) (r c : Nat) : s.eff P r c = if (c : Int) = s.X ∧ (r : Int) = s.Y then !P.f r c else P.f r c := by simp [Stp.eff, h]
theorem eff4 (h : s.op = 4) (r c : Nat) : s.eff P r c = (P.f r c || (s.isReg P && decide (s.X ≤ c ∧ (c : Int) < s.X + s.C ∧ s.Y ≤ r ∧ (r : Int) < s.Y + s.D))) := by simp [Stp.eff, h]
theorem eff5 (h : s.op = 5) (r c : Nat) : s.eff P r c = !P.f r c := by simp [Stp.eff, h]
theorem eff6 (h : s.op = 6) (r c : Nat) : s.eff P r c = false := by simp [Stp.eff, h]
theorem eff7 (h : s.op = 7) (r c : Nat) : s.eff P r c = P.f (P.H - 1 - r) (P.W - 1 - c) := by simp [Stp.eff, h]
theorem eff8 (h : s.op = 8) (r c : Nat) : s.eff P r c = P.f c (P.W - 1 - r) := by simp [Stp.eff, h]
theorem eff9 (h : s.op = 9) (r c : Nat) : s.eff P r c = if (r : Int) = s.Y then s.B c else P.f r c := by simp [Stp.eff, h]
theorem eff10 (h : s.op = 10) (r c : Nat) : s.eff P r c = if (r : Int) = s.Y then (P.f r c != s.B c) else P.f r c := by simp [Stp.eff, h]
theorem sp1 (hb : BM w1 p g ws P.W P.H) (hf : ∀ x y, x < P.W → y < P.H → mb ws P.W x y = P.f y x) {i j : Nat} (ho : s.op = 1) (hX : s.X = i) (hY : s.Y = j) (hi : i < P.W) (hj : j < P.H) :
    StepPost p g (s.run P) (s.told P) w1 (w1.setCell ⟨g, j * ((P.W + 31) / 32) + i / 32, none⟩ (.int .u32 ((nth ws (j * ((P.W + 31) / 32) + i / 32) ||| 2 ^ (i % 32) : Nat) : Int))) .nilIface := by
  have hl : j * ((P.W + 31) / 32) + i / 32 < ws.length := by rw [hb.len]; exact at_lt hi hj
  have hx := hb.lt _ (nth_mem hl)
  have hp : (2 : Nat) ^ (i % 32) < 2 ^ 32 := Nat.pow_lt_pow_right (by omega) (by omega)
  refine sp_one (by omega) (by omega) _ (hb.set_ _ _ (Nat.or_lt_two_pow (n := 32) hx hp)) (fun x y hx hy => ?_) ((Mod.set1 w1 g _ _).mono (fun k _ h => .inr h))
  rw [mb_set ws P.W P.H x y i j hb.len hi hj hx, hf x y hx hy, eff1 ho, hX, hY]
  by_cases h : x = i ∧ y = j
  · rw [if_pos (by omega), decide_eq_true h, Bool.or_true]
  · rw [if_neg (by omega), decide_eq_false h, Bool.or_false]
theorem sp2 (hb : BM w1 p g ws P.W P.H) (hf : ∀ x y, x < P.W → y < P.H → mb ws P.W x y = P.f y x) {i j : Nat} (ho : s.op = 2) (hX : s.X = i) (hY : s.Y = j) (hi : i < P.W) (hj : j < P.H) :
    StepPost p g (s.run P) (s.told P) w1 (w1.setCell ⟨g, j * ((P.W + 31) / 32) + i / 32, none⟩ (.int .u32 ((nth ws (j * ((P.W + 31) / 32) + i / 32) &&& (4294967295 ^^^ 2 ^ (i % 32)) : Nat) : Int))) .nilIface := by
  have hl : j * ((P.W + 31) / 32) + i / 32 < ws.length := by rw [hb.len]; exact at_lt hi hj
  have hx := hb.lt _ (nth_mem hl)
  refine sp_one (by omega) (by omega) _ (hb.set_ _ _ (Nat.lt_of_le_of_lt Nat.and_le_left hx)) (fun x y hx hy => ?_) ((Mod.set1 w1 g _ _).mono (fun k _ h => .inr h))
  rw [mb_unset ws P.W P.H x y i j hb.len hi hj hx, hf x y hx hy, eff2 ho, hX, hY]
  by_cases h : x = i ∧ y = j
  · rw [if_pos h, if_pos (by omega)]
  · rw [if_neg h, if_neg (by omega)]
theorem sp3 (hb : BM w1 p g ws P.W P.H) (hf : ∀ x y, x < P.W → y < P.H → mb ws P.W x y = P.f y x) {i j : Nat} (ho : s.op = 3) (hX : s.X = i) (hY : s.Y = j) (hi : i < P.W) (hj : j < P.H) :
    StepPost p g (s.run P) (s.told P) w1 (w1.setCell ⟨g, j * ((P.W + 31) / 32) + i / 32, none⟩ (.int .u32 ((nth ws (j * ((P.W + 31) / 32) + i / 32) ^^^ 2 ^ (i % 32) : Nat) : Int))) .nilIface := by
  have hl : j * ((P.W + 31) / 32) + i / 32 < ws.length := by rw [hb.len]; exact at_lt hi hj
  have hx := hb.lt _ (nth_mem hl)
  have hp : (2 : Nat) ^ (i % 32) < 2 ^ 32 := Nat.pow_lt_pow_right (by omega) (by omega)
  refine sp_one (by omega) (by omega) _ (hb.set_ _ _ (Nat.xor_lt_two_pow (n := 32) hx hp)) (fun x y hx hy => ?_) ((Mod.set1 w1 g _ _).mono (fun k _ h => .inr h))
  rw [mb_flip ws P.W P.H x y i j hb.len hb.lt hi hj hx, hf x y hx hy, eff3 ho, hX, hY]
  by_cases h : x = i ∧ y = j
  · rw [if_pos h, if_pos (by omega)]
  · rw [if_neg h, if_neg (by omega)]
theorem sp4_no (hb : BM w1 p g ws P.W P.H) (hf : ∀ x y, x < P.W → y < P.H → mb ws P.W x y = P.f y x) {e : Value} (ho : s.op = 4) (hno : s.isReg P = false) (he : IsErr e) (hbe : Below w1.heap.size w1 wx) : StepPost p g (s.run P) (s.told P) w1 wx e := by
  have e : s.run P = ⟨P.W, P.H, s.eff P⟩ := by unfold Stp.run; rw [if_neg (by omega), if_neg (by omega)]
  have ht : s.told P = false := by unfold Stp.told; rw [if_pos ho, hno]
  rw [e, ht]
  refine ⟨g, ws, he, hb.below hbe hb.plt hb.glt, fun x y hx hy => ?_, Mod.of_below hbe, .inl rfl⟩
  show _ = s.eff P y x
  rw [hf x y hx hy, eff4 ho, hno, Bool.false_and, Bool.or_false]
theorem sp4 (hb : BM w1 p g ws P.W P.H) (hf : ∀ x y, x < P.W → y < P.H → mb ws P.W x y = P.f y x) {a b c d : Nat} {ws2 : List Nat} (ho : s.op = 4) (hX : s.X = a) (hY : s.Y = b) (hC : s.C = c) (hD : s.D = d) (his : s.isReg P = true) (h2 : BM wx p g ws2 P.W P.H) (hr : Region ws ws2 P.W P.H a c b (b + d) 0) (hm : Mod (fun b => b = g) w1 wx) : StepPost p g (s.run P) (s.told P) w1 wx .nilIface := by
  have e : s.run P = ⟨P.W, P.H, s.eff P⟩ := by unfold Stp.run; rw [if_neg (by omega), if_neg (by omega)]
  have ht : s.told P = true := by unfold Stp.told; rw [if_pos ho, his]
  rw [e, ht]
  refine ⟨g, ws2, rfl, h2, fun x y hx hy => ?_, hm.mono (fun k _ h => .inr h), .inl rfl⟩
  show _ = s.eff P y x
  rw [hr x y hx hy, hf x y hx hy, eff4 ho, his, Bool.true_and, hX, hY, hC, hD]
  congr 1
  rw [Bool.eq_iff_iff]; simp only [decide_eq_true_eq]; omega
theorem sp5 (hb : BM w1 p g ws P.W P.H) (hf : ∀ x y, x < P.W → y < P.H → mb ws P.W x y = P.f y x) (ho : s.op = 5) (h2 : BM wx p g (mapTo (fun x => 4294967295 ^^^ x) ws ws.length) P.W P.H) (hm : Mod (fun b => b = g) w1 wx) : StepPost p g (s.run P) (s.told P) w1 wx .nilIface := by
  refine sp_one (by omega) (by omega) _ h2 (fun x y hx hy => ?_) (hm.mono (fun k _ h => .inr h))
  rw [mb_flipAll ws P.W P.H x y hb.len hx hy, hf x y hx hy, eff5 ho]
theorem sp6 (hb : BM w1 p g ws P.W P.H) (hf : ∀ x y, x < P.W → y < P.H → mb ws P.W x y = P.f y x) (ho : s.op = 6) (h2 : BM wx p g (mapTo (fun _ => 0) ws ws.length) P.W P.H) (hm : Mod (fun b => b = g) w1 wx) : StepPost p g (s.run P) (s.told P) w1 wx .nilIface := by
  refine sp_one (by omega) (by omega) _ h2 (fun x y hx hy => ?_) (hm.mono (fun k _ h => .inr h))
  rw [mb_clear ws P.W P.H x y hb.len hx hy, eff6 ho]
theorem sp7 (hb : BM w1 p g ws P.W P.H) (hf : ∀ x y, x < P.W → y < P.H → mb ws P.W x y = P.f y x) {ws2 : List Nat} (ho : s.op = 7) (h2 : BM wx p g ws2 P.W P.H) (hr : ∀ x y, x < P.W → y < P.H → mb ws2 P.W x y = mb ws P.W (P.W - 1 - x) (P.H - 1 - y)) (hm : Mod (fun b => b = g) w1 wx) : StepPost p g (s.run P) (s.told P) w1 wx .nilIface := by
  refine sp_one (by omega) (by omega) _ h2 (fun x y hx hy => ?_) (hm.mono (fun k _ h => .inr h))
  rw [hr x y hx hy, hf _ _ (by omega) (by omega), eff7 ho]
theorem sp8 (hb : BM w1 p g ws P.W P.H) (hf : ∀ x y, x < P.W → y < P.H → mb ws P.W x y = P.f y x) {g2 : Nat} {ws2 : List Nat} (ho : s.op = 8) (h2 : BM wx p g2 ws2 P.H P.W) (hr : Turn ws ws2 P.W P.H P.H 0) (hg2 : w1.heap.size ≤ g2) (hm : Mod (fun b => b = p) w1 wx) : StepPost p g (s.run P) (s.told P) w1 wx .nilIface := by
  have e : s.run P = ⟨P.H, P.W, s.eff P⟩ := by unfold Stp.run; rw [if_pos ho, if_pos ho]
  rw [e]
  refine ⟨g2, ws2, err_nil (by omega), h2, fun x y hx hy => ?_, hm.mono (fun k _ h => .inl h), .inr hg2⟩
  show _ = s.eff P y x
  have hx' : x < P.H := hx
  have hy' : y < P.W := hy
  show mb ws2 P.H x y = s.eff P y x
  rw [hr.all hx' hy', hf _ _ (by omega) hx', eff8 ho]
theorem mb_row (hb : BM w1 p g ws P.W P.H) {rs : List Nat} {y : Nat} (hl : rs.length = (P.W + 31) / 32) (hy : y < P.H) {x r : Nat} (hx : x < P.W) (hr : r < P.H) : mb (splice ws (y * ((P.W + 31) / 32)) rs) P.W x r = if r = y then bit rs x else mb ws P.W x r := by
  unfold mb bit splice
  have hlen := hb.len
  have hat := at_lt hx hr
  have hxR : x / 32 < (P.W + 31) / 32 := by omega
  obtain ⟨R, hR⟩ : ∃ R, R = (P.W + 31) / 32 := ⟨_, rfl⟩
  rw [← hR] at hl hlen hat hxR ⊢
  have hyR : y * R + R ≤ ws.length := by
    rw [hlen, ← Nat.succ_mul, Nat.mul_comm]; exact Nat.mul_le_mul_left _ hy
  unfold nth
  simp only [List.getD_eq_getElem?_getD]
  by_cases h : r = y
  · subst h
    rw [if_pos rfl, List.getElem?_append_right (by simp; omega), List.getElem?_append_left (by simp; omega)]
    have e : ∀ a b : Nat, a = b → (rs[a]?.getD 0).testBit (x % 32) = (rs[b]?.getD 0).testBit (x % 32) := fun a b h => by rw [h]
    apply e
    simp only [List.length_take]
    omega
  · rw [if_neg h]
    rcases Nat.lt_or_ge r y with h1 | h1
    · have h2 : r * R + R ≤ y * R := by rw [← Nat.succ_mul]; exact Nat.mul_le_mul_right _ h1
      rw [List.getElem?_append_left (by simp; omega), List.getElem?_take, if_pos (by omega)]
    · have h2 : y * R + R ≤ r * R := by rw [← Nat.succ_mul]; exact Nat.mul_le_mul_right _ (by omega)
      rw [List.getElem?_append_right (by simp; omega), List.getElem?_append_right (by simp; omega), List.getElem?_drop]
      have e : ∀ a b : Nat, a = b → (ws[a]?.getD 0).testBit (x % 32) = (ws[b]?.getD 0).testBit (x % 32) := fun a b h => by rw [h]
      apply e
      simp only [List.length_take]
      omega
theorem sp9 (hb : BM w1 p g ws P.W P.H) (hf : ∀ x y, x < P.W → y < P.H → mb ws P.W x y = P.f y x) {rs : List Nat} {y : Nat} (ho : s.op = 9) (hY : s.Y = y) (hy : y < P.H) (hl : rs.length = (P.W + 31) / 32) (hz : ∀ i, bit rs i = (decide (i < P.W) && s.B i)) (h2 : BM wx p g (splice ws (y * ((P.W + 31) / 32)) rs) P.W P.H) (hm : Mod (fun b => b = g) w1 wx) : StepPost p g (s.run P) (s.told P) w1 wx .nilIface := by
  refine sp_one (by omega) (by omega) _ h2 (fun x r hx hr => ?_) (hm.mono (fun k _ h => .inr h))
  rw [mb_row hb hl hy hx hr, hf x r hx hr, eff9 ho, hY, hz]
  by_cases h : r = y
  · rw [if_pos h, if_pos (by omega)]; simp [hx]
  · rw [if_neg h, if_neg (by omega)]
theorem sp10 (hb : BM w1 p g ws P.W P.H) (hf : ∀ x y, x < P.W → y < P.H → mb ws P.W x y = P.f y x) {p2 g2 : Nat} {w3 : World} {ms ws2 rs : List Nat} {y : Nat} (ho : s.op = 10) (hY : s.Y = y) (hy : y < P.H) (hl : rs.length = (P.W + 31) / 32) (hz : ∀ i, bit rs i = (decide (i < P.W) && s.B i)) (hm0 : BM w3 p2 g2 ms P.W P.H) (h0 : ∀ x y, mb ms P.W x y = false)
    (hx2 : XorUp ws (splice ms (y * ((P.W + 31) / 32)) rs) ws2 ws.length) (h2 : BM wx p g ws2 P.W P.H) (hm : Mod (fun b => b = g) w1 wx) : StepPost p g (s.run P) (s.told P) w1 wx .nilIface := by
  refine sp_one (by omega) (by omega) _ h2 (fun x r hx hr => ?_) (hm.mono (fun k _ h => .inr h))
  rw [hx2.mb hb.len hx hr, mb_row hm0 hl hy hx hr, hf x r hx hr, eff10 ho, hY, hz, h0]
  by_cases h : r = y
  · rw [if_pos h, if_pos (by omega)]; simp [hx]
  · rw [if_neg h, if_neg (by omega)]; simp
end
end Go.Proofs.Ytcfcbcjaiplllaa
