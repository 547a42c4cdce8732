/-
  spec.RSElement for any size, BIRows with what it owns, BIFits; append of a step. No condition beyond the bounds that each theorem states.
-/
import Derived.Test.YtcfcbcjaiplllaaBGX
import Derived.Maps.AppendAt
namespace Go.Proofs.Ytcfcbcjaiplllaa
open Go.RowKit Go.Qz
set_option linter.unusedVariables false

theorem tmod_negW (n m : Int) (hm : 0 < m) (hn : n < 0) : -m < n.tmod m ∧ n.tmod m ≤ 0 ∧ n % m = if n.tmod m < 0 then n.tmod m + m else n.tmod m := by
  have h1 : n.tmod m = -((-n) % m) := by
    have := Int.tmod_eq_emod_of_nonneg (a := -n) (b := m) (by omega)
    rw [Int.neg_tmod] at this; omega
  have h2 := Int.emod_nonneg (-n) (show m ≠ 0 by omega)
  have h3 := Int.emod_lt_of_pos (-n) hm
  have h4 : n % m = (n.tmod m) % m := by
    have h5 := Int.tmod_add_mul_tdiv n m
    have h6 : n % m = (n.tmod m + m * n.tdiv m) % m := by rw [h5]
    rw [h6, Int.add_mul_emod_self_left]
  refine ⟨by omega, by omega, ?_⟩
  split
  · rename_i hlt
    rw [h4]
    have h7 : (n.tmod m + m) % m = n.tmod m % m := Int.add_emod_right _ _
    rw [← h7]
    exact Int.emod_eq_of_lt (by omega) (by omega)
  · rename_i hge
    rw [h4]
    have : n.tmod m = 0 := by omega
    rw [this]; simp

def RowsWPost (W H : Nat) (f : Nat → Nat → Bool) (w : World) (e : Ending) (w' : World) : Prop := ∃ G R C, e = .returned (.slice (some ⟨G, 0, none⟩) H H) ∧ Hid (WR w' w.heap.size G W (· < H) f R C) ∧ Below w.heap.size w w'
set_option maxRecDepth 100000 in
set_option maxHeartbeats 3200000 in
theorem biRowsW (W H : Nat) (hW : 0 < W) (hH : 0 < H) (hWl : W < 200) (hHl : H < 200) (z : Nat → Bool) (A : Option Addr) (n c : Nat) (hn : n < 4294967296) (w : World) (h : Rd w A n (fun j => .bool (z j))) :
    Calls Try.prog 22 #[.int .i64 W, .int .i64 H, .slice A n c] w (RowsWPost W H (fitB z n W) w) := by
  have hmkH := fun W => run_make1 (P := Try.prog) 29 22 (.slice none 0 0) 24 Try.underlying29 Try.infoBools rfl (by decide) H (by omega) .i64 .i64 H rfl W
  have hmkW := fun X => run_make1 (P := Try.prog) 22 4 (.bool false) 1 Try.underlying22 Try.infoBool' rfl (by decide) W (by omega) .i64 .i64 W rfl X
  have HR := Lib.hid h
  have hAr : Arr (w.alloc (.cells (zeros H (.slice none 0 0)) 22)) 22 w.heap.size (hdrs w.heap.size W H 0) := by
    rw [hdrs_zero]; exact Arr.new w 22 _
  have hb0 : Below w.heap.size w (w.alloc (.cells (zeros H (.slice none 0 0)) 22)) := (Below.refl _ _).alloc (Nat.le_refl _) _
  have hs0 : (w.alloc (.cells (zeros H (.slice none 0 0)) 22)).heap.size = w.heap.size + 1 := by simp
  clear h
  go_enter Try.func22, Try.ntmps22
  go_wp2_with fail
  obtain ⟨W3, hW3⟩ : ∃ W3, W3 = w.alloc (.cells (zeros H (.slice none 0 0)) 22) := ⟨_, rfl⟩
  rw [← hW3] at hAr hb0 hs0 ⊢
  obtain ⟨R, hR⟩ : ∃ R, R = w.heap.size := ⟨_, rfl⟩
  rw [← hR] at hAr hb0 hs0 ⊢
  have HRR := Lib.hid hR
  have HS0 : Hid (W3.heap.size = R + 1 + 0) := Lib.hid hs0
  clear hW3 hR hs0
  go_loopw [8] (fun i wr => ∃ k : Nat, k ≤ H ∧ i = .int .i64 k ∧ Arr wr 22 R (hdrs R W H k) ∧ Below R w wr ∧ Hid (wr.heap.size = R + 1 + k) ∧ Hid (∀ r, r < k → BL wr (R + 1 + r) (upB W (fitB z n W r) W))) (fun i _ => H - (intOf i).toNat)
  case atStart => exact ⟨0, by omega, rfl, hAr, hb0, HS0, Lib.hid (fun r hr => by omega)⟩
  case round =>
    obtain ⟨k, hk, rfl, hA2, hB2, HS, HB⟩ := hrel
    clear hAr hb0 HS0
    by_cases hlt : k < H
    · have hhl : (hdrs R W H k).length = H := by simp [hdrs]
      have hck := hA2.cell? k
      rw [hdrs_get _ _ _ _ _ hlt, if_neg (by omega)] at hck
      have hfk := hA2.free k
      have hsz : wr.heap.size = R + 1 + k := HS.out
      have hk0 : (0 : Int) ≤ (k : Int) := by omega
      have hk1 : (k : Int) < (H : Int) := by omega
      have hck2 : (wr.alloc (.cells (zeros W (.bool false)) 4)).cell? ⟨R, k, none⟩ = some (.slice none 0 0) := (World.cell?_alloc_past _ _ _ hA2.lt).trans hck
      have hfk2 : (wr.alloc (.cells (zeros W (.bool false)) 4)).frozen? ⟨R, k, none⟩ = false := (hA2.mod (S := fun _ => False) ((Mod.refl _).alloc (.cells (zeros W (.bool false)) 4)) (fun h => h)).free k
      have hA3 := (hA2.mod (S := fun _ => False) ((Mod.refl _).alloc (.cells (zeros W (.bool false)) 4)) (fun h => h)).set_ k (.slice (some ⟨R + 1 + k, 0, none⟩) W W)
      rw [hdrs_set] at hA3
      have hL := BL.zeros wr W (fitB z n W k)
      rw [hsz] at hL
      have hL3 : BL ((wr.alloc (.cells (zeros W (.bool false)) 4)).setCell ⟨R, k, none⟩ (.slice (some ⟨R + 1 + k, 0, none⟩) W W)) (R + 1 + k) (upB W (fitB z n W k) 0) := hL.arr.mod (Mod.set1 _ R k _) (by omega)
      have hB3 : Below R w ((wr.alloc (.cells (zeros W (.bool false)) 4)).setCell ⟨R, k, none⟩ (.slice (some ⟨R + 1 + k, 0, none⟩) W W)) := (hB2.alloc (by omega) _).setCell (p := ⟨R, k, none⟩) (Nat.le_refl _) _
      have hS3 : ((wr.alloc (.cells (zeros W (.bool false)) 4)).setCell ⟨R, k, none⟩ (.slice (some ⟨R + 1 + k, 0, none⟩) W W)).heap.size = R + 1 + (k + 1) := by simp [World.setCell]; omega
      have hBL3 : ∀ r, r < k → BL ((wr.alloc (.cells (zeros W (.bool false)) 4)).setCell ⟨R, k, none⟩ (.slice (some ⟨R + 1 + k, 0, none⟩) W W)) (R + 1 + r) (upB W (fitB z n W r) W) := fun r hr =>
        ((HB.out r hr).arr.mod (S := fun _ => False) ((Mod.refl _).alloc (.cells (zeros W (.bool false)) 4)) (fun h => h)).mod (Mod.set1 _ R k _) (by omega)
      clear hA2 hB2 hL hhl hck HB
      go_wp2_with fail
      obtain ⟨W4, hW4⟩ : ∃ W4, W4 = (wr.alloc (.cells (zeros W (.bool false)) 4)).setCell ⟨R, k, none⟩ (.slice (some ⟨R + 1 + k, 0, none⟩) W W) := ⟨_, rfl⟩
      rw [← hW4] at hA3 hL3 hB3 hS3 hBL3 ⊢
      have HA3 := Lib.hid hA3
      have HB3 := Lib.hid hB3
      have HBL3 := Lib.hid hBL3
      have HL3 := Lib.hid hL3
      have HS3 := Lib.hid hS3
      clear hA3 hB3 hBL3 hL3 hS3 hW4 hck2 hfk2 hsz HS
      go_loopw [9] (fun i wr => ∃ x : Nat, x ≤ W ∧ i = .int .i64 x ∧ Arr wr 22 R (hdrs R W H (k + 1)) ∧ Below R w wr ∧ Hid (wr.heap.size = R + 1 + (k + 1)) ∧ Hid (∀ r, r < k → BL wr (R + 1 + r) (upB W (fitB z n W r) W)) ∧ BL wr (R + 1 + k) (upB W (fitB z n W k) x)) (fun i _ => W - (intOf i).toNat)
      case atStart => exact ⟨0, by omega, rfl, HA3.out, HB3.out, HS3, HBL3, HL3.out⟩
      case round =>
        obtain ⟨x, hx, rfl, hA5, hB5, HS5, HBL5, hL5⟩ := hrel
        clear HA3 HB3 HS3 HBL3 HL3
        by_cases hxl : x < W
        · by_cases hn0 : 0 < n
          · obtain ⟨ab, ao, rfl, hab, hac⟩ := HR.out hn0
            obtain ⟨m, hm⟩ : ∃ m, m = k * W := ⟨_, rfl⟩
            have em : (k : Int) * (W : Int) = (m : Int) := by rw [hm]; simp
            have hml : m < 40000 := by rw [hm]; exact Nat.lt_of_le_of_lt (Nat.mul_le_mul (show k ≤ 199 by omega) (show W ≤ 199 by omega)) (by decide)
            have hwm : IntKind.i64.wrap (m : Int) = (m : Int) := by rw [IntKind.wrap_i64]; omega
            obtain ⟨j, hj⟩ : ∃ j, j = (m + x) % n := ⟨_, rfl⟩
            have hjl : j < n := by rw [hj]; exact Nat.mod_lt _ hn0
            have ej : ((m : Int) + (x : Int)).tmod (n : Int) = (j : Int) := by rw [Int.tmod_eq_emod_of_nonneg (by omega), hj]; simp
            have ejm : ((m : Int) + (x : Int)) % (n : Int) = (j : Int) := by rw [hj]; simp
            have hws : IntKind.i64.wrap ((m : Int) + (x : Int)) = (m : Int) + (x : Int) := by rw [IntKind.wrap_i64]; omega
            have hrem := fun W => rem_run ((m : Int) + (x : Int)) (n : Int) (j : Int) (by omega) ej W
            have cz := (hB5.cell (p := ⟨ab, ao + j, none⟩) (by rw [HRR.out]; exact hab)).trans (hac j hjl)
            dsimp only at cz
            have hfit : fitB z n W k x = z j := by unfold fitB; rw [hj, hm]; simp [hn0]
            have hL6 := hL5.set_
            rw [hfit] at hL6
            have ch := hA5.cell? k
            rw [hdrs_get _ _ _ _ _ hlt, if_pos (by omega)] at ch
            have cl := hL5.cell hxl
            have hz0 : (decide (x < x) && fitB z n W k x) = false := by simp
            rw [hz0] at cl
            have fl := hL5.arr.free x
            obtain ⟨v, hv⟩ : ∃ v, v = z j := ⟨_, rfl⟩
            rw [← hv] at cz hL6
            have hj0 : (0 : Int) ≤ (j : Int) := by omega
            have hj1 : (j : Int) < (n : Int) := by omega
            have hx0 : (0 : Int) ≤ (x : Int) := by omega
            have hx1 : (x : Int) < (W : Int) := by omega
            have hn1 : (0 : Int) < (n : Int) := by omega
            have hkH : (k : Int) < (H : Int) := by omega
            have hA7 := Lib.hid (hA5.mod (Mod.set1 wr (R + 1 + k) x (.bool v)) (by omega))
            have hB7 := Lib.hid (hB5.setCell (p := ⟨R + 1 + k, x, none⟩) (by dsimp only; omega) (.bool v))
            have HS7 : Hid ((wr.setCell ⟨R + 1 + k, x, none⟩ (.bool v)).heap.size = R + 1 + (k + 1)) := Lib.hid (by simp only [World.setCell]; rw [Array.size_modify]; exact HS5.out)
            have HBL7 : Hid (∀ r, r < k → BL (wr.setCell ⟨R + 1 + k, x, none⟩ (.bool v)) (R + 1 + r) (upB W (fitB z n W r) W)) := Lib.hid (fun r hr => (HBL5.out r hr).arr.mod (Mod.set1 wr (R + 1 + k) x (.bool v)) (by omega))
            have HL7 := Lib.hid hL6
            clear hm hj hfit hz0 hv hA5 hB5 hL5 hL6 hac ej
            go_wp2_with fail
            go_region
            go_wp2_with fail
            go_roundw
            case rel => exact ⟨x + 1, by omega, by go_num, hA7.out.mod (Mod.drewN (Mod.refl (S := fun _ => False) _) 1) (fun h => h), below_drewN hB7.out 1, HS7, HBL7, HL7.out.arr.mod (Mod.drewN (Mod.refl (S := fun _ => False) _) 1) (fun h => h)⟩
            case measure => simp [intOf]; omega
          · obtain rfl : n = 0 := by omega
            have HL6 : Hid (BL wr (R + 1 + k) (upB W (fitB z 0 W k) W)) := Lib.hid (by
              have e : upB W (fitB z 0 W k) W = upB W (fitB z 0 W k) x := by unfold upB fitB; simp
              rw [e]; exact hL5)
            have HBL7 : Hid (∀ r, r < k + 1 → BL wr (R + 1 + r) (upB W (fitB z 0 W r) W)) := Lib.hid (fun r hr => by
              by_cases e : r = k
              · rw [e]; exact HL6.out
              · exact HBL5.out r (by omega))
            clear hL5
            go_wp2_with fail
            go_roundw
            case rel => exact ⟨k + 1, by omega, by go_num, hA5, hB5, HS5, HBL7⟩
            case measure => simp [intOf]; omega
        · obtain rfl : x = W := by omega
          have HBL7 : Hid (∀ r, r < k + 1 → BL wr (R + 1 + r) (upB x (fitB z n x r) x)) := Lib.hid (fun r hr => by
            by_cases e : r = k
            · rw [e]; exact hL5
            · exact HBL5.out r (by omega))
          clear hL5
          go_wp2_with fail
          go_roundw
          case rel => exact ⟨k + 1, by omega, by go_num, hA5, hB5, HS5, HBL7⟩
          case measure => simp [intOf]; omega
    · obtain rfl : k = H := by omega
      have HWR : Hid (WR wr w.heap.size R W (· < k) (fitB z n W) (fun r => R + 1 + r) (fun _ => W)) := Lib.hid (by
        refine ⟨⟨fun r hr => by rw [← HRR.out]; omega, fun r hr => (HB.out r hr).arr.lt, fun r r' _ _ e => by omega, fun r c hr => (HB.out r hr).arr.free c, fun r c hr hc => ?_⟩, by rw [HRR.out]; exact Nat.le_refl _, hA2.lt, hA2.free, fun r hr => by omega, fun r hr => ?_, fun r hr => ⟨Nat.le_refl _, by unfold maxLen; omega⟩⟩
        · rw [(HB.out r hr).cell hc]; simp [hc]
        · rw [hA2.cell? r, hdrs_get _ _ _ _ _ hr, if_pos hr])
      have HB9 : Hid (Below w.heap.size w wr) := Lib.hid (by rw [← HRR.out]; exact hB2)
      clear hA2 hB2
      go_wp2_with fail
      go_ret
      exact ⟨R, _, _, rfl, HWR, HB9.out⟩


/-- The box of a size. -/
def szv (n : Nat) : Value := .agg #[.int .i64 0, .int .i64 n, .int .i64 0]
set_option maxRecDepth 100000 in
set_option maxHeartbeats 1600000 in
theorem rsSize (S : Nat) (hS : 0 < S ∧ S ≤ 4096) (n : Int) (h0 : -9223372036854775808 ≤ n) (h1 : n ≤ 9223372036854775807) (w : World) :
    Calls Try.prog 27 #[szv S, .int .i64 n] w fun e w' => ∃ x : Nat, e = .returned (.int .i64 x) ∧ x < S ∧ Below w.heap.size w w' := by
  have hm : (0 : Int) < (S : Int) := by omega
  have hE0 := Int.emod_nonneg n (show (S : Int) ≠ 0 by omega)
  have hE1 := Int.emod_lt_of_pos n hm
  obtain ⟨x, hx⟩ : ∃ x : Nat, (x : Int) = n % (S : Int) := ⟨(n % (S : Int)).toNat, by omega⟩
  have hxl : x < S := by omega
  unfold szv
  by_cases hn : 0 ≤ n
  · have ht : n.tmod (S : Int) = x := by rw [Int.tmod_eq_emod_of_nonneg hn]; exact hx.symm
    have hx2 : n % (S : Int) = x := hx.symm
    clear hE0 hE1 hx
    have hlo : Hid (-9223372036854775808 ≤ n) := Lib.hid h0
    have hhi : Hid (n ≤ 9223372036854775807) := Lib.hid h1
    clear h0 h1
    go_enter Try.func27, Try.ntmps27
    go_wp2_with fail
    go_ret
    exact ⟨x, rfl, hxl, (Below.refl _ _).alloc (Nat.le_refl _) _⟩
  · obtain ⟨t0, t1, t2⟩ := tmod_negW n (S : Int) hm (by omega)
    rw [← hx] at t2
    clear hx hE0 hE1 h0 h1 hn
    obtain ⟨q, hq⟩ : ∃ q : Int, n.tmod (S : Int) = q := ⟨_, rfl⟩
    rw [hq] at t0 t1 t2
    by_cases hq0 : q < 0
    · rw [if_pos hq0] at t2
      have T := Lib.hid t2
      clear t2
      go_enter Try.func27, Try.ntmps27
      go_wp2_with fail
      go_ret
      exact ⟨x, by rw [T.out]; rfl, hxl, (Below.refl _ _).alloc (Nat.le_refl _) _⟩
    · rw [if_neg hq0] at t2
      have T := Lib.hid t2
      clear t2
      go_enter Try.func27, Try.ntmps27
      go_wp2_with fail
      go_ret
      exact ⟨x, by rw [T.out]; rfl, hxl, (Below.refl _ _).alloc (Nat.le_refl _) _⟩

def FitPost (W : Nat) (z : Nat → Bool) (n : Nat) (w : World) (e : Ending) (w' : World) : Prop := ∃ b c, e = .returned (.slice (some ⟨b, 0, none⟩) W c) ∧ w.heap.size ≤ b ∧ Hid (Rd w' (some ⟨b, 0, none⟩) W (fun i => .bool (fitB z n W 0 i))) ∧ Below w.heap.size w w'
set_option maxRecDepth 100000 in
set_option maxHeartbeats 1600000 in
theorem biFits (W : Nat) (hW : 0 < W) (hWl : W < 200) (z : Nat → Bool) (A : Option Addr) (n c : Nat) (hn : n < 4294967296) (w : World) (h : Rd w A n (fun j => .bool (z j))) :
    Calls Try.prog 28 #[.slice A n c, .int .i64 W] w (FitPost W z n w) := by
  have HC := Lib.hid (biRowsW W 1 hW (by omega) hWl (by omega) z A n c hn w h)
  clear h
  go_enter Try.func28, Try.ntmps28
  go_wp2_with fail
  refine HC.out.mono ?_
  rintro e w1 ⟨G, R, C, rfl, hwr, hbe⟩
  have d0 := hwr.out.head 0 (by omega)
  have HWR := Lib.hid hwr
  obtain ⟨b, hb⟩ : ∃ b, b = R 0 := ⟨_, rfl⟩
  obtain ⟨c0, hc0⟩ : ∃ c, c = C 0 := ⟨_, rfl⟩
  have HP : Hid (w.heap.size ≤ b ∧ Rd w1 (some ⟨b, 0, none⟩) W (fun i => .bool (fitB z n W 0 i))) := Lib.hid (by
    rw [hb]
    exact ⟨hwr.out.rows.lo 0 (by omega), fun _ => ⟨R 0, 0, rfl, hwr.out.rows.lt 0 (by omega), fun j hj => by rw [Nat.zero_add]; exact hwr.out.rows.cell 0 j (by omega) hj⟩⟩)
  rw [← hb, ← hc0] at d0
  have HB := Lib.hid hbe
  clear hb hc0 hwr hbe HWR
  go_wp2_with fail
  go_ret
  exact ⟨b, c0, rfl, HP.out.1, Lib.hid HP.out.2, HB.out⟩

/-- 'v = append(v, u)' onto a row of the call's own, u a value of several cells: behind the new block that holds u. -/
theorem wpList_pushS {P : Program} {W : World} {ops : Array Oper} {rest : List Oper} {o : Oper} {a : Act} {Q : Exit → Act → World → Prop} (s x : Operand) (t : TypeId)
    (base : Nat) (e : TypeId) (z : Value) (size bytes : Nat) (v : Value) (n : Nat) (xs : List Value) (us : List Value) (hul : us.length = size) (hsz : 0 < size)
    (hgd : o.guard = none) (ho : o.op = .call { callee := .builtin .append, args := #[s, x], argTypes := #[t, t] })
    (hs : a.eval s = v) (hx : a.eval x = .slice (some ⟨W.heap.size, 0, none⟩) 1 1)
    (ht : P.underlying t = some (.slice e)) (hi : (P.info? e).map (fun i => (i.zero, i.size, i.bytes)) = some (some z, size, bytes)) (hzs : z.cells.size = size) (h1 : ∀ u ∈ us, u.oneCell' = true) (hb : bytes ≤ 64)
    (hown : W.ownsRow base e size v n xs) (hn : n < 1099511627776) (hbase : base ≤ W.heap.size)
    (h : ∀ v' w', w'.ownsRow base e size v' (n + 1) (xs ++ us) → W.grownBy w' v.ownBlock → Below base W w' → (v'.ownBlock = v.ownBlock ∨ v'.ownBlock = some (W.heap.size + 1)) → wpList P ops Q rest (a.put o.dst v') w') :
    wpList P ops Q (o :: rest) a (W.alloc (.cells us.toArray e)) := by
  obtain ⟨i0, hi, hz0, hz1, hz2⟩ := info_parts hi
  refine wpList_append_own_at _ hgd s x t ho base e i0 z size bytes ht hi hz0 hz1 hz2 hzs hsz v n xs hs (hown.alloc _) ⟨W.heap.size, 0, none⟩ 1 1 us hx (by rw [Nat.one_mul]; exact hul) ?_ h1 ?_ ?_ ?_ ?_
  · intro j u' hu
    rw [Addr.add_lit, World.cell?_alloc_at _ _ _ _ rfl]
    simpa using hu
  · unfold maxLen; omega
  · have : (n + 1) * bytes ≤ 1099511627776 * 64 := Nat.mul_le_mul (by omega) hb
    omega
  · simp; omega
  · intro v' w' g1 g2 _ g4
    have g3 : W.grownBy w' v.ownBlock :=
      ⟨g2.os, g2.tape, g2.output, Nat.le_trans (by simp) g2.size, fun k hk hne => (g2.block k (by simp; omega) hne).trans (Below.heap_alloc W _ k hk)⟩
    exact h v' w' g1 g3 ((Below.refl _ _).grown g3 hbase fun k hk => (hown.lt k hk).1) (by simpa using g4)
end Go.Proofs.Ytcfcbcjaiplllaa
