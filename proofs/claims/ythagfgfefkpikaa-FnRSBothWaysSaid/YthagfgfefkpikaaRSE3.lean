/-
  buildGenerator, walked. No condition beyond the bounds that the theorem states.
-/
import Derived.Test.YthagfgfefkpikaaRSE2
import Derived.Deep.RegionHeld3
namespace Go.Proofs.Ythagfgfefkpikaa
open Go.RowKit Go.Qz Go.Qz.RS
set_option linter.unusedVariables false

def BuildPost (F : Fld) (L E e f ec : Nat) (w : World) (en : Ending) (w' : World) : Prop := ∃ r v', en = .returned (.pointer (some ⟨r, 0, none⟩)) ∧ PolyQ w' (fun k => k ≠ L) r f (gen F ec) ∧ Arr w' 95 e [.pointer (some ⟨f, 0, none⟩), v'] ∧ Below E w w'
theorem tidy_lin (x : Nat) : tidy [1, x] = [1, x] := by simp [tidy]

set_option maxRecDepth 100000 in
set_option maxHeartbeats 6400000 in
theorem buildGen (F : Fld) (hF : Six F) (L E e f g0 ec : Nat) (v0 : Value) (h1 : 1 ≤ ec) (hec : ec + 1 ≤ F.size) (w : World) (hL : L < E) (hE : E ≤ w.heap.size) (he : EncQ w E e f v0 1 [.pointer (some ⟨g0, 0, none⟩)]) (hg : PolyQ w (Away L e v0) g0 f [1]) (hf : GFQ w (fun k => k < E ∧ k ≠ L) f F) :
    Calls Try.prog 58 #[.pointer (some ⟨e, 0, none⟩), .int .i64 ec] w (BuildPost F L E e f ec w) := by
  have hs := hF.bounds
  have HEC := Lib.hid hec
  have hecl : ec ≤ 4096 := by omega
  obtain ⟨A, c, hv, _, _, hrd⟩ := Rd.of_own he.own
  obtain ⟨gb, go, rfl, hgb, hgc⟩ := hrd (by omega)
  have hgc0 := hgc 0 (by omega)
  have a0 := he.arr.cell? 0
  have a1 := he.arr.cell? 1
  simp only [List.getElem?_cons_zero, List.getElem?_cons_succ] at a0 a1
  rw [hv] at a1
  have hgc0 : w.cell? ⟨gb, go + 0, none⟩ = some (.pointer (some ⟨g0, 0, none⟩)) := hgc0
  rw [Nat.add_zero] at hgc0
  have HE0 := Lib.hid he
  have HG0 := Lib.hid hg
  have HF := Lib.hid hf
  clear hgc hv he hg hf hrd hec
  go_enter Try.func58, Try.ntmps58
  go_wp2_with fail
  go_loopw [6, 7] (fun last d wr => ∃ (k pk : Nat) (v : Value) (ps : List Value), 1 ≤ k ∧ k ≤ ec + 1 ∧ d = .int .i64 k ∧ last = .pointer (some ⟨pk, 0, none⟩) ∧ Hid (EncQ wr E e f v k ps) ∧ Hid (PolyQ wr (Away L e v) pk f (gen F (k - 1))) ∧ Hid (ps.getD (k - 1) undef = .pointer (some ⟨pk, 0, none⟩)) ∧ Hid (Below E w wr)) (fun _ d _ => ec + 1 - (intOf d).toNat)
  case atStart => exact ⟨1, g0, v0, _, by omega, by omega, rfl, rfl, HE0, HG0, Lib.hid rfl, Lib.hid (Below.refl _ _)⟩
  case round =>
    obtain ⟨k, pk, v, ps, hk1, hk2, rfl, rfl, HQ, HP, HL, HB⟩ := hrel
    clear a0 a1 hgc0
    have HFR : Hid (GFQ wr (fun k => k < E ∧ k ≠ L) f F) := Lib.hid (HF.out.mod (Mod.of_belowE HB.out) (fun k hk => by omega))
    have b0 := HQ.out.arr.cell? 0
    have b1 := HQ.out.arr.cell? 1
    simp only [List.getElem?_cons_zero, List.getElem?_cons_succ] at b0 b1
    by_cases hlt : k ≤ ec
    · obtain ⟨n, hn⟩ : ∃ n, n = k - 1 := ⟨_, rfl⟩
      have e1 : (k : Int) - 1 = (n : Int) := by omega
      obtain ⟨m, hm⟩ : ∃ m, m = n + F.base := ⟨_, rfl⟩
      have e2 : (n : Int) + (F.base : Int) = (m : Int) := by omega
      have hml : m < F.size := by have := HEC.out; omega
      have hw1 : IntKind.i64.wrap (m : Int) = (m : Int) := by rw [IntKind.wrap_i64]; omega
      have hw2 : IntKind.i64.wrap (n : Int) = (n : Int) := by rw [IntKind.wrap_i64]; omega
      obtain ⟨x, hx⟩ : ∃ x, x = ex F m := ⟨_, rfl⟩
      have hxl : x < F.size := by rw [hx]; exact ex_lt F (by omega) _
      rw [← hn] at HP
      have HGEN : Hid (gen F k = prod F (gen F n) [1, x]) := Lib.hid (by
        rw [show k = n + 1 by omega, hx, hm]; rfl)
      have hel := HQ.out.arr.lt
      have hvl : ∀ k, v.ownBlock = some k → E ≤ k ∧ k < wr.heap.size := fun k hk => HQ.out.own.lt k hk
      have hEw : E ≤ wr.heap.size := Nat.le_trans hE HB.out.size
      have hAw : ∀ k, wr.heap.size ≤ k → Away L e v k := fun k hk => ⟨by omega, by omega, fun h => by have := hvl k h; omega⟩
      have HAW := Lib.hid hAw
      have hbl : Below wr.heap.size wr (wr.drew.alloc (.cells #[.int .i64 (1 : Nat), .int .i64 (x : Nat)] 3)) := (Below.refl _ _).drew.alloc (Nat.le_refl _) _
      have HPN := poly_new (Away L e v) f (some ⟨wr.heap.size, 0, none⟩) [1, x] 2 (wr.drew.alloc (.cells #[.int .i64 (1 : Nat), .int .i64 (x : Nat)] 3)) (fun k hk => hAw k (by simp at hk; omega)) (by simp) (by simp) (SlQ.lit2 1 x _ rfl (hAw _ (Nat.le_refl _)))
      rw [tidy_lin] at HPN
      have hs0 : wr.drew.cell? ⟨e, 0, none⟩ = some (.pointer (some ⟨f, 0, none⟩)) ∧ Hid (Below wr.heap.size wr wr.drew) := ⟨b0, Lib.hid (Below.refl _ _).drew⟩
      have hs1 : (wr.drew.alloc (.cells #[.int .i64 (1 : Nat), .int .i64 (x : Nat)] 3)).cell? ⟨e, 0, none⟩ = some (.pointer (some ⟨f, 0, none⟩)) ∧ Hid (Below wr.heap.size wr (wr.drew.alloc (.cells #[.int .i64 (1 : Nat), .int .i64 (x : Nat)] 3))) := ⟨(hbl.cell (p := ⟨e, 0, none⟩) hel).trans b0, Lib.hid hbl⟩
      have HX3 := Lib.hid (HPN.mono (R' := fun en w' => ∃ q, en = .returned (.tuple #[.pointer (some ⟨q, 0, none⟩), .nilIface]) ∧ (w'.cell? ⟨e, 0, none⟩ = some (.pointer (some ⟨f, 0, none⟩)) ∧ Hid (Below wr.heap.size wr w')) ∧ Hid (PolyQ w' (Away L e v) q f [1, x])) (by
        rintro en w' ⟨q, rfl, hq, hb, _⟩
        have hbw := hbl.trans (hb.mono hbl.size)
        exact ⟨q, rfl, ⟨(hbw.cell (p := ⟨e, 0, none⟩) hel).trans b0, Lib.hid hbw⟩, Lib.hid hq⟩))
      have HX1 := Lib.hid (fun (W : World) (hW : W.cell? ⟨e, 0, none⟩ = some (.pointer (some ⟨f, 0, none⟩)) ∧ Hid (Below wr.heap.size wr W)) => getBase _ F f W (HFR.out.below hW.2.out))
      have HX2 := (fun (W : World) (hW : W.cell? ⟨e, 0, none⟩ = some (.pointer (some ⟨f, 0, none⟩)) ∧ Hid (Below wr.heap.size wr W)) => gfExp _ F hF f m hml W (HFR.out.below hW.2.out))
      rw [← hx] at HX2
      have HX2 := Lib.hid HX2
      have HXL := Lib.hid hxl
      have HN := Lib.hid (show k = n + 1 by omega)
      clear hx hxl hm hn hvl hAw hbl HPN b1
      go_wp2_with fail
      go_region_held3 (fun w' => w'.cell? ⟨e, 0, none⟩ = some (.pointer (some ⟨f, 0, none⟩)) ∧ Hid (Below wr.heap.size wr w'))
        (first | exact hs0 | exact hs1 | exact hs3)
        (first | (go_at_call 61; refine (HX1.out _ hs0).mono ?_; rintro en w3 ⟨rfl, rfl⟩) | (go_at_call 32; refine (HX2.out _ hs0).mono ?_; rintro en w3 ⟨rfl, rfl⟩) | (go_at_call 49; refine HX3.out.mono ?_; rintro en w3 ⟨q, rfl, hs3, HQQ⟩))
      all_goals
        have HB3 := Lib.hid (HB.out.trans (hs3.2.out.mono hEw))
        have HEQ3 : Hid (EncQ w3 E e f v k ps) := Lib.hid (HQ.out.below hs3.2.out)
        have HPK3 : Hid (PolyQ w3 (Away L e v) pk f (gen F n)) := Lib.hid (HP.out.below hs3.2.out)
        have HF3 : Hid (GFQ w3 (fun k => k < E ∧ k ≠ L) f F) := Lib.hid (HFR.out.below hs3.2.out)
        have hsz3 : wr.heap.size ≤ w3.heap.size := hs3.2.out.size
        have hgl := (gen_top hF n).1
        have HMUL := Lib.hid (polyMul (Away L e v) F hF pk q f (gen F n) [1, x] (by omega) (by simp) (gen_el hF n) (lin_el hF HXL.out) (gen_tidy F n) (tidy_lin x) w3 (fun k hk => HAW.out k (Nat.le_trans hsz3 hk)) HPK3.out HQQ.out
          (HF3.out.imp fun k hk => ⟨hk.2, by have := HQ.out.lo; omega, fun h => by have := (HQ.out.own.lt k h).1; omega⟩))
        rw [← HGEN.out] at HMUL
        clear hs3 hs0 hs1 HX1 HX2 HX3 HGEN hgl HFR HPK3 HQQ b0
        go_wp2_with fail
        refine HMUL.out.mono ?_
        rintro en w4 ⟨r, rfl, hr, hb4⟩
        have HR4 : Hid (PolyQ w4 (fun k => Away L e v k ∧ k < w4.heap.size) r f (gen F k)) := Lib.hid hr.bound
        have HEQ4 : Hid (EncQ w4 E e f v k ps) := Lib.hid (HEQ3.out.below hb4)
        have hsz4 : w3.heap.size ≤ w4.heap.size := hb4.size
        have HB4 := Lib.hid (HB3.out.trans (hb4.mono (by omega)))
        have hE4 : E ≤ w4.heap.size := by omega
        have d1 := HEQ4.out.arr.cell? 1
        simp only [List.getElem?_cons_zero, List.getElem?_cons_succ] at d1
        have hel4 := HEQ4.out.arr.lt
        have HOWN := Lib.hid HEQ4.out.own
        clear hr hb4 HMUL HB3 HEQ3 HF3
        go_wp2_with (at_builtin; refine wpList_pushAt _ _ 93 E 63 (.pointer none) 8 v k ps (.pointer (some ⟨r, 0, none⟩)) rfl rfl rfl rfl Try.underlying93 Try.infoPoly rfl rfl (by decide) HOWN.out (by omega) hE4 ?_)
        intro v' w5 hown5 hg5 hb5 hat
        obtain ⟨A5, c5, hv5, _, _, _⟩ := Rd.of_own hown5
        subst hv5
        obtain ⟨v', hv5⟩ : ∃ v', v' = Value.slice A5 (k + 1) c5 := ⟨_, rfl⟩
        rw [← hv5] at hown5 hat
        have hm5 := Mod.of_grown hg5
        have hsep := HEQ4.out.sep
        have hA5 := HEQ4.out.arr.mod hm5 hsep
        have d15 := hA5.cell? 1
        have f15 := hA5.free 1
        simp only [List.getElem?_cons_zero, List.getElem?_cons_succ] at d15
        have hsep' : v'.ownBlock ≠ some e := by
          rcases hat with h | h
          · rw [h]; exact hsep
          · rw [h]; intro h2; injection h2 with h2; omega
        have hm6 := Mod.set1 w5 e 1 v'
        have HEQ6 : Hid (EncQ (w5.setCell ⟨e, 1, none⟩ v') E e f v' (k + 1) (ps ++ [.pointer (some ⟨r, 0, none⟩)])) := Lib.hid
          ⟨by have := hA5.set_ 1 v'; simpa using this, HEQ4.out.lo, own_mod hown5 hm6 (fun j hj h => by subst h; exact hsep' hj)⟩
        have HP6 : Hid (PolyQ (w5.setCell ⟨e, 1, none⟩ v') (Away L e v') r f (gen F k)) := Lib.hid (by
          refine ((HR4.out.mod hm5 (fun j hj => hj.1.2.2)).mod hm6 (fun j hj => hj.1.2.1)).imp fun j hj => ⟨hj.1.1, hj.1.2.1, ?_⟩
          rcases hat with h | h
          · rw [h]; exact hj.1.2.2
          · rw [h]; intro h2; injection h2 with h2; omega)
        have HB6 : Hid (Below E w (w5.setCell ⟨e, 1, none⟩ v')) := Lib.hid ((HB4.out.trans hb5).setCell (p := ⟨e, 1, none⟩) HEQ4.out.lo v')
        have HL6 : Hid ((ps ++ [Value.pointer (some ⟨r, 0, none⟩)]).getD k undef = .pointer (some ⟨r, 0, none⟩)) := Lib.hid (by
          have := HEQ4.out.own.1
          rw [Nat.mul_one] at this
          rw [List.getD_eq_getElem?_getD, List.getElem?_append_right (by omega), this, Nat.sub_self]; rfl)
        rw [hv5] at HEQ6 HP6 HB6
        clear hv5 hsep' hown5 hg5 hb5 hat hm5 hsep hA5 hm6 HR4 HB4 d1 HOWN HEQ4
        go_wp2_with fail
        go_roundw
        case rel => exact ⟨k + 1, r, _, _, by omega, by omega, by go_num, rfl, HEQ6, HP6, HL6, HB6⟩
        case measure => simp [intOf]; omega
    · obtain rfl : k = ec + 1 := by omega
      obtain ⟨A, c, hv, _, _, hrd⟩ := Rd.of_own HQ.out.own
      obtain ⟨gb, go, hA, hgb, hgc⟩ := hrd (by omega)
      subst hA
      have hgc1 := hgc ec (by omega)
      have hl := HL.out
      rw [Nat.add_sub_cancel] at hl
      dsimp only at hgc1
      rw [hl] at hgc1
      rw [hv] at b1
      have HPF : Hid (PolyQ wr (fun k => k ≠ L) pk f (gen F ec)) := Lib.hid (HP.out.imp fun j hj => hj.1)
      have hec0 : (0 : Int) ≤ (ec : Int) := by omega
      have hec1 : (ec : Int) < ((ec + 1 : Nat) : Int) := by omega
      have hlt2 : ((((ec + 1 : Nat) : Int)) ≤ (ec : Int)) = False := by simp; omega
      clear hgc hl hv hrd b0 hlt
      go_wp2_with fail
      go_ret
      exact ⟨pk, v, rfl, HPF.out, HQ.out.arr, HB.out⟩
end Go.Proofs.Ythagfgfefkpikaa
