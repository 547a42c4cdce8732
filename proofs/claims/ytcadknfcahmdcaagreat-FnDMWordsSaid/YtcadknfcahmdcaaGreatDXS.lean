/-
  The reference's reader in memory; its small methods, walked. No condition beyond the bounds that each theorem states.
-/
import Derived.Test.YtcadknfcahmdcaaGreatDXR
namespace Go.Proofs.YtcadknfcahmdcaaGreat
open Go.RowKit Go.Qz Go.Qz.DF
open Go.Qz.DV hiding val run part
set_option linter.unusedVariables false

/-- A reader: words L (in block wb), place, what was said so far. -/
structure Rdr (w : World) (rb wb wo wc : Nat) (L : List Nat) (at_ : Nat) (ov : Value) (O : List Nat) : Prop where
  ar : Arr w 78 rb [.slice (some ⟨wb, wo, none⟩) L.length wc, .int .i64 at_, ov, .bool false]
  wd : ∀ j, j < L.length → w.cell? ⟨wb, wo + j, none⟩ = some (.int .u8 (nth L j : Nat))
  ow : w.ownsRow (rb + 1) 5 1 ov O.length (bys O)
  lt : wb < rb
section
variable {w w' : World} {rb wb wo wc : Nat} {L : List Nat} {at_ : Nat} {ov : Value} {O : List Nat}
theorem Rdr.rlt (h : Rdr w rb wb wo wc L at_ ov O) : rb < w.heap.size := h.ar.lt
theorem Rdr.same (h : Rdr w rb wb wo wc L at_ ov O) (hs : Same w w') : Rdr w' rb wb wo wc L at_ ov O :=
  ⟨Arr.mod (S := fun _ => False) h.ar hs (fun h => h), fun j hj => by rw [(Same.below hs).cell (Nat.lt_trans h.lt h.rlt)]; exact h.wd j hj, own_below h.ow (Same.below hs), h.lt⟩
theorem below_set {rb j : Nat} {v : Value} (h : rb ≤ w.heap.size) : Below rb w (w.setCell ⟨rb, j, none⟩ v) := Mod.below (Mod.set1 w rb j v) h (fun k hk => by rw [hk]; exact Nat.le_refl _)
theorem Rdr.setAt (h : Rdr w rb wb wo wc L at_ ov O) (a : Nat) : Rdr (w.setCell ⟨rb, 1, none⟩ (.int .i64 a)) rb wb wo wc L a ov O := by
  have hb := below_set (w := w) (j := 1) (v := .int .i64 a) (Nat.le_of_lt h.rlt)
  refine ⟨h.ar.set_ 1 _, fun j hj => by rw [hb.cell h.lt]; exact h.wd j hj, own_mod h.ow (Mod.set1 w rb 1 _) (fun k hk e => ?_), h.lt⟩
  have := (h.ow.lt k hk).1
  omega
theorem Rdr.push (h : Rdr w rb wb wo wc L at_ ov O) {v' : Value} {O' : List Nat} (ho : w'.ownsRow (rb + 1) 5 1 v' O'.length (bys O')) (hg : w.grownBy w' ov.ownBlock) (hb : Below (rb + 1) w w') (hv : v'.ownBlock = ov.ownBlock ∨ ∃ b, v'.ownBlock = some b ∧ w.heap.size ≤ b) : Rdr (w'.setCell ⟨rb, 2, none⟩ v') rb wb wo wc L at_ v' O' ∧ Step rb ov v' w (w'.setCell ⟨rb, 2, none⟩ v') ∧ w'.cell? ⟨rb, 2, none⟩ = some ov ∧ w'.frozen? ⟨rb, 2, none⟩ = false := by
  have hA := h.ar.below hb (Nat.lt_succ_self rb)
  have hs := below_set (w := w') (rb := rb) (j := 2) (v := v') (Nat.le_of_lt hA.lt)
  have hbb : Below rb w w' := hb.mono (Nat.le_succ rb)
  refine ⟨⟨hA.set_ 2 _, fun j hj => by rw [hs.cell h.lt, hbb.cell h.lt]; exact h.wd j hj, own_mod ho (Mod.set1 w' rb 2 _) (fun k hk e => ?_), h.lt⟩, ⟨((Mod.of_grown hg).mono fun _ _ e => .inr e).trans ((Mod.set1 w' rb 2 _).mono fun _ _ e => .inl e), hv⟩, hA.cell? 2, hA.free 2⟩
  have := (ho.lt k hk).1
  omega
theorem Rdr.below (h : Rdr w rb wb wo wc L at_ ov O) {ov' : Value} (hs : Step rb ov ov' w w') : Below rb w w' := Mod.below hs.1 (Nat.le_of_lt h.rlt) fun k hk => by
  rcases hk with e | e
  · rw [e]; exact Nat.le_refl _
  · have := (h.ow.lt k e).1; omega
theorem Rdr.cells (h : Rdr w rb wb wo wc L at_ ov O) : w.cell? ⟨rb, 0, none⟩ = some (.slice (some ⟨wb, wo, none⟩) L.length wc) ∧ w.cell? ⟨rb, 1, none⟩ = some (.int .i64 at_) ∧ w.cell? ⟨rb, 2, none⟩ = some ov ∧ w.cell? ⟨rb, 3, none⟩ = some (.bool false) := ⟨h.ar.cell? 0, h.ar.cell? 1, h.ar.cell? 2, h.ar.cell? 3⟩
end
section
variable {rb wb wo wc : Nat} {L : List Nat} {at_ : Nat} {ov : Value} {O : List Nat}
def RPost (rb wb wo wc : Nat) (L : List Nat) (ov : Value) (at' : Nat) (O' : List Nat) (u : Value) (w : World) (e : Ending) (w' : World) : Prop := ∃ ov', e = .returned u ∧ Hid (Rdr w' rb wb wo wc L at' ov' O') ∧ Hid (Step rb ov ov' w w')
def NPost (rb wb wo wc : Nat) (L : List Nat) (ov : Value) (at' : Nat) (O' : List Nat) (u : Value) (w : World) (e : Ending) (w' : World) : Prop := e = .returned u ∧ Hid (Rdr w' rb wb wo wc L at' ov O') ∧ Hid (Step rb ov ov w w')
set_option maxRecDepth 100000 in
theorem rLeft (w : World) (h : Rdr w rb wb wo wc L at_ ov O) (hL : L.length ≤ 100000) (R : Nat) (hR : R + at_ = L.length) : Calls Tryz.prog 45 #[.pointer (some ⟨rb, 0, none⟩)] w (QPost (.int .i64 R) w) := by
  obtain ⟨c0, c1, c2, c3⟩ := h.cells
  obtain ⟨n, hn⟩ : ∃ n, n = L.length := ⟨_, rfl⟩
  rw [← hn] at c0 hL hR
  have q1 : IntKind.i64.wrap ((n : Int) - (at_ : Int)) = (R : Int) := by rw [IntKind.wrap_i64]; omega
  clear h c2 c3 hn hR
  go_enter Tryz.func45, Tryz.ntmps45
  go_wp2_with fail
  go_quiet (fail)
  go_wp2_with fail
  go_ret
  exact ⟨rfl, _, rfl⟩
set_option maxRecDepth 100000 in
theorem rNextS (w : World) (h : Rdr w rb wb wo wc L at_ ov O) (hL : L.length ≤ 100000) (ha : at_ < L.length) (hb : nth L at_ < 256) : Calls Tryz.prog 46 #[.pointer (some ⟨rb, 0, none⟩)] w (NPost rb wb wo wc L ov (at_ + 1) O (.int .i64 (nth L at_ : Nat)) w) := by
  obtain ⟨R, hR⟩ : ∃ R, R = L.length - at_ := ⟨_, rfl⟩
  have HLF := Lib.hid (rLeft w h hL R (by omega))
  have hR0 : ((R : Int) == 0) = false := by simp; omega
  obtain ⟨a1, ha1⟩ : ∃ a1, a1 = at_ + 1 := ⟨_, rfl⟩
  have HR := Lib.hid h
  obtain ⟨x, hx⟩ : ∃ x, x = nth L at_ := ⟨_, rfl⟩
  rw [← hx] at hb ⊢
  rw [← ha1]
  have q1 : IntKind.i64.wrap ((at_ : Int) + 1) = (a1 : Int) := by rw [IntKind.wrap_i64]; omega
  have q2 : IntKind.i64.wrap ((a1 : Int) - 1) = (at_ : Int) := by rw [IntKind.wrap_i64]; omega
  have q3 : ((a1 : Int) - 1) = (at_ : Int) := by omega
  have HX := Lib.hid hx
  have HA := Lib.hid ha
  have HLL := Lib.hid hL
  clear h hR hx ha hL ha1
  go_enter Tryz.func46, Tryz.ntmps46
  go_wp2_with fail
  refine HLF.out.mono ?_
  rintro e w' ⟨rfl, m, rfl⟩
  obtain ⟨w1, hw1⟩ : ∃ wz, wz = w.drewN m := ⟨_, rfl⟩
  have HR1 := Lib.hid (HR.out.same (Same.drewN w m))
  have HB1 : Hid (Step rb ov ov w (w.drewN m)) := Lib.hid (Step.of_same (Same.drewN w m))
  rw [← hw1] at HR1 HB1 ⊢
  obtain ⟨c0, c1, c2, c3⟩ := HR1.out.cells
  have f1 := HR1.out.ar.free 1
  have HR2 := Lib.hid (HR1.out.setAt a1)
  obtain ⟨w2, hw2⟩ : ∃ wz, wz = w1.setCell ⟨rb, 1, none⟩ (.int .i64 a1) := ⟨_, rfl⟩
  have HB2 : Hid (Step rb ov ov w w2) := Lib.hid (HB1.out.trans (by rw [hw2]; exact Step.of_p (Mod.set1 w1 rb 1 _)))
  rw [← hw2] at HR2
  have HW2 := Lib.hid hw2
  clear hw1 hw2 HLF HR HB1 c0 c2 c3
  go_upto_region 5 with (fail)
  rw [← HW2.out]
  obtain ⟨c0, c1', c2, c3⟩ := HR2.out.cells
  have cw := HR2.out.wd at_ HA.out
  rw [← HX.out] at cw
  obtain ⟨n, hn⟩ : ∃ n, n = L.length := ⟨_, rfl⟩
  rw [← hn] at c0
  have hlt : (at_ : Int) < (n : Int) := by have := HA.out; omega
  have hltn : at_ < n := by have := HA.out; omega
  have hn0 : n ≤ 100000 := by have := HLL.out; omega
  have hge : (0 : Int) ≤ (at_ : Int) := by omega
  clear HR1 c1 f1 HW2 c2 c3 hn
  go_wp2_with fail
  go_quiet (fail)
  go_wp2_with fail
  go_ret
  exact ⟨rfl, Lib.hid (HR2.out.same (Same.drewN w2 _)), Lib.hid (HB2.out.trans (Step.of_same (Same.drewN w2 _)))⟩
theorem rNext (w : World) (h : Rdr w rb wb wo wc L at_ ov O) (hL : L.length ≤ 100000) (ha : at_ < L.length) (hb : nth L at_ < 256) : Calls Tryz.prog 46 #[.pointer (some ⟨rb, 0, none⟩)] w (RPost rb wb wo wc L ov (at_ + 1) O (.int .i64 (nth L at_ : Nat)) w) :=
  (rNextS w h hL ha hb).mono (by rintro e w' ⟨h1, h2, h3⟩; exact ⟨ov, h1, h2, h3⟩)
set_option maxRecDepth 100000 in
theorem rSay (w : World) (h : Rdr w rb wb wo wc L at_ ov O) (x : Nat) (hx : x ≤ 127) (hO : O.length ≤ 100000) : Calls Tryz.prog 47 #[.pointer (some ⟨rb, 0, none⟩), .int .i64 x] w (RPost rb wb wo wc L ov at_ (O ++ [x]) (.tuple #[]) w) := by
  have HR := Lib.hid h
  obtain ⟨c0, c1, c2, c3⟩ := h.cells
  have d1 : decide ((x : Int) < 0) = false := decide_eq_false (by omega)
  have d1' : ((x : Int) < 0) = False := eq_false (by omega)
  have d2 : decide ((127 : Int) < (x : Int)) = false := decide_eq_false (by omega)
  have q1 : IntKind.u8.wrap (x : Int) = (x : Int) := by rw [IntKind.wrap_u8]; omega
  have hrs : rb + 1 ≤ w.heap.size := h.rlt
  obtain ⟨n, hn⟩ : ∃ n, n = O.length := ⟨_, rfl⟩
  have HO : Hid (w.ownsRow (rb + 1) 5 1 ov n (bys O)) := Lib.hid (by rw [hn]; exact h.ow)
  have HN := Lib.hid hn
  rw [← hn] at hO
  have HRS := Lib.hid hrs
  clear h c0 c1 c3 hn hrs
  go_enter Tryz.func47, Tryz.ntmps47
  go_wp2_with (at_builtin; refine wpList_pushAt _ _ 24 (rb + 1) 5 (.int .u8 0) 1 _ n (bys O) (.int .u8 x) rfl rfl rfl rfl Tryz.underlying24 Tryz.infoBy rfl rfl (by decide) HO.out (by omega) HRS.out ?_)
  intro v2 w2 ho2 hg2 hb2 hv2
  have e1 : bys O ++ [.int .u8 x] = bys (O ++ [x]) := by rw [bys_append]; rfl
  have e2 : n + 1 = (O ++ [x]).length := by rw [HN.out]; simp
  rw [e1, e2] at ho2
  obtain ⟨A3, c3, hv3, _, _, _⟩ := Rd.of_own ho2
  obtain ⟨n1, hn1⟩ : ∃ n1, n1 = (O ++ [x]).length := ⟨_, rfl⟩
  rw [← hn1] at hv3
  subst hv3
  obtain ⟨hr, hb, hc, hf⟩ := HR.out.push ho2 hg2 hb2 (by
    rcases hv2 with h | h
    · exact .inl h
    · exact .inr ⟨_, h, Nat.le_succ _⟩)
  rw [← e2] at hn1
  have HR2 := Lib.hid hr
  have HB2 := Lib.hid hb
  clear hr hb ho2 hg2 hb2 hv2 e1 e2 c2 hn1
  go_wp2_with fail
  go_end0
  exact ⟨_, rfl, HR2, HB2⟩
end
set_option maxRecDepth 100000 in
theorem rSay0 (v : Nat) (hv : v < 40) (lower : Bool) (w : World) : Calls Tryz.prog 59 #[.int .i64 v, .bool lower] w fun e w' => e = .returned (.int .i64 (say0 lower v : Nat)) ∧ w = w' := by
  have : ∀ x : Nat, x < 40 → ∀ b : Bool, True := fun _ _ _ => trivial
  by_cases h3 : v = 3
  · subst h3
    go_enter Tryz.func59, Tryz.ntmps59
    go_wp2_with fail
    go_ret
    exact ⟨rfl, rfl⟩
  · have d3 : ((v : Int) == 3) = false := by simp; omega
    by_cases h14 : v < 14
    · have d14 : decide ((v : Int) < 14) = true := decide_eq_true (by omega)
      have HS : Hid (say0 lower v = 44 + v) := Lib.hid (by unfold say0; rw [if_neg h3, if_pos h14])
      obtain ⟨a, ha⟩ : ∃ a, a = 48 + v := ⟨_, rfl⟩
      have q1 : IntKind.i64.wrap (48 + (v : Int)) = (a : Int) := by rw [IntKind.wrap_i64]; omega
      obtain ⟨b, hb⟩ : ∃ b, b = 44 + v := ⟨_, rfl⟩
      have q2 : IntKind.i64.wrap ((a : Int) - 4) = (b : Int) := by rw [IntKind.wrap_i64]; omega
      have HB := Lib.hid hb
      clear h3 h14 ha hb
      go_enter Tryz.func59, Tryz.ntmps59
      go_wp2_with fail
      go_ret
      exact ⟨by rw [HS.out, ← HB.out]; rfl, rfl⟩
    · have d14 : decide ((v : Int) < 14) = false := decide_eq_false (by omega)
      cases lower
      · have HS : Hid (say0 false v = 51 + v) := Lib.hid (by unfold say0; rw [if_neg h3, if_neg h14]; rfl)
        obtain ⟨a, ha⟩ : ∃ a, a = 65 + v := ⟨_, rfl⟩
        have q1 : IntKind.i64.wrap (65 + (v : Int)) = (a : Int) := by rw [IntKind.wrap_i64]; omega
        obtain ⟨b, hb⟩ : ∃ b, b = 51 + v := ⟨_, rfl⟩
        have q2 : IntKind.i64.wrap ((a : Int) - 14) = (b : Int) := by rw [IntKind.wrap_i64]; omega
        have HB := Lib.hid hb
        clear h3 h14 ha hb
        go_enter Tryz.func59, Tryz.ntmps59
        go_wp2_with fail
        go_ret
        exact ⟨by rw [HS.out, ← HB.out]; rfl, rfl⟩
      · have HS : Hid (say0 true v = 83 + v) := Lib.hid (by unfold say0; rw [if_neg h3, if_neg h14]; rfl)
        obtain ⟨a, ha⟩ : ∃ a, a = 97 + v := ⟨_, rfl⟩
        have q1 : IntKind.i64.wrap (97 + (v : Int)) = (a : Int) := by rw [IntKind.wrap_i64]; omega
        obtain ⟨b, hb⟩ : ∃ b, b = 83 + v := ⟨_, rfl⟩
        have q2 : IntKind.i64.wrap ((a : Int) - 14) = (b : Int) := by rw [IntKind.wrap_i64]; omega
        have HB := Lib.hid hb
        clear h3 h14 ha hb
        go_enter Tryz.func59, Tryz.ntmps59
        go_wp2_with fail
        go_ret
        exact ⟨by rw [HS.out, ← HB.out]; rfl, rfl⟩
set_option maxRecDepth 100000 in
theorem rSay2 (v : Nat) (hv : v < 27) (w : World) : Calls Tryz.prog 60 #[.int .i64 v] w fun e w' => e = .returned (.int .i64 (say2 v : Nat)) ∧ w = w' := by
  by_cases h15 : v < 15
  · have d15 : decide ((v : Int) < 15) = true := decide_eq_true (by omega)
    obtain ⟨b, hb⟩ : ∃ b, b = 33 + v := ⟨_, rfl⟩
    have HS : Hid (say2 v = b) := Lib.hid (by unfold say2; rw [if_pos h15, hb])
    have q1 : IntKind.i64.wrap (33 + (v : Int)) = (b : Int) := by rw [IntKind.wrap_i64]; omega
    clear h15 hb
    go_enter Tryz.func60, Tryz.ntmps60
    go_wp2_with fail
    go_ret
    exact ⟨by rw [HS.out]; rfl, rfl⟩
  · have d15 : decide ((v : Int) < 15) = false := decide_eq_false (by omega)
    by_cases h22 : v < 22
    · have d22 : decide ((v : Int) < 22) = true := decide_eq_true (by omega)
      obtain ⟨a, ha⟩ : ∃ a, a = 58 + v := ⟨_, rfl⟩
      obtain ⟨b, hb⟩ : ∃ b, b = 43 + v := ⟨_, rfl⟩
      have HS : Hid (say2 v = b) := Lib.hid (by unfold say2; rw [if_neg h15, if_pos h22, hb])
      have q1 : IntKind.i64.wrap (58 + (v : Int)) = (a : Int) := by rw [IntKind.wrap_i64]; omega
      have q2 : IntKind.i64.wrap ((a : Int) - 15) = (b : Int) := by rw [IntKind.wrap_i64]; omega
      clear h15 h22 ha hb
      go_enter Tryz.func60, Tryz.ntmps60
      go_wp2_with fail
      go_ret
      exact ⟨by rw [HS.out]; rfl, rfl⟩
    · have d22 : decide ((v : Int) < 22) = false := decide_eq_false (by omega)
      have d27 : decide ((v : Int) < 27) = true := decide_eq_true (by omega)
      obtain ⟨a, ha⟩ : ∃ a, a = 91 + v := ⟨_, rfl⟩
      obtain ⟨b, hb⟩ : ∃ b, b = 69 + v := ⟨_, rfl⟩
      have HS : Hid (say2 v = b) := Lib.hid (by unfold say2; rw [if_neg h15, if_neg h22, hb])
      have q1 : IntKind.i64.wrap (91 + (v : Int)) = (a : Int) := by rw [IntKind.wrap_i64]; omega
      have q2 : IntKind.i64.wrap ((a : Int) - 22) = (b : Int) := by rw [IntKind.wrap_i64]; omega
      clear h15 h22 ha hb
      go_enter Tryz.func60, Tryz.ntmps60
      go_wp2_with fail
      go_ret
      exact ⟨by rw [HS.out]; rfl, rfl⟩
set_option maxRecDepth 100000 in
theorem rSay3 (v : Nat) (hv : v ≤ 31) (lower : Bool) (w : World) : Calls Tryz.prog 61 #[.int .i64 v, .bool lower] w fun e w' => e = .returned (.int .i64 (say3 lower v : Nat)) ∧ w = w' := by
  have d31 : decide ((31 : Int) < (v : Int)) = false := decide_eq_false (by omega)
  have d31' : ((31 : Int) < (v : Int)) = False := eq_false (by omega)
  obtain ⟨a, ha⟩ : ∃ a, a = 65 + v := ⟨_, rfl⟩
  obtain ⟨b, hb⟩ : ∃ b, b = 64 + v := ⟨_, rfl⟩
  obtain ⟨c, hc⟩ : ∃ c, c = 96 + v := ⟨_, rfl⟩
  have q1 : IntKind.i64.wrap (65 + (v : Int)) = (a : Int) := by rw [IntKind.wrap_i64]; omega
  have q2 : IntKind.i64.wrap ((a : Int) - 1) = (b : Int) := by rw [IntKind.wrap_i64]; omega
  have q3 : IntKind.i64.wrap (96 + (v : Int)) = (c : Int) := by rw [IntKind.wrap_i64]; omega
  cases lower
  · have HS : Hid (say3 false v = c) := Lib.hid (by unfold say3; rw [if_neg (by simp), hc])
    clear ha hb hc
    go_enter Tryz.func61, Tryz.ntmps61
    go_wp2_with fail
    go_ret
    exact ⟨by rw [HS.out]; rfl, rfl⟩
  · by_cases h1 : 1 ≤ v
    · have d1 : decide ((1 : Int) ≤ (v : Int)) = true := decide_eq_true (by omega)
      by_cases h26 : v ≤ 26
      · have d26 : decide ((v : Int) ≤ 26) = true := decide_eq_true (by omega)
        have HS : Hid (say3 true v = b) := Lib.hid (by unfold say3; rw [if_pos ⟨rfl, h1, h26⟩, hb])
        clear ha hb hc h1 h26
        go_enter Tryz.func61, Tryz.ntmps61
        go_wp2_with fail
        go_ret
        exact ⟨by rw [HS.out]; rfl, rfl⟩
      · have d26 : decide ((v : Int) ≤ 26) = false := decide_eq_false (by omega)
        have HS : Hid (say3 true v = c) := Lib.hid (by unfold say3; rw [if_neg (fun h => h26 h.2.2), hc])
        clear ha hb hc h1 h26
        go_enter Tryz.func61, Tryz.ntmps61
        go_wp2_with fail
        go_ret
        exact ⟨by rw [HS.out]; rfl, rfl⟩
    · obtain rfl : v = 0 := by omega
      have HS : Hid (say3 true 0 = c) := Lib.hid (by unfold say3; rw [if_neg (by simp), hc])
      have hc' : c = 96 := by omega
      subst hc'
      clear ha hb hc h1
      go_enter Tryz.func61, Tryz.ntmps61
      go_wp2_with fail
      go_ret
      exact ⟨rfl, rfl⟩
end Go.Proofs.YtcadknfcahmdcaaGreat
