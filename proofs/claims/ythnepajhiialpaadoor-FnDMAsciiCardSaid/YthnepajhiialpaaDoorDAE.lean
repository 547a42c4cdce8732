/-
  The decoder's segment of X12, walked. No condition beyond the bounds that each theorem states.
-/
import Derived.Test.YthnepajhiialpaaDoorDAD
namespace Go.Proofs.YthnepajhiialpaaDoor
open Go.RowKit Go.Qz Go.Qz.BS Go.Qz.DW
set_option linter.unusedVariables false

theorem Tryd.infoIntE : (Tryd.prog.info? 3).map (fun i => (i.zero, i.size, i.bytes)) = some (some (.int .i64 0), 1, 8) := by kernel_rfl
def i3 (a b c : Nat) : List Value := [.int .i64 (a : Nat), .int .i64 (b : Nat), .int .i64 (c : Nat)]
set_option maxRecDepth 100000 in
set_option maxHeartbeats 1600000 in
theorem parseTwo (f s a b c E : Nat) (x : Value) (y z : Value) (ha : a < 40) (hb : b < 40) (hc : c < 40) (he : f * 256 + s = tri a b c) (w : World) (h : Arr w 3 E [x, y, z]) :
    Calls Tryd.prog 47 #[.int .i64 f, .int .i64 s, .slice (some ⟨E, 0, none⟩) 3 3] w fun e w' => e = .returned (.tuple #[]) ∧ Hid (Arr w' 3 E (i3 a b c)) ∧ Hid (Mod (· = E) w w') := by
  have c0 := h.cell? 0
  have c1 := h.cell? 1
  have c2 := h.cell? 2
  simp only [List.getElem?_cons_zero, List.getElem?_cons_succ] at c0 c1 c2
  have f0 := h.free 0
  have f1 := h.free 1
  have f2 := h.free 2
  have HA : Hid (Arr (((w.setCell ⟨E, 0, none⟩ (.int .i64 (a : Nat))).setCell ⟨E, 1, none⟩ (.int .i64 (b : Nat))).setCell ⟨E, 2, none⟩ (.int .i64 (c : Nat))) 3 E (i3 a b c)) := Lib.hid (((h.set_ 0 _).set_ 1 _).set_ 2 _)
  have HM : Hid (Mod (· = E) w (((w.setCell ⟨E, 0, none⟩ (.int .i64 (a : Nat))).setCell ⟨E, 1, none⟩ (.int .i64 (b : Nat))).setCell ⟨E, 2, none⟩ (.int .i64 (c : Nat)))) := Lib.hid ((((Mod.refl (S := (· = E)) w).setCell (p := ⟨E, 0, none⟩) (.inl rfl) _).setCell (p := ⟨E, 1, none⟩) (.inl rfl) _).setCell (p := ⟨E, 2, none⟩) (.inl rfl) _)
  unfold tri at he
  obtain ⟨F, hF⟩ : ∃ F, F = f * 256 := ⟨_, rfl⟩
  obtain ⟨G, hG⟩ : ∃ G, G = 1600 * a + 40 * b + c := ⟨_, rfl⟩
  obtain ⟨G1, hG1⟩ : ∃ G1, G1 = G + 1 := ⟨_, rfl⟩
  obtain ⟨A1, hA1⟩ : ∃ A1, A1 = a * 1600 := ⟨_, rfl⟩
  obtain ⟨H, hH⟩ : ∃ H, H = 40 * b + c := ⟨_, rfl⟩
  obtain ⟨B1, hB1⟩ : ∃ B1, B1 = b * 40 := ⟨_, rfl⟩
  have e1 : (f : Int) * 256 = (F : Int) := by omega
  have e2 : (F : Int) + (s : Int) = (G1 : Int) := by omega
  have e3 : (G1 : Int) - 1 = (G : Int) := by omega
  have e4 : (G : Int).tdiv 1600 = (a : Int) := by rw [Int.tdiv_eq_ediv_of_nonneg (by omega)]; omega
  have e4' : (G : Int) / 1600 = (a : Int) := by omega
  have e5 : (a : Int) * 1600 = (A1 : Int) := by omega
  have e6 : (G : Int) - (A1 : Int) = (H : Int) := by omega
  have e7 : (H : Int).tdiv 40 = (b : Int) := by rw [Int.tdiv_eq_ediv_of_nonneg (by omega)]; omega
  have e7' : (H : Int) / 40 = (b : Int) := by omega
  have e8 : (b : Int) * 40 = (B1 : Int) := by omega
  have e9 : (H : Int) - (B1 : Int) = (c : Int) := by omega
  have hb1 : F < 100000 ∧ G < 100000 ∧ G1 < 100000 ∧ H < 10000 ∧ A1 < 100000 ∧ B1 < 10000 := by omega
  obtain ⟨b1, b2, b3, b4, b5, b6⟩ := hb1
  clear hF hG hG1 hA1 hH hB1 he h
  go_enter Tryd.func47, Tryd.ntmps47
  go_wp2_with fail
  go_end0
  exact ⟨rfl, HA, HM⟩

theorem DSt.modE {B : List Nat} {p E : Nat} {A : Option Addr} {n c q : Nat} {v : Value} {R : List Nat} {w w' : World} (h : DSt B p A n c q v R w) (hm : Mod (· = E) w w') (hp : p < E) (hne : v.ownBlock ≠ some E) : DSt B p A n c q v R w' :=
  ⟨Arr.mod h.src hm (fun e => by have e : p = E := e; omega), hm.rd h.rd (fun a ha _ e => by have := h.far a ha; have e : a.block = E := e; omega), own_mod h.own hm (fun k hk e => hne (by rw [hk]; have e : k = E := e; rw [e])), h.far⟩
theorem Stay.modE {w wr w' : World} {p E : Nat} {v0 v : Value} (h : Stay w wr p v0 v) (hm : Mod (· = E) wr w') (hE : w.heap.size ≤ E) : Stay w w' p v0 v :=
  ⟨h.1.then hm (fun i hi e => by have e : i = E := e; omega), h.2⟩
theorem drop_xc {V : List Nat} {j : Nat} (h : j < V.length) : (V.map xc).drop j = xc (nth V j) :: (V.map xc).drop (j + 1) := by
  rw [List.drop_eq_getElem_cons (by rw [List.length_map]; exact h), List.getElem_map, nth_eq h]
theorem xc_lt : ∀ x, x < 40 → xc x < 128 := by decide
def XPost (L B : List Nat) (p : Nat) (A : Option Addr) (n c q0 : Nat) (v0 : Value) (w : World) (e : Ending) (w' : World) : Prop :=
  ∃ (q : Nat) (v : Value) (R T : List Nat), e = .returned (.tuple #[v, .nilIface]) ∧ Hid (DSt B p A n c q v R w') ∧ Hid (Stay w w' p v0 v) ∧ Hid (R ++ T = L) ∧ Hid (Asc B q T) ∧ Hid (q0 < q)
set_option maxRecDepth 100000 in
set_option maxHeartbeats 6400000 in
theorem x12Seg (L B : List Nat) (hL : L.length < 10000) (p : Nat) (A : Option Addr) (n c q : Nat) (hn : n = B.length) (hnl : n < 1000000) (hB : ∀ j, nth B j < 256) (v : Value) (R T : List Nat) (hRT : R ++ T = L) (hT : X12 B q T) (w : World) (h : DSt B p A n c q v R w) :
    Calls Tryd.prog 34 #[.pointer (some ⟨p, 0, none⟩), v] w (XPost L B p A n c q v w) := by
  have HN := Lib.hid hn
  have HBB := Lib.hid hB
  have HRT := Lib.hid hRT
  have HTT := Lib.hid hT
  have HLL := Lib.hid hL
  have hmk : ∀ W, (Instr.makeSlice 80 (.int .i64 3) (.int .i64 3)).run Tryd.prog W = .ok (.slice (some ⟨W.heap.size, 0, none⟩) 3 3) (W.alloc (.cells (zeros 3 (.int .i64 0)) 3)) := fun W => run_make1 (P := Tryd.prog) 80 3 (.int .i64 0) 8 Tryd.underlying80 Tryd.infoIntE rfl (by decide) 3 (by omega) .i64 .i64 3 rfl W
  have hpw := h.plt
  have HS : Hid (DSt B p A n c q v R (w.alloc (.cells (zeros 3 (.int .i64 0)) 3))) := Lib.hid (h.grow ((Below.refl _ _).alloc hpw _) (h.own.alloc _))
  have HE : Hid (Arr (w.alloc (.cells (zeros 3 (.int .i64 0)) 3)) 3 w.heap.size [.int .i64 0, .int .i64 0, .int .i64 0]) := Lib.hid (Arr.new _ _ _)
  have HST : Hid (Stay w (w.alloc (.cells (zeros 3 (.int .i64 0)) 3)) p v v) := Lib.hid ((Stay.refl _ _ _).below ((Below.refl _ _).alloc (Nat.le_refl _) _))
  obtain ⟨E, hE⟩ : ∃ E, E = w.heap.size := ⟨_, rfl⟩
  obtain ⟨W0, hW0⟩ : ∃ W0, W0 = w.alloc (.cells (zeros 3 (.int .i64 0)) 3) := ⟨_, rfl⟩
  rw [← hW0] at HS HE HST
  rw [← hE] at HE
  have HEV : Hid (p < E ∧ E = w.heap.size ∧ ∀ k, v.ownBlock = some k → k < E) := Lib.hid ⟨by omega, hE, fun k hk => by rw [hE]; exact (h.own.lt k hk).2⟩
  clear hn hB h hRT hT hL
  go_enter Tryd.func34, Tryd.ntmps34
  go_wp2_with fail
  rw [← hW0, ← hE]
  clear hW0 hmk hE hpw
  have hqn : q ≤ n := by
    have := HN.out
    have := HTT.out.lt; omega
  go_loopg [1] (n - q) (fun gk x wr => ∃ (q1 : Nat) (R T : List Nat) (a b c' : Value), gk + q1 = n ∧ Hid (q ≤ q1) ∧ Hid (DSt B p A n c q1 x R wr) ∧ Hid (Stay w wr p v x) ∧ Hid (R ++ T = L) ∧ Hid (X12 B q1 T) ∧ Hid (Arr wr 3 E [a, b, c']) ∧ Hid (x.ownBlock ≠ some E))
  case atStart => exact ⟨q, R, T, _, _, _, by omega, Lib.hid (Nat.le_refl _), HS, HST, HRT, HTT, HE, Lib.hid (fun e => by have := HEV.out.2.2 _ e; omega)⟩
  case round =>
    obtain ⟨q1, R, T, va, vb, vc, hgq, HQ, HD, HST, HRT, HTT, HE, HNE⟩ := hrel
    clear HS
    obtain ⟨wi, hwi⟩ : ∃ wi, wi = wr := ⟨_, rfl⟩
    rw [← hwi] at HD HST HE ⊢
    clear hwi
    have hq1 : q1 + 1 < n := by
      have := HN.out
      have := HTT.out.lt; omega
    obtain ⟨m, hm⟩ : ∃ m, m = 8 * (n - q1) := ⟨_, rfl⟩
    have HAV := Lib.hid (av8 p A n c q1 m (by omega) hnl wi HD.out.src)
    have HAV1 := Lib.hid (fun k => av8 p A n c q1 m (by omega) hnl (wi.drewN k) (HD.out.drewN k).src)
    have hm0 : (0 : Int) < (m : Int) := by omega
    have hm8 : ((m : Int) == 8) = false := by simp; omega
    have HRD := Lib.hid (fun k => read8 B p A n c q1 HN.out (by omega) HBB.out hnl (wi.drewN k) (HD.out.drewN k).src (HD.out.drewN k).rd HD.out.far2)
    have hRL : R.length ≤ L.length := by rw [← HRT.out, List.length_append]; omega
    have hLL := HLL.out
    clear hm
    cases HTT.out with
    | done hP e t2 =>
      rw [e] at HRD
      have HT2 := Lib.hid t2
      clear t2 e
      go_wp2_with fail
      refine HAV.out.mono ?_
      rintro e w1 ⟨rfl, k1, rfl⟩
      go_wp2_with fail
      refine (HAV1.out k1).mono ?_
      rintro e w1 ⟨rfl, k2, rfl⟩
      go_wp2_with fail
      refine (HRD.out (k1 + k2)).mono ?_
      rintro e w2 ⟨rfl, hs2, hm2⟩
      have HD2 := Lib.hid ((HD.out.drewN (k1 + k2)).read hs2 hm2)
      have HST2 := Lib.hid ((HST.out.drewN (k1 + k2)).read hm2)
      clear hs2 hm2 HRD HAV HAV1
      go_wp2_with fail
      go_ret2
      exact ⟨q1 + 1, _, R, T, rfl, HD2, HST2, HRT, HT2, Lib.hid (by have := HQ.out; omega)⟩
    | @three _ a b c' T2 hP ha hb hc e e1 t2 =>
      obtain ⟨f, hf⟩ : ∃ f, f = nth B q1 := ⟨_, rfl⟩
      obtain ⟨s, hs⟩ : ∃ s, s = nth B (q1 + 1) := ⟨_, rfl⟩
      rw [← hf, ← hs] at e
      rw [← hs] at e1
      have hf250 : f ≤ 250 := by unfold tri at e; omega
      have hf254 : ((f : Int) == 254) = false := by simp; omega
      rw [← hf] at HRD
      have HT2 := Lib.hid t2
      have HEQ := Lib.hid e
      have HSE := Lib.hid hs
      have HABC := Lib.hid (And.intro ha (And.intro hb hc))
      clear t2 e e1 hf hs ha hb hc
      go_wp2_with fail
      refine HAV.out.mono ?_
      rintro e w1 ⟨rfl, k1, rfl⟩
      go_wp2_with fail
      refine (HAV1.out k1).mono ?_
      rintro e w1 ⟨rfl, k2, rfl⟩
      go_wp2_with fail
      refine (HRD.out (k1 + k2)).mono ?_
      rintro e w2 ⟨rfl, hs2, hm2⟩
      have HD2 := Lib.hid ((HD.out.drewN (k1 + k2)).read hs2 hm2)
      have HST2 := Lib.hid ((HST.out.drewN (k1 + k2)).read hm2)
      have HE2 : Hid (Arr w2 3 E [va, vb, vc]) := Lib.hid (Arr.mod (show Arr (wi.drewN (k1 + k2)) 3 E [va, vb, vc] from HE.out) hm2 (fun e => by have e : E = p := e; have := HEV.out.1; omega))
      have HRD2 := read8 B p A n c (q1 + 1) HN.out (by omega) HBB.out hnl w2 HD2.out.src HD2.out.rd HD2.out.far2
      rw [← HSE.out] at HRD2
      have HRD2 := Lib.hid HRD2
      clear hs2 hm2 HRD HAV HAV1
      go_wp2_with fail
      refine HRD2.out.mono ?_
      rintro e w3 ⟨rfl, hs3, hm3⟩
      have HD3 : Hid (DSt B p A n c (q1 + 2) u1 R w3) := Lib.hid (HD2.out.read hs3 hm3)
      have HST3 := Lib.hid (HST2.out.read hm3)
      have HE3 : Hid (Arr w3 3 E [va, vb, vc]) := Lib.hid (Arr.mod HE2.out hm3 (fun e => by have e : E = p := e; have := HEV.out.1; omega))
      have HPT := Lib.hid (parseTwo f s a b c' E va vb vc HABC.out.1 HABC.out.2.1 HABC.out.2.2 HEQ.out w3 HE3.out)
      clear hs3 hm3 HRD2 HD2 HST2 HE2
      go_wp2_with fail
      refine HPT.out.mono ?_
      rintro e w4 ⟨rfl, HE4, HM4⟩
      have HD4 : Hid (DSt B p A n c (q1 + 2) u1 R w4) := Lib.hid (HD3.out.modE HM4.out HEV.out.1 HNE.out)
      have HST4 := Lib.hid (HST3.out.modE HM4.out (by rw [HEV.out.2.1]; exact Nat.le_refl _))
      have HRT4 : Hid (R ++ (([a, b, c'].map xc).drop 0 ++ T2) = L) := Lib.hid HRT.out
      clear HPT HD3 HST3 HE3 HM4
      go_wp2_with fail
      go_loopw [1, 11] (fun x i wr => ∃ (j : Nat) (R : List Nat), j ≤ 3 ∧ i = .int .i64 j ∧ Hid (DSt B p A n c (q1 + 2) x R wr) ∧ Hid (Stay w wr p v x) ∧ Hid (R ++ (([a, b, c'].map xc).drop j ++ T2) = L) ∧ Hid (Arr wr 3 E (i3 a b c')) ∧ Hid (x.ownBlock ≠ some E)) (fun _ i _ => 3 - (intOf i).toNat)
      case atStart => exact ⟨0, R, by omega, rfl, HD4, HST4, HRT4, HE4, HNE⟩
      case round =>
        obtain ⟨j, R, hj, rfl, HD5, HST5, HRT5, HE5, HNE5⟩ := hrel
        clear HD4 HST4 HRT4 HE4
        obtain ⟨wj, hwj⟩ : ∃ wj, wj = wr := ⟨_, rfl⟩
        rw [← hwj] at HD5 HST5 HE5 ⊢
        clear hwj
        have hRL5 : R.length ≤ L.length := by rw [← HRT5.out, List.length_append]; omega
        by_cases hj3 : j < 3
        · have hj1 : (j : Int) < 3 := by omega
          have hj0 : (0 : Int) ≤ (j : Int) := by omega
          obtain ⟨hxj, hcj⟩ : nth [a, b, c'] j < 40 ∧ (i3 a b c')[j]? = some (.int .i64 (nth [a, b, c'] j : Nat)) := by
            have : j = 0 ∨ j = 1 ∨ j = 2 := by omega
            obtain ⟨h1, h2, h3⟩ := HABC.out
            rcases this with rfl | rfl | rfl
            · exact ⟨h1, rfl⟩
            · exact ⟨h2, rfl⟩
            · exact ⟨h3, rfl⟩
          have cj := HE5.out.cell? j
          rw [hcj] at cj
          have hRJ := HRT5.out
          rw [drop_xc (V := [a, b, c']) (j := j) (by simpa using hj3)] at hRJ
          obtain ⟨x, hx⟩ : ∃ x, x = nth [a, b, c'] j := ⟨_, rfl⟩
          rw [← hx] at cj hxj hRJ
          have HRJ := Lib.hid hRJ
          have HO5 := Lib.hid HD5.out.own
          have HPL5 := Lib.hid HD5.out.plt
          clear hcj hx hRJ
          by_cases hx0 : x = 0
          · subst hx0
            go_wp2_with (at_builtin; refine wpList_pushAt _ _ 27 (p + 1) 5 (.int .u8 0) 1 _ R.length _ (.int .u8 ((13 : Nat) : Int)) rfl rfl rfl rfl Tryd.underlying27 Tryd.infoU8D rfl rfl (by decide) HO5.out (by omega) HPL5.out ?_)
            intro v' w6 hown6 hg6 hb6 hl6
            have HD6 : Hid (DSt B p A n c (q1 + 2) v' (R ++ [xc 0]) w6) := Lib.hid (HD5.out.grow hb6 (by rw [bl_snoc, List.length_append]; rw [show xc 0 = 13 from rfl]; exact hown6))
            have HST6 := Lib.hid (HST5.out.grow hg6 (hl6.imp id (fun h => ⟨_, h, Nat.le_succ _⟩)))
            have HE6 : Hid (Arr w6 3 E (i3 a b c')) := Lib.hid (HE5.out.keep (hg6.block E HE5.out.lt (fun e => HNE5.out e.symm)))
            have HNE6 : Hid (v'.ownBlock ≠ some E) := Lib.hid (by
              rcases hl6 with h | h
              · rw [h]; exact HNE5.out
              · rw [h]; intro e; injection e with e; have := HE5.out.lt; omega)
            clear hown6 hg6 hb6 hl6
            go_wp2_with fail
            go_roundw
            case rel => exact ⟨j + 1, R ++ [xc 0], by omega, by go_num, HD6, HST6, Lib.hid (by rw [List.append_assoc]; exact HRJ.out), HE6, HNE6⟩
            case measure => simp [intOf]; omega
          by_cases hx1 : x = 1
          · subst hx1
            go_wp2_with (at_builtin; refine wpList_pushAt _ _ 27 (p + 1) 5 (.int .u8 0) 1 _ R.length _ (.int .u8 ((42 : Nat) : Int)) rfl rfl rfl rfl Tryd.underlying27 Tryd.infoU8D rfl rfl (by decide) HO5.out (by omega) HPL5.out ?_)
            intro v' w6 hown6 hg6 hb6 hl6
            have HD6 : Hid (DSt B p A n c (q1 + 2) v' (R ++ [xc 1]) w6) := Lib.hid (HD5.out.grow hb6 (by rw [bl_snoc, List.length_append]; rw [show xc 1 = 42 from rfl]; exact hown6))
            have HST6 := Lib.hid (HST5.out.grow hg6 (hl6.imp id (fun h => ⟨_, h, Nat.le_succ _⟩)))
            have HE6 : Hid (Arr w6 3 E (i3 a b c')) := Lib.hid (HE5.out.keep (hg6.block E HE5.out.lt (fun e => HNE5.out e.symm)))
            have HNE6 : Hid (v'.ownBlock ≠ some E) := Lib.hid (by
              rcases hl6 with h | h
              · rw [h]; exact HNE5.out
              · rw [h]; intro e; injection e with e; have := HE5.out.lt; omega)
            clear hown6 hg6 hb6 hl6
            go_wp2_with fail
            go_roundw
            case rel => exact ⟨j + 1, R ++ [xc 1], by omega, by go_num, HD6, HST6, Lib.hid (by rw [List.append_assoc]; exact HRJ.out), HE6, HNE6⟩
            case measure => simp [intOf]; omega
          by_cases hx2 : x = 2
          · subst hx2
            go_wp2_with (at_builtin; refine wpList_pushAt _ _ 27 (p + 1) 5 (.int .u8 0) 1 _ R.length _ (.int .u8 ((62 : Nat) : Int)) rfl rfl rfl rfl Tryd.underlying27 Tryd.infoU8D rfl rfl (by decide) HO5.out (by omega) HPL5.out ?_)
            intro v' w6 hown6 hg6 hb6 hl6
            have HD6 : Hid (DSt B p A n c (q1 + 2) v' (R ++ [xc 2]) w6) := Lib.hid (HD5.out.grow hb6 (by rw [bl_snoc, List.length_append]; rw [show xc 2 = 62 from rfl]; exact hown6))
            have HST6 := Lib.hid (HST5.out.grow hg6 (hl6.imp id (fun h => ⟨_, h, Nat.le_succ _⟩)))
            have HE6 : Hid (Arr w6 3 E (i3 a b c')) := Lib.hid (HE5.out.keep (hg6.block E HE5.out.lt (fun e => HNE5.out e.symm)))
            have HNE6 : Hid (v'.ownBlock ≠ some E) := Lib.hid (by
              rcases hl6 with h | h
              · rw [h]; exact HNE5.out
              · rw [h]; intro e; injection e with e; have := HE5.out.lt; omega)
            clear hown6 hg6 hb6 hl6
            go_wp2_with fail
            go_roundw
            case rel => exact ⟨j + 1, R ++ [xc 2], by omega, by go_num, HD6, HST6, Lib.hid (by rw [List.append_assoc]; exact HRJ.out), HE6, HNE6⟩
            case measure => simp [intOf]; omega
          by_cases hx3 : x = 3
          · subst hx3
            go_wp2_with (at_builtin; refine wpList_pushAt _ _ 27 (p + 1) 5 (.int .u8 0) 1 _ R.length _ (.int .u8 ((32 : Nat) : Int)) rfl rfl rfl rfl Tryd.underlying27 Tryd.infoU8D rfl rfl (by decide) HO5.out (by omega) HPL5.out ?_)
            intro v' w6 hown6 hg6 hb6 hl6
            have HD6 : Hid (DSt B p A n c (q1 + 2) v' (R ++ [xc 3]) w6) := Lib.hid (HD5.out.grow hb6 (by rw [bl_snoc, List.length_append]; rw [show xc 3 = 32 from rfl]; exact hown6))
            have HST6 := Lib.hid (HST5.out.grow hg6 (hl6.imp id (fun h => ⟨_, h, Nat.le_succ _⟩)))
            have HE6 : Hid (Arr w6 3 E (i3 a b c')) := Lib.hid (HE5.out.keep (hg6.block E HE5.out.lt (fun e => HNE5.out e.symm)))
            have HNE6 : Hid (v'.ownBlock ≠ some E) := Lib.hid (by
              rcases hl6 with h | h
              · rw [h]; exact HNE5.out
              · rw [h]; intro e; injection e with e; have := HE5.out.lt; omega)
            clear hown6 hg6 hb6 hl6
            go_wp2_with fail
            go_roundw
            case rel => exact ⟨j + 1, R ++ [xc 3], by omega, by go_num, HD6, HST6, Lib.hid (by rw [List.append_assoc]; exact HRJ.out), HE6, HNE6⟩
            case measure => simp [intOf]; omega

          have n0 : ((x : Int) == 0) = false := by simp; omega
          have n1 : ((x : Int) == 1) = false := by simp; omega
          have n2 : ((x : Int) == 2) = false := by simp; omega
          have n3 : ((x : Int) == 3) = false := by simp; omega
          by_cases h14 : x < 14
          · have g14 : (x : Int) < 14 := by omega
            obtain ⟨y, hy⟩ : ∃ y, y = x + 44 := ⟨_, rfl⟩
            have ey : (x : Int) + 44 = (y : Int) := by omega
            have hyb : y < 256 := by omega
            have hxy : xc x = y := by unfold xc; rw [if_neg hx0, if_neg hx1, if_neg hx2, if_neg hx3, if_pos h14, hy]
            have HXY := Lib.hid hxy
            clear hy hx0 hx1 hx2 hx3 hxy
            go_wp2_with (at_builtin; refine wpList_pushAt _ _ 27 (p + 1) 5 (.int .u8 0) 1 _ R.length _ (.int .u8 (y : Nat)) rfl rfl rfl rfl Tryd.underlying27 Tryd.infoU8D rfl rfl (by decide) HO5.out (by omega) HPL5.out ?_)
            intro v' w6 hown6 hg6 hb6 hl6
            have HD6 : Hid (DSt B p A n c (q1 + 2) v' (R ++ [xc x]) w6) := Lib.hid (HD5.out.grow hb6 (by rw [bl_snoc, List.length_append]; rw [HXY.out]; exact hown6))
            have HST6 := Lib.hid (HST5.out.grow hg6 (hl6.imp id (fun h => ⟨_, h, Nat.le_succ _⟩)))
            have HE6 : Hid (Arr w6 3 E (i3 a b c')) := Lib.hid (HE5.out.keep (hg6.block E HE5.out.lt (fun e => HNE5.out e.symm)))
            have HNE6 : Hid (v'.ownBlock ≠ some E) := Lib.hid (by
              rcases hl6 with h | h
              · rw [h]; exact HNE5.out
              · rw [h]; intro e; injection e with e; have := HE5.out.lt; omega)
            clear hown6 hg6 hb6 hl6
            go_wp2_with fail
            go_roundw
            case rel => exact ⟨j + 1, R ++ [xc x], by omega, by go_num, HD6, HST6, Lib.hid (by rw [List.append_assoc]; exact HRJ.out), HE6, HNE6⟩
            case measure => simp [intOf]; omega

          · have g14 : ((x : Int) < 14) = False := by simp; omega
            have g40 : (x : Int) < 40 := by omega
            obtain ⟨y, hy⟩ : ∃ y, y = x + 51 := ⟨_, rfl⟩
            have ey : (x : Int) + 51 = (y : Int) := by omega
            have hyb : y < 256 := by omega
            have hxy : xc x = y := by unfold xc; rw [if_neg hx0, if_neg hx1, if_neg hx2, if_neg hx3, if_neg h14, hy]
            have HXY := Lib.hid hxy
            clear hy hx0 hx1 hx2 hx3 hxy
            go_wp2_with (at_builtin; refine wpList_pushAt _ _ 27 (p + 1) 5 (.int .u8 0) 1 _ R.length _ (.int .u8 (y : Nat)) rfl rfl rfl rfl Tryd.underlying27 Tryd.infoU8D rfl rfl (by decide) HO5.out (by omega) HPL5.out ?_)
            intro v' w6 hown6 hg6 hb6 hl6
            have HD6 : Hid (DSt B p A n c (q1 + 2) v' (R ++ [xc x]) w6) := Lib.hid (HD5.out.grow hb6 (by rw [bl_snoc, List.length_append]; rw [HXY.out]; exact hown6))
            have HST6 := Lib.hid (HST5.out.grow hg6 (hl6.imp id (fun h => ⟨_, h, Nat.le_succ _⟩)))
            have HE6 : Hid (Arr w6 3 E (i3 a b c')) := Lib.hid (HE5.out.keep (hg6.block E HE5.out.lt (fun e => HNE5.out e.symm)))
            have HNE6 : Hid (v'.ownBlock ≠ some E) := Lib.hid (by
              rcases hl6 with h | h
              · rw [h]; exact HNE5.out
              · rw [h]; intro e; injection e with e; have := HE5.out.lt; omega)
            clear hown6 hg6 hb6 hl6
            go_wp2_with fail
            go_roundw
            case rel => exact ⟨j + 1, R ++ [xc x], by omega, by go_num, HD6, HST6, Lib.hid (by rw [List.append_assoc]; exact HRJ.out), HE6, HNE6⟩
            case measure => simp [intOf]; omega

        · obtain rfl : j = 3 := by omega
          go_wp2_with fail
          go_roundg (gk - 2)
          case measure => omega
          case rel => exact ⟨q1 + 2, R, T2, _, _, _, by omega, Lib.hid (by have := HQ.out; omega), HD5, HST5, Lib.hid HRT5.out, HT2, HE5, HNE5⟩
end Go.Proofs.YthnepajhiialpaaDoor
