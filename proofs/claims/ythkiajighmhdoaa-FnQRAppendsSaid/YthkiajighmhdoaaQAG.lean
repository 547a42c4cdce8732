/-
  The law's segments, made out of what came in, walked. No condition beyond the bounds that each theorem states.
-/
import Derived.Test.YthkiajighmhdoaaQAF
import Derived.Test.YthkiajighmhdoaaQAI
namespace Go.Proofs.Ythkiajighmhdoaa
open Go.RowKit Go.Qz Go.Qz.QA
set_option linter.unusedVariables false

/-- 'v = append(v, u)' onto a row of the call's own, u a value of several cells: behind the new block that holds u. -/
theorem wpList_pushS {P : Program} {W : World} {ops : Array Oper} {rest : List Oper} {o : Oper} {a : Act} {Q : Exit → Act → World → Prop} (s x : Operand) (t : TypeId)
    (base : Nat) (e : TypeId) (z : Value) (size bytes : Nat) (v : Value) (n : Nat) (xs : List Value) (us : List Value) (hul : us.length = size) (hsz : 0 < size)
    (hgd : o.guard = none) (ho : o.op = .call { callee := .builtin .append, args := #[s, x], argTypes := #[t, t] })
    (hs : a.eval s = v) (hx : a.eval x = .slice (some ⟨W.heap.size, 0, none⟩) 1 1)
    (ht : P.underlying t = some (.slice e)) (hi : (P.info? e).map (fun i => (i.zero, i.size, i.bytes)) = some (some z, size, bytes)) (hzs : z.cells.size = size) (h1 : ∀ u ∈ us, u.oneCell' = true) (hb : bytes ≤ 64)
    (hown : W.ownsRow base e size v n xs) (hn : n < 1099511627776) (hbase : base ≤ W.heap.size)
    (h : ∀ v' w', w'.ownsRow base e size v' (n + 1) (xs ++ us) → W.grownBy w' v.ownBlock → Below base W w' → (v'.ownBlock = v.ownBlock ∨ v'.ownBlock = some (W.heap.size + 1)) → wpList P ops Q rest (a.put o.dst v') w') :
    wpList P ops Q (o :: rest) a (W.alloc (.cells us.toArray e)) := by
  obtain ⟨i0, hi, hz0, hz1, hz2⟩ := info_parts hi
  refine wpList_append_own_at _ hgd s x t ho base e i0 z size bytes ht hi hz0 hz1 hz2 hzs hsz v n xs hs (hown.alloc _) ⟨W.heap.size, 0, none⟩ 1 1 us hx (by rw [Nat.one_mul]; exact hul) ?_ h1 ?_ ?_ ?_ ?_
  · intro j u' hu
    rw [Addr.add_lit, World.cell?_alloc_at _ _ _ _ rfl]
    simpa using hu
  · unfold maxLen; omega
  · have : (n + 1) * bytes ≤ 1099511627776 * 64 := Nat.mul_le_mul (by omega) hb
    omega
  · simp; omega
  · intro v' w' g1 g2 _ g4
    have g3 : W.grownBy w' v.ownBlock :=
      ⟨g2.os, g2.tape, g2.output, Nat.le_trans (by simp) g2.size, fun k hk hne => (g2.block k (by simp; omega) hne).trans (Below.heap_alloc W _ k hk)⟩
    exact h v' w' g1 g3 ((Below.refl _ _).grown g3 hbase fun k hk => (hown.lt k hk).1) (by simpa using g4)
theorem oneSeg {z : Int} {V : Value} (h : V.oneCell' = true) : ∀ u ∈ [Value.int .i64 z, V], u.oneCell' = true := by
  intro u hu
  rcases List.mem_cons.1 hu with e | hu
  · rw [e]; rfl
  · rw [List.mem_singleton.1 hu]; exact h
theorem rd_mod2 {S : Nat → Prop} {w w' : World} {A : Option Addr} {n : Nat} {f : Nat → Value} (h : Rd w A n f) (hm : Mod S w w') (hA : ∀ a, A = some a → ¬ S a.block) : Rd w' A n f := Mod.rd h hm fun a ha _ => hA a ha
theorem txs_push {wi wj w3 : World} {base : Nat} {v v' : Value} {S : List (Nat × List Nat)} {V : Nat → Value} {m p E2 : Nat} {T : List Nat} {V2 : Value} (ht : Txs wi base v S V) (hb : Below wi.heap.size wi wj)
    (hov : wj.ownsRow (E2 + 1) 5 1 V2 p (T.map fun x => .int .u8 (x : Nat))) (hTL : T.length = p) (hE2 : wi.heap.size < E2) (hg : wj.grownBy w3 v.ownBlock) (hv : ∀ k, v.ownBlock = some k → k < wi.heap.size)
    (hl : v'.ownBlock = v.ownBlock ∨ v'.ownBlock = some (wj.heap.size + 1)) (hbase : base ≤ wi.heap.size) : Txs w3 base v' (S ++ [(m, T)]) (fun j => if j = S.length then V2 else V j) := fun j hj => by
  rw [List.length_append] at hj
  have hj1 : j < S.length + 1 := hj
  have hmo := Mod.of_grown hg
  have key : ∀ a : Addr, a.block < wj.heap.size → v.ownBlock ≠ some a.block → v'.ownBlock ≠ some a.block := fun a h1 h2 => by
    rcases hl with h | h
    · rw [h]; exact h2
    · rw [h]; intro e; injection e with e; omega
  rw [tx_snoc]
  dsimp only
  by_cases hjS : j < S.length
  · rw [if_pos hjS, if_neg (by omega)]
    obtain ⟨A, c, e, hc, hr, hf⟩ := ht j hjS
    refine ⟨A, c, e, hc, rd_mod2 (hr.below hb) hmo (fun a ha => (hf a ha).2.2), fun a ha => ?_⟩
    obtain ⟨h1, h2, h3⟩ := hf a ha
    have := hb.size
    exact ⟨h1, Nat.lt_of_lt_of_le (Nat.lt_of_lt_of_le h2 hb.size) hmo.size, key a (by omega) h3⟩
  · obtain rfl : j = S.length := by omega
    rw [if_neg hjS, if_pos rfl, if_pos rfl]
    obtain ⟨A3, c3, rfl, hc, hcm, hr⟩ := Rd.of_own hov
    have hne : ∀ a : Addr, A3 = some a → E2 + 1 ≤ a.block ∧ a.block < wj.heap.size := fun a ha => hov.lt a.block (by rw [ha]; rfl)
    have hvn : ∀ a : Addr, A3 = some a → v.ownBlock ≠ some a.block := fun a ha e => by
      have := hv _ e; have := (hne a ha).1; omega
    refine ⟨A3, c3, by rw [hTL], by show T.length ≤ c3; omega, ?_, fun a ha => ⟨by have := (hne a ha).1; omega, Nat.lt_of_lt_of_le (hne a ha).2 hmo.size, key a (hne a ha).2 (hvn a ha)⟩⟩
    show Rd w3 A3 T.length _
    rw [hTL]
    refine rd_mod2 (hr.congr fun i hi => ?_) hmo hvn
    rw [List.getD_eq_getElem?_getD, List.getElem?_map, List.getElem?_eq_getElem (by omega), nth_eq (by omega)]
    rfl
set_option maxRecDepth 100000 in
set_option maxHeartbeats 6400000 in
theorem qrSegments (A : Option Addr) (n c : Nat) (Z : Nat → SegR) (w : World) (hn : n ≤ 2147483647) (h : SegsR w A n Z) :
    Calls Try.prog 6 #[.slice A n c, .int .i64 2, .int .i64 100] w (SegsPost w) := by
  have HS := Lib.hid h
  clear h
  go_enter Try.func6, Try.ntmps6
  go_wp2_with fail
  go_loopw [7, 15] (fun v i wr => ∃ (q s : Nat) (S : List (Nat × List Nat)) (V : Nat → Value), q ≤ n ∧ i = .int .i64 q ∧ Hid (s = S.length) ∧ s ≤ 2 ∧ Hid (∀ s ∈ S, okSeg s) ∧ Hid (wr.ownsRow w.heap.size 49 2 v s (sgc S V s)) ∧ Hid (Txs wr w.heap.size v S V) ∧ Hid (Below w.heap.size w wr)) (fun _ i _ => n - (intOf i).toNat)
  case atStart => exact ⟨0, 0, [], fun _ => undef, Nat.zero_le _, rfl, Lib.hid rfl, by omega, Lib.hid (by intro s hs; cases hs), Lib.hid (World.ownsRow_nil _ _ _ _), Lib.hid (fun j hj => absurd hj (by simp)), Lib.hid (Below.refl _ _)⟩
  case round =>
    obtain ⟨q, s, S, V, hq, rfl, HSL, hs2, HOK, HO, HTX, HBE⟩ := hrel
    obtain ⟨wi, hwi⟩ : ∃ wi, wi = wr := ⟨_, rfl⟩
    rw [← hwi] at HO HBE HTX ⊢
    clear hwi
    obtain ⟨A0, C0, hv0, hc0, hm0, _⟩ := (show ∃ A c, u7 = .slice A s c ∧ s ≤ c ∧ c ≤ maxLen ∧ True from by
      rcases HO.out.2 with ⟨e, hz⟩ | ⟨g, cap, cur, e, hb, hh, hc, hm, hz, htk⟩
      · subst hz; exact ⟨none, 0, e, Nat.le_refl _, by unfold maxLen; omega, trivial⟩
      · exact ⟨_, _, e, hc, hm, trivial⟩)
    subst hv0
    by_cases hlt : q < n
    · have hq1 : (q : Int) < (n : Int) := by omega
      have hq0 : (0 : Int) ≤ (q : Int) := by omega
      obtain ⟨b, off, rfl, hb, hx⟩ := HS.out (by omega)
      obtain ⟨k1, ⟨hM1, hM2⟩, hnc, hcm, hzb, hrdw⟩ := hx q hlt
      have c0w : w.cell? ⟨b, off + q * 2, none⟩ = some (.int .i64 (Z q).mode) := k1 0 _ rfl
      have c1w : w.cell? ⟨b, off + q * 2 + 1, none⟩ = some (.slice (Z q).A (Z q).n (Z q).c) := k1 1 _ rfl
      clear k1 hx
      obtain ⟨M, hMe⟩ : ∃ M, M = (Z q).mode := ⟨_, rfl⟩
      obtain ⟨A2, hAe⟩ : ∃ A2, A2 = (Z q).A := ⟨_, rfl⟩
      obtain ⟨n2, hne⟩ : ∃ n2, n2 = (Z q).n := ⟨_, rfl⟩
      obtain ⟨c2, hce⟩ : ∃ c2, c2 = (Z q).c := ⟨_, rfl⟩
      obtain ⟨z, hze⟩ : ∃ z, z = (Z q).z := ⟨_, rfl⟩
      rw [← hMe] at c0w hM1 hM2
      rw [← hAe, ← hne, ← hce] at c1w
      rw [← hne, ← hce] at hnc
      rw [← hce] at hcm
      rw [← hne, ← hze] at hzb
      rw [← hAe, ← hne, ← hze] at hrdw
      clear hMe hAe hne hce hze
      have c0 := (HBE.out.cell (p := ⟨b, off + q * 2, none⟩) hb).trans c0w
      have c1 := (HBE.out.cell (p := ⟨b, off + q * 2 + 1, none⟩) hb).trans c1w
      have HRD := Lib.hid (hrdw.below HBE.out)
      have HZB := Lib.hid hzb
      clear c0w c1w hrdw hzb
      obtain ⟨W1, hW1⟩ : ∃ W1, W1 = wi.alloc (.cells #[.int .i64 M, .slice A2 n2 c2] 49) := ⟨_, rfl⟩
      have hb1 : Below wi.heap.size wi W1 := by rw [hW1]; exact (Below.refl _ _).alloc (Nat.le_refl _) _
      have hA1 : Arr W1 49 wi.heap.size [.int .i64 M, .slice A2 n2 c2] := by rw [hW1]; exact Arr.new _ _ _
      have hs1 : W1.heap.size = wi.heap.size + 1 := by rw [hW1]; simp
      obtain ⟨E, hE⟩ : ∃ E, E = wi.heap.size := ⟨_, rfl⟩
      rw [← hE] at hA1 hs1
      have d0 := hA1.cell? 0
      have d1 := hA1.cell? 1
      simp only [List.getElem?_cons_zero, List.getElem?_cons_succ] at d0 d1
      have HW1 := Lib.hid hW1
      have HA1 := Lib.hid hA1
      have HB1 := Lib.hid hb1
      have HS1 := Lib.hid hs1
      have HEE := Lib.hid hE
      clear hW1 hb1 hA1 hs1 hE
      go_upto_region 5 with (fail)
      rw [← HW1.out, ← HEE.out]
      clear c0 c1
      by_cases h2 : s = 2
      · have h2i : ((s : Int) == 2) = true := by simp; omega
        go_wp2_with fail
        go_ret
        exact ⟨A0, s, C0, S, rfl, HSL.out, hs2, HOK, Lib.hid (by
          have h1 := sgs_of (w := wi) (c := C0) (A := A0) (S := S) (V := V) (base := w.heap.size) (by rw [← HSL.out]; exact HO.out) (by rw [← HSL.out]; exact HTX.out)
          exact h1.below HB1.out), Lib.hid (HBE.out.trans (HB1.out.mono HBE.out.size))⟩
      · have h2i : ((s : Int) == 2) = false := by simp; omega
        obtain ⟨m, hidx, hm⟩ : ∃ m : Nat, (∀ W, (Instr.index 51 (.agg #[.int .i64 1, .int .i64 2, .int .i64 4]) (.int .i64 ((wrap64 (M.tmod 3 + 3)).tmod 3))).run Try.prog W = .ok (.int .i64 ((m : Nat) : Int)) W) ∧ (m = 1 ∨ m = 2 ∨ m = 4) := by
          have h1 := Int.tmod_lt_of_pos M (b := 3) (by omega)
          have h0 : -3 < M.tmod 3 := by
            rcases Int.le_total 0 M with h | h
            · have := Int.tmod_nonneg 3 h; omega
            · have := Int.lt_tmod_of_pos M (b := 3) (by omega); omega
          have hw : wrap64 (M.tmod 3 + 3) = M.tmod 3 + 3 := by unfold wrap64; omega
          have h3 : 0 ≤ (M.tmod 3 + 3).tmod 3 := Int.tmod_nonneg 3 (by omega)
          have h4 := Int.tmod_lt_of_pos (M.tmod 3 + 3) (b := 3) (by omega)
          refine ⟨fm3 ((M.tmod 3 + 3).tmod 3).toNat, fun W => ?_, ?_⟩
          · have := three_at ((M.tmod 3 + 3).tmod 3).toNat (by omega) W
            rw [Int.toNat_of_nonneg h3] at this
            rw [hw]; exact this
          · unfold fm3; split
            · exact .inl rfl
            · split
              · exact .inr (.inl rfl)
              · exact .inr (.inr rfl)
        have HM := Lib.hid hm
        clear hm
        obtain ⟨W2, hW2⟩ : ∃ W2, W2 = W1.alloc (.cells #[.int .i64 (m : Nat), .slice none 0 0] 49) := ⟨_, rfl⟩
        have hb2 : Below W1.heap.size W1 W2 := by rw [hW2]; exact (Below.refl _ _).alloc (Nat.le_refl _) _
        have hA2 : Arr W2 49 W1.heap.size [.int .i64 (m : Nat), .slice none 0 0] := by rw [hW2]; exact Arr.new _ _ _
        obtain ⟨E2, hE2⟩ : ∃ E2, E2 = W1.heap.size := ⟨_, rfl⟩
        rw [← hE2] at hA2 hb2
        have hEE : E < E2 := by have := HA1.out.lt; omega
        have HB2 := Lib.hid (HB1.out.trans (hb2.mono (by rw [hE2]; exact HB1.out.size)))
        have HRD2 := Lib.hid (HRD.out.below HB2.out)
        have HZE := Lib.hid (show W2.heap.size = E2 + 1 by rw [hW2, hE2]; simp)
        have d0 := (hb2.cell (p := ⟨E, 0, none⟩) hEE).trans d0
        have d1 := (hb2.cell (p := ⟨E, 1, none⟩) hEE).trans d1
        have HA2 := Lib.hid hA2
        have HEE2 := Lib.hid hE2
        have HW2 := Lib.hid hW2
        have HE2 := Lib.hid (show wi.heap.size < E2 by rw [← HEE.out]; exact hEE)
        clear hW2 hb2 hA2 hE2 HB1 HA1
        go_upto_region 7 with (fail)
        rw [← HW2.out, ← HEE2.out]
        go_wp2_with fail
        clear d0 d1
        obtain ⟨vo, hvo⟩ : ∃ vo, vo = Value.slice A0 s C0 := ⟨_, rfl⟩
        rw [← hvo]
        rw [← hvo] at HO HTX
        clear hvo
        go_loopw [34] (fun i wr => ∃ (p : Nat) (T : List Nat) (V' : Value), p ≤ n2 ∧ p ≤ 100 ∧ i = .int .i64 p ∧ Hid (T.length = p) ∧ Hid (∀ x ∈ T, okIn m x ∧ 32 ≤ x ∧ x ≤ 126) ∧ Hid (Arr wr 49 E2 [.int .i64 (m : Nat), V']) ∧ Hid (wr.ownsRow (E2 + 1) 5 1 V' p (T.map fun x => .int .u8 (x : Nat))) ∧ Hid (Below wi.heap.size wi wr)) (fun i _ => n2 - (intOf i).toNat)
        case atStart => exact ⟨0, [], .slice none 0 0, Nat.zero_le _, by omega, rfl, Lib.hid rfl, Lib.hid (by intro s hs; cases hs), HA2, Lib.hid (World.ownsRow_nil _ _ _ _), HB2⟩
        case round =>
          obtain ⟨p, T, V2, hp, hp100, rfl, HTL, HTO, HA, HOV, HB⟩ := hrel
          obtain ⟨wj, hwj⟩ : ∃ wj, wj = wr := ⟨_, rfl⟩
          rw [← hwj] at HA HOV HB ⊢
          clear hwj HA2 HB2 HRD2 HZE
          have HON : Hid (V2.oneCell' = true) := Lib.hid (by obtain ⟨A3, c3, e3, _⟩ := Rd.of_own HOV.out; rw [e3]; rfl)
          have e0 := HA.out.cell? 0
          have e1 := HA.out.cell? 1
          simp only [List.getElem?_cons_zero, List.getElem?_cons_succ] at e0 e1
          by_cases hlt2 : p < n2
          · have hp1 : (p : Int) < (n2 : Int) := by omega
            have hp0 : (0 : Int) ≤ (p : Int) := by omega
            obtain ⟨b4, o4, rfl, hb4, hc4⟩ := HRD.out (by omega)
            have hcp := (HB.out.cell (p := ⟨b4, o4 + p, none⟩) hb4).trans (hc4 p hlt2)
            obtain ⟨hz0, hz1⟩ := HZB.out p hlt2
            obtain ⟨x, hx⟩ : ∃ x : Nat, z p = (x : Int) := ⟨(z p).toNat, by omega⟩
            rw [hx] at hz0 hz1
            dsimp only at hcp
            rw [hx] at hcp
            have hx256 : x < 256 := by omega
            clear hx
            by_cases h100 : p = 100
            · have h100i : ((p : Int) == 100) = true := by simp; omega
              clear h100 hlt2
              have HO3 := Lib.hid (own_below HO.out HB.out)
              have HBE3 : Hid (Below w.heap.size w wj) := Lib.hid (HBE.out.trans (HB.out.mono HBE.out.size))
              go_wp2_with (at_builtin; refine wpList_pushS _ _ 22 w.heap.size 49 (.agg #[.int .i64 0, .slice none 0 0]) 2 32 _ s (sgc S V s) [.int .i64 (m : Nat), V2] rfl (by decide) rfl rfl rfl rfl Try.underlying22 Try.infoSegQ rfl (oneSeg HON.out) (by decide) HO3.out (by omega) HBE3.out.size ?_)
              intro v' w3 hown3 hg3 hb3 hl3
              have HO4 := Lib.hid hown3
              have HB4 : Hid (Below w.heap.size w w3) := Lib.hid (HBE3.out.trans hb3)
              have HT4 := Lib.hid (txs_push (m := m) HTX.out HB.out HOV.out HTL.out HE2.out hg3 (fun k hk => (HO.out.lt k hk).2) hl3 HBE.out.size)
              clear hown3 hg3 hb3 hl3
              go_wp2_with fail
              go_roundw
              case rel =>
                refine ⟨q + 1, s + 1, S ++ [(m, T)], fun j => if j = S.length then V2 else V j, by omega, by go_num, Lib.hid (by rw [List.length_append, HSL.out]; rfl), by omega, Lib.hid (fun y hy => ?_), Lib.hid ?_, HT4, HB4⟩
                · rcases List.mem_append.1 hy with hy | hy
                  · exact HOK.out y hy
                  · rw [List.mem_singleton.1 hy]
                    exact ⟨HM.out, by show T.length ≤ 100; rw [HTL.out]; exact hp100, HTO.out⟩
                · have h5 := HO4.out
                  have h6 := HSL.out
                  subst h6
                  rw [sgc_snoc]
                  exact h5
              case measure => simp [intOf]; omega
            · have h100i : ((p : Int) == 100) = false := by simp; omega
              rcases HM.out with hm | hm | hm
              · have q1 : ((m : Int) == 1) = true := by simp; omega
                have HMM := Lib.hid hm
                clear hm
                go_wp2_with (at_builtin; refine wpList_push _ _ 30 (E2 + 1) 5 (.int .u8 0) 1 _ p _ _ rfl rfl rfl rfl Try.underlying30 Try.infoU8Q rfl rfl (by decide) HOV.out (by omega) (by have := HA.out.lt; omega) ?_)
                intro v3 w4 hown hg hb5
                obtain ⟨A5, c5, rfl, _, _, _⟩ := Rd.of_own hown
                have HY : Hid (((48 : Int) + (x : Int) % 10) = ((fch m x : Nat) : Int)) := Lib.hid (by rw [fch, if_pos HMM.out]; omega)
                rw [HY.out] at hown
                have hA4 := HA.out.keep (hg.block E2 HA.out.lt (fun e => by have := (HOV.out.lt E2 e.symm).1; omega))
                have HA4 := Lib.hid hA4
                have e0 := hA4.cell? 0
                have e1 := hA4.cell? 1
                have fr := hA4.free 1
                simp only [List.getElem?_cons_zero, List.getElem?_cons_succ] at e0 e1
                have HN4 : Hid (w4.ownsRow (E2 + 1) 5 1 (.slice A5 (p + 1) c5) (p + 1) ((T ++ [fch m x]).map fun x => .int .u8 (x : Nat))) := Lib.hid (by rw [List.map_append]; exact hown)
                have HB4 : Hid (Below wi.heap.size wi w4) := Lib.hid (HB.out.trans (hb5.mono (by have := HE2.out; omega)))
                clear hown hg hb5 hA4
                go_wp2_with fail
                go_roundw
                case rel =>
                  refine ⟨p + 1, T ++ [fch m x], .slice A5 (p + 1) c5, by omega, by omega, by go_num, Lib.hid (by rw [List.length_append, HTL.out]; rfl), Lib.hid (fun y hy => ?_), Lib.hid (HA4.out.set_ 1 _), Lib.hid (own_mod HN4.out (Mod.set1 w4 E2 1 _) (fun k hk e => by have := (HN4.out.lt k hk).1; omega)), Lib.hid (HB4.out.setCell (p := ⟨E2, 1, none⟩) (show wi.heap.size ≤ E2 from Nat.le_of_lt HE2.out) _)⟩
                  rcases List.mem_append.1 hy with hy | hy
                  · exact HTO.out y hy
                  · rw [List.mem_singleton.1 hy]; exact fch_ok m x HM.out
                case measure => simp [intOf]; omega
              · have q1 : ((m : Int) == 1) = false := by simp; omega
                have q2 : ((m : Int) == 2) = true := by simp; omega
                have HMM := Lib.hid hm
                clear hm
                have HAB : Hid (∀ W, Calls Try.prog 19 #[.int .i64 ((x : Int) % 45)] W fun e w' => e = .returned (.int .u8 ((alOf (x % 45) : Nat) : Int)) ∧ W = w') := Lib.hid (fun W => by
                  have h9 := qrAlphaByte (x % 45) (Nat.mod_lt _ (by omega)) W
                  have e : ((x % 45 : Nat) : Int) = (x : Int) % 45 := by omega
                  rw [e] at h9; exact h9)
                obtain ⟨y, hy⟩ : ∃ y, y = alOf (x % 45) := ⟨_, rfl⟩
                rw [← hy] at HAB
                have HYA := Lib.hid hy
                clear hy
                go_wp2_with (first | (refine (HAB.out _).mono ?_; rintro e w' ⟨rfl, rfl⟩) | (at_builtin; refine wpList_push _ _ 30 (E2 + 1) 5 (.int .u8 0) 1 _ p _ _ rfl rfl rfl rfl Try.underlying30 Try.infoU8Q rfl rfl (by decide) HOV.out (by omega) (by have := HA.out.lt; omega) ?_))
                intro v3 w4 hown hg hb5
                obtain ⟨A5, c5, rfl, _, _, _⟩ := Rd.of_own hown
                have HY : Hid (y = fch m x) := Lib.hid (by rw [fch, if_neg (by have := HMM.out; omega), if_pos HMM.out]; exact HYA.out)
                rw [HY.out] at hown
                have hA4 := HA.out.keep (hg.block E2 HA.out.lt (fun e => by have := (HOV.out.lt E2 e.symm).1; omega))
                have HA4 := Lib.hid hA4
                have e0 := hA4.cell? 0
                have e1 := hA4.cell? 1
                have fr := hA4.free 1
                simp only [List.getElem?_cons_zero, List.getElem?_cons_succ] at e0 e1
                have HN4 : Hid (w4.ownsRow (E2 + 1) 5 1 (.slice A5 (p + 1) c5) (p + 1) ((T ++ [fch m x]).map fun x => .int .u8 (x : Nat))) := Lib.hid (by rw [List.map_append]; exact hown)
                have HB4 : Hid (Below wi.heap.size wi w4) := Lib.hid (HB.out.trans (hb5.mono (by have := HE2.out; omega)))
                clear hown hg hb5 hA4
                go_wp2_with fail
                go_roundw
                case rel =>
                  refine ⟨p + 1, T ++ [fch m x], .slice A5 (p + 1) c5, by omega, by omega, by go_num, Lib.hid (by rw [List.length_append, HTL.out]; rfl), Lib.hid (fun y hy => ?_), Lib.hid (HA4.out.set_ 1 _), Lib.hid (own_mod HN4.out (Mod.set1 w4 E2 1 _) (fun k hk e => by have := (HN4.out.lt k hk).1; omega)), Lib.hid (HB4.out.setCell (p := ⟨E2, 1, none⟩) (show wi.heap.size ≤ E2 from Nat.le_of_lt HE2.out) _)⟩
                  rcases List.mem_append.1 hy with hy | hy
                  · exact HTO.out y hy
                  · rw [List.mem_singleton.1 hy]; exact fch_ok m x HM.out
                case measure => simp [intOf]; omega
              · have q1 : ((m : Int) == 1) = false := by simp; omega
                have q2 : ((m : Int) == 2) = false := by simp; omega
                have HMM := Lib.hid hm
                clear hm
                go_wp2_with (at_builtin; refine wpList_push _ _ 30 (E2 + 1) 5 (.int .u8 0) 1 _ p _ _ rfl rfl rfl rfl Try.underlying30 Try.infoU8Q rfl rfl (by decide) HOV.out (by omega) (by have := HA.out.lt; omega) ?_)
                intro v3 w4 hown hg hb5
                obtain ⟨A5, c5, rfl, _, _, _⟩ := Rd.of_own hown
                have HY : Hid (((32 : Int) + (x : Int) % 95) = ((fch m x : Nat) : Int)) := Lib.hid (by rw [fch, if_neg (by have := HMM.out; omega), if_neg (by have := HMM.out; omega)]; omega)
                rw [HY.out] at hown
                have hA4 := HA.out.keep (hg.block E2 HA.out.lt (fun e => by have := (HOV.out.lt E2 e.symm).1; omega))
                have HA4 := Lib.hid hA4
                have e0 := hA4.cell? 0
                have e1 := hA4.cell? 1
                have fr := hA4.free 1
                simp only [List.getElem?_cons_zero, List.getElem?_cons_succ] at e0 e1
                have HN4 : Hid (w4.ownsRow (E2 + 1) 5 1 (.slice A5 (p + 1) c5) (p + 1) ((T ++ [fch m x]).map fun x => .int .u8 (x : Nat))) := Lib.hid (by rw [List.map_append]; exact hown)
                have HB4 : Hid (Below wi.heap.size wi w4) := Lib.hid (HB.out.trans (hb5.mono (by have := HE2.out; omega)))
                clear hown hg hb5 hA4
                go_wp2_with fail
                go_roundw
                case rel =>
                  refine ⟨p + 1, T ++ [fch m x], .slice A5 (p + 1) c5, by omega, by omega, by go_num, Lib.hid (by rw [List.length_append, HTL.out]; rfl), Lib.hid (fun y hy => ?_), Lib.hid (HA4.out.set_ 1 _), Lib.hid (own_mod HN4.out (Mod.set1 w4 E2 1 _) (fun k hk e => by have := (HN4.out.lt k hk).1; omega)), Lib.hid (HB4.out.setCell (p := ⟨E2, 1, none⟩) (show wi.heap.size ≤ E2 from Nat.le_of_lt HE2.out) _)⟩
                  rcases List.mem_append.1 hy with hy | hy
                  · exact HTO.out y hy
                  · rw [List.mem_singleton.1 hy]; exact fch_ok m x HM.out
                case measure => simp [intOf]; omega
          · have hp1 : ((p : Int) < (n2 : Int)) = False := by simp; omega
            clear hlt2
            have HO3 := Lib.hid (own_below HO.out HB.out)
            have HBE3 : Hid (Below w.heap.size w wj) := Lib.hid (HBE.out.trans (HB.out.mono HBE.out.size))
            go_wp2_with (at_builtin; refine wpList_pushS _ _ 22 w.heap.size 49 (.agg #[.int .i64 0, .slice none 0 0]) 2 32 _ s (sgc S V s) [.int .i64 (m : Nat), V2] rfl (by decide) rfl rfl rfl rfl Try.underlying22 Try.infoSegQ rfl (oneSeg HON.out) (by decide) HO3.out (by omega) HBE3.out.size ?_)
            intro v' w3 hown3 hg3 hb3 hl3
            have HO4 := Lib.hid hown3
            have HB4 : Hid (Below w.heap.size w w3) := Lib.hid (HBE3.out.trans hb3)
            have HT4 := Lib.hid (txs_push (m := m) HTX.out HB.out HOV.out HTL.out HE2.out hg3 (fun k hk => (HO.out.lt k hk).2) hl3 HBE.out.size)
            clear hown3 hg3 hb3 hl3
            go_wp2_with fail
            go_roundw
            case rel =>
              refine ⟨q + 1, s + 1, S ++ [(m, T)], fun j => if j = S.length then V2 else V j, by omega, by go_num, Lib.hid (by rw [List.length_append, HSL.out]; rfl), by omega, Lib.hid (fun y hy => ?_), Lib.hid ?_, HT4, HB4⟩
              · rcases List.mem_append.1 hy with hy | hy
                · exact HOK.out y hy
                · rw [List.mem_singleton.1 hy]
                  exact ⟨HM.out, by show T.length ≤ 100; rw [HTL.out]; exact hp100, HTO.out⟩
              · have h5 := HO4.out
                have h6 := HSL.out
                subst h6
                rw [sgc_snoc]
                exact h5
            case measure => simp [intOf]; omega
    · obtain rfl : q = n := by omega
      go_wp2_with fail
      go_ret
      exact ⟨A0, s, C0, S, rfl, HSL.out, hs2, HOK, Lib.hid (sgs_of (w := wi) (c := C0) (A := A0) (S := S) (V := V) (base := w.heap.size) (by rw [← HSL.out]; exact HO.out) (by rw [← HSL.out]; exact HTX.out)), HBE⟩
end Go.Proofs.Ythkiajighmhdoaa
