/-
  EncodeHighLevel, walked. No condition beyond the bounds that each theorem states.
-/
import Derived.Test.YtcadknfcahmdcaaGreatDXN
import Derived.Deep.DeepCutAuto
import Derived.Deep.LoopGhost
namespace Go.Proofs.YtcadknfcahmdcaaGreat
open Go.RowKit Go.Qz Go.Qz.DF
open Go.Qz.DV hiding val run part
set_option linter.unusedVariables false

theorem m_asc (w : World) : (method 256 81 (.agg #[]) "given.example/pub-quietzone/pub/gozxing/datamatrix/encoder.encode").run Tryz.prog w = .ok (99, .agg #[]) w := by kernel_rfl
theorem m_c40 (p : Nat) (w : World) : (method 256 82 (.pointer (some ⟨p, 0, none⟩)) "given.example/pub-quietzone/pub/gozxing/datamatrix/encoder.encode").run Tryz.prog w = .ok (133, .pointer (some ⟨p, 0, none⟩)) w := by kernel_rfl
theorem m_x12 (w : World) : (method 256 86 (.agg #[]) "given.example/pub-quietzone/pub/gozxing/datamatrix/encoder.encode").run Tryz.prog w = .ok (141, .agg #[]) w := by kernel_rfl
theorem m_edi (w : World) : (method 256 87 (.agg #[]) "given.example/pub-quietzone/pub/gozxing/datamatrix/encoder.encode").run Tryz.prog w = .ok (146, .agg #[]) w := by kernel_rfl
def hdr (d : Nat) : List Nat := [91, 41, 62, 30, 48, d, 29]
def IsMac (l : List Nat) (d : Nat) : Prop := l.take 7 = hdr d ∧ 2 ≤ l.length ∧ l.drop (l.length - 2) = [30, 4]
/-- What is written ahead of a text, where its own part begins and ends. -/
def MacOf (l mac : List Nat) (p0 T : Nat) : Prop := (mac = [] ∧ p0 = 0 ∧ T = l.length ∧ ¬ IsMac l 53 ∧ ¬ IsMac l 54) ∨ (mac = [236] ∧ p0 = 7 ∧ T + 2 = l.length ∧ IsMac l 53) ∨ (mac = [237] ∧ p0 = 7 ∧ T + 2 = l.length ∧ ¬ IsMac l 53 ∧ IsMac l 54)
def SkipOf (p0 : Nat) : Nat := if p0 = 0 then 0 else 2
theorem IsMac.nine {l : List Nat} {d : Nat} (hd : d = 53 ∨ d = 54) (h : IsMac l d) : 9 ≤ l.length := by
  obtain ⟨h1, h2, h3⟩ := h
  have hl := congrArg List.length h1
  have hl7 : 7 ≤ l.length := by rw [List.length_take] at hl; simp [hdr] at hl; omega
  rcases Nat.lt_or_ge l.length 9 with h9 | h9
  · exfalso
    match l, hl7, h9 with
    | [a, b, c, d', e, f, g], _, _ =>
      simp [hdr] at h1 h3
      omega
    | [a, b, c, d', e, f, g, i], _, _ =>
      simp [hdr] at h1 h3
      omega
    | _ :: _ :: _ :: _ :: _ :: _ :: _ :: _ :: _ :: _, _, h => simp at h; omega
  · exact h9
theorem Env.turn {w0 w w' : World} {p : Nat} {K K' : CK} {eb c1 c2 : Nat} {ws ws' : List Nat} {pos pos' : Nat} {enc enc' : Int} {sy sy' : Option (Nat × Nat)} {v v' : Value} (h : Env w0 p K eb c1 c2 ws pos enc sy v w) (hB : K'.B = K.B) (hc : Ctx w' p K' ws' pos' enc' sy' v') (hs : Step p v v' w w') : Env w0 p K' eb c1 c2 ws' pos' enc' sy' v' w' := by
  refine ⟨hc, Arr.mod h.arr hs.1 (fun e => ?_), h.e1.step h.ctx hs, h.e2.step h.ctx hs, h.bel.trans (Mod.below hs.1 h.bel.size fun k hk => ?_), hB ▸ h.low⟩
  · rcases e with e | e
    · exact arr_ne h.arr h.ctx.ar (by decide) e
    · exact off_ne h.ctx.cw h.arr (by decide) e
  · rcases hk with hk | hk
    · rw [hk]; exact Nat.le_trans h.low h.ctx.pb
    · obtain ⟨g, off, cap, _, hob, _, hbg, _⟩ := h.ctx.cw.block
      rw [hob] at hk; injection hk with hk; have := h.low; omega
/-- What is returned: the words, and pads up to the capacity. -/
def EhlPost (l : List Nat) (sh : Nat) (w : World) (e : Ending) (w' : World) : Prop :=
  ∃ (u : Value) (mac ws : List Nat) (p0 T base : Nat), e = .returned (.tuple #[u, .nilIface]) ∧ Hid (Off w' base 5 u (ws ++ pads ws.length (capFor sh ws.length)).length (bys (ws ++ pads ws.length (capFor sh ws.length)))) ∧ Hid (Below w.heap.size w w') ∧ Hid (MacOf l mac p0 T) ∧ Hid (MainA sh T p0 l mac ws T)
theorem MacOf.tr {l mac : List Nat} {p0 T : Nat} (h : MacOf l mac p0 T) : Tr l T := by
  have key : ∀ d, T + 2 = l.length → IsMac l d → Tr l T := fun d e ⟨_, _, h3⟩ => by
    rw [show l.length - 2 = T by omega] at h3
    refine .inr ⟨e, ?_, ?_⟩
    · have := congrArg (fun l => l[0]?) h3
      rw [List.getElem?_drop] at this
      simp at this
      simp [nth, this]
    · have := congrArg (fun l => l[1]?) h3
      rw [List.getElem?_drop] at this
      simp at this
      simp [nth, this]
  rcases h with ⟨_, _, h, _⟩ | ⟨_, _, h, h2⟩ | ⟨_, _, h, _, h2⟩
  · exact .inl h
  · exact key _ h h2
  · exact key _ h h2
theorem pads_self (n : Nat) : pads n n = [] := by unfold pads; rw [Nat.sub_self]; rfl
theorem pads_one (n : Nat) : pads n (n + 1) = [129] := by unfold pads; rw [show n + 1 - n = 1 by omega]; rfl
theorem pads_next {n k : Nat} (h : n < k) : pads n (k + 1) = pads n k ++ [padAt k] := by
  unfold pads
  rw [show k + 1 - n = (k - n) + 1 by omega, List.range_succ, List.map_append, List.map_singleton, if_neg (by omega), show n + (k - n) = k by omega]
theorem pads_len {n k : Nat} (h : n ≤ k) : (pads n k).length = k - n := by unfold pads; simp
section
variable {w0 w w' : World} {p : Nat} {K : CK} {eb c1 c2 T p0 : Nat} {mac ws : List Nat} {pos m : Nat} {enc enc' : Int} {sy sy' : Option (Nat × Nat)} {v v' : Value}
theorem EhlSt.go (h : EhlSt w0 p K eb c1 c2 T p0 mac ws pos m enc sy v w) (hc : Ctx w' p K ws pos enc' sy v') (hs : Step p v v' w w') : EhlSt w0 p K eb c1 c2 T p0 mac ws pos m enc' sy v' w' := ⟨h.env.step hc hs, h.main, h.syk⟩
theorem EhlSt.same (h : EhlSt w0 p K eb c1 c2 T p0 mac ws pos m enc sy v w) (hs : Same w w') : EhlSt w0 p K eb c1 c2 T p0 mac ws pos m enc sy v w' := h.go (h.env.ctx.same hs) (Step.of_same hs)
theorem EhlSt.m4 (h : EhlSt w0 p K eb c1 c2 T p0 mac ws pos m enc sy v w) : m ≤ 4 := by
  rcases h.main with ⟨h, _⟩ | ⟨_, h, _⟩ <;> omega
end
set_option maxRecDepth 100000 in
set_option maxHeartbeats 25600000 in
theorem ehl (s : ByteArray) (sh : Nat) (h0 : 0 < s.size) (hsh : sh ≤ 2) (hb : ∀ i, i < s.size → nth (sb s) i < 128) (hcm : 2 * s.size + 8 ≤ capMost sh)
    (hX : ∀ mac p0 T, MacOf (sb s) mac p0 T → (∃ i, p0 ≤ i ∧ i < T ∧ isS (nth (sb s) i) = true) → ∀ i, p0 ≤ i → i < T → isX (nth (sb s) i) = true)
    (hE : ∀ mac p0 T, MacOf (sb s) mac p0 T → (∀ i, p0 ≤ i → i < T → isE (nth (sb s) i) = true) ∨ ∀ j, p0 ≤ j → Runs8 (fun i => nth (sb s) (j + i))) (w : World) :
    Calls Tryz.prog 17 #[.string s, .int .i64 sh, .pointer none, .pointer none] w (EhlPost (sb s) sh w) := by
  have hcb : capMost sh ≤ 1304 := by unfold capMost; split <;> omega
  have hsz : s.size ≤ 1000 := by omega
  obtain ⟨l, hl⟩ : ∃ l, l = sb s := ⟨_, rfl⟩
  have hll : l.length = s.size := by rw [hl, sb_len]
  have HNX := Lib.hid (fun W => newCtx s h0 hsz W)
  have HP1 := Lib.hid (fun W => hasPre s ⟨#[91, 41, 62, 30, 48, 53, 29]⟩ (by omega) (by decide) W)
  have HP2 := Lib.hid (fun W => hasPre s ⟨#[91, 41, 62, 30, 48, 54, 29]⟩ (by omega) (by decide) W)
  have HSF := Lib.hid (fun W => hasSuf s ⟨#[30, 4]⟩ (by omega) (by decide) W)
  rw [← hl] at HNX HP1 HP2 HSF hb hX hE ⊢
  obtain ⟨n, hn⟩ : ∃ n, n = s.size := ⟨_, rfl⟩
  rw [← hn] at hcm hb hsz hll HSF h0
  have HALL : Hid (0 < n ∧ sh ≤ 2 ∧ (∀ i, i < n → nth l i < 128) ∧ 2 * n + 8 ≤ capMost sh ∧ capMost sh ≤ 1304 ∧ l.length = n) := Lib.hid ⟨h0, hsh, hb, hcm, hcb, hll⟩
  have HX := Lib.hid hX
  have HE := Lib.hid hE
  clear h0 hsh hb hcm hcb hll hX hE hl hn
  obtain ⟨b1, hb1⟩ : ∃ b1, b1 = decide (l.take (ByteArray.size ⟨#[91, 41, 62, 30, 48, 53, 29]⟩) = sb ⟨#[91, 41, 62, 30, 48, 53, 29]⟩) := ⟨_, rfl⟩
  obtain ⟨b2, hb2⟩ : ∃ b2, b2 = decide (l.take (ByteArray.size ⟨#[91, 41, 62, 30, 48, 54, 29]⟩) = sb ⟨#[91, 41, 62, 30, 48, 54, 29]⟩) := ⟨_, rfl⟩
  obtain ⟨b3, hb3⟩ : ∃ b3, b3 = decide (ByteArray.size ⟨#[30, 4]⟩ ≤ n ∧ l.drop (n - ByteArray.size ⟨#[30, 4]⟩) = sb ⟨#[30, 4]⟩) := ⟨_, rfl⟩
  rw [← hb1] at HP1
  rw [← hb2] at HP2
  rw [← hb3] at HSF
  have HM1 : Hid ((b1 = true ∧ b3 = true) ↔ IsMac l 53) := Lib.hid (by
    rw [hb1, hb3, decide_eq_true_iff, decide_eq_true_iff]; unfold IsMac; rw [HALL.out.2.2.2.2.2]; exact Iff.rfl)
  have HM2 : Hid ((b2 = true ∧ b3 = true) ↔ IsMac l 54) := Lib.hid (by
    rw [hb2, hb3, decide_eq_true_iff, decide_eq_true_iff]; unfold IsMac; rw [HALL.out.2.2.2.2.2]; exact Iff.rfl)
  clear hb1 hb2 hb3
  go_enter Tryz.func17, Tryz.ntmps17
  go_wp2_with fail
  refine (newAscii w).mono ?_
  rintro e w' ⟨rfl, rfl⟩
  go_wp2_with fail
  refine (newC40 w).mono ?_
  rintro e w1 ⟨c1, rfl, HE1, HS1, HC1⟩
  go_wp2_with fail
  refine (newText w1).mono ?_
  rintro e w2 ⟨c2, rfl, HE2, HS2, HC2⟩
  go_wp2_with fail
  refine (newX12 w2).mono ?_
  rintro e w' ⟨rfl, rfl⟩
  go_wp2_with fail
  refine (newEdi w2).mono ?_
  rintro e w' ⟨rfl, rfl⟩
  go_wp2_with fail
  refine (newB256 w2).mono ?_
  rintro e w' ⟨rfl, rfl⟩
  obtain ⟨W3, hW3⟩ : ∃ W, W = w2.alloc (.cells (#[.iface 81 (.agg #[]), .iface 82 (.pointer (some ⟨c1, 0, none⟩)), .iface 82 (.pointer (some ⟨c2, 0, none⟩)), .iface 86 (.agg #[]), .iface 87 (.agg #[]), .iface 88 (.agg #[])]) 53) := ⟨_, rfl⟩
  obtain ⟨eb, heb⟩ : ∃ eb, eb = w2.heap.size := ⟨_, rfl⟩
  have HW3 := Lib.hid hW3
  have HEB := Lib.hid heb
  have HARR : Hid (Arr W3 53 eb [.iface 81 (.agg #[]), .iface 82 (.pointer (some ⟨c1, 0, none⟩)), .iface 82 (.pointer (some ⟨c2, 0, none⟩)), .iface 86 (.agg #[]), .iface 87 (.agg #[]), .iface 88 (.agg #[])]) := Lib.hid (by rw [hW3, heb]; exact Arr.new w2 _ _)
  have hs3 : Same w2 W3 := by rw [hW3]; exact Mod.alloc (Mod.refl _) _
  have HA1 : Hid (EncA W3 c1 1 52) := Lib.hid ((HE1.out.same HS2.out).same hs3)
  have HA2 : Hid (EncA W3 c2 2 53) := Lib.hid (HE2.out.same hs3)
  have HBL : Hid (Below w.heap.size w W3) := Lib.hid (Same.below (Mod.trans (S := fun _ => False) HS1.out (Mod.trans (S := fun _ => False) HS2.out hs3)))
  have hkeep : Hid (w.heap.size ≤ W3.heap.size) := Lib.hid HBL.out.size
  clear hW3 heb hs3 HE1 HE2 HS1 HS2 HC1 HC2
  go_upto_region 2 with (fail)
  rw [← HEB.out, ← HW3.out]
  clear HEB HW3
  go_wp2_with fail
  refine (HNX.out W3).mono ?_
  rintro e w4 ⟨p, g, c, v, rfl, HC4, HB4⟩
  obtain ⟨B, hB⟩ : ∃ B, B = W3.heap.size := ⟨_, rfl⟩
  rw [← hB] at HC4 hkeep
  have HE4 : Hid (Env w p ⟨l, g, c, 0, 0, B⟩ eb c1 c2 [] 0 (-1) none v w4) := Lib.hid ⟨HC4.out, HARR.out.below HB4.out HARR.out.lt, Arr.below HA1.out HB4.out (Arr.lt HA1.out), Arr.below HA2.out HB4.out (Arr.lt HA2.out), HBL.out.trans (HB4.out.mono HBL.out.size), hkeep.out⟩
  clear hB hkeep HBL HA1 HA2 HARR HB4 HC4 HNX
  go_wp2_with fail
  refine (setShape HE4.out.ctx sh).mono ?_
  rintro e w5 ⟨v5, rfl, HC5, HS5⟩
  have HE5 := Lib.hid (HE4.out.turn (by rfl) HC5.out HS5.out)
  clear HC5 HS5 HE4
  go_wp2_with fail
  refine (setSizes HE5.out.ctx).mono ?_
  rintro e w6 ⟨v6, rfl, HC6, HS6⟩
  have HE6 := Lib.hid (HE5.out.turn (by rfl) HC6.out HS6.out)
  clear HC6 HS6 HE5
  go_upto_region 7 with (fail)
  go_cut [44] from 39 to 44 (fun b wx => b = .bool (b1 && b3) ∧ wx = w6)
  case first =>
    clear HE6
    cases b1
    · go_wp2_with fail
      refine (HP1.out w6).mono ?_
      rintro e w' ⟨rfl, rfl⟩
      go_wp2_with fail
      go_meet
      case rel => exact ⟨rfl, rfl⟩
    · go_wp2_with fail
      refine (HP1.out w6).mono ?_
      rintro e w' ⟨rfl, rfl⟩
      go_wp2_with fail
      refine (HSF.out w6).mono ?_
      rintro e w' ⟨rfl, rfl⟩
      go_wp2_with fail
      go_meet
      case rel => exact ⟨by cases b3 <;> rfl, rfl⟩
  case rest =>
    obtain ⟨rfl, hwc⟩ := hcut
    rw [hwc]
    clear hwc
    obtain ⟨m1, hm1⟩ : ∃ m1, m1 = (b1 && b3) := ⟨_, rfl⟩
    rw [← hm1]
    have HM1' : Hid (m1 = true ↔ IsMac l 53) := Lib.hid (by rw [hm1, ← HM1.out, Bool.and_eq_true])
    clear hm1 HM1
    go_upto_if 44 with (fail)
    go_cut [] (fun wx => ∃ (mac : List Nat) (p0 T sk : Nat) (v : Value), Hid (Env w p ⟨l, g, c, sh, sk, B⟩ eb c1 c2 mac p0 (-1) none v wx) ∧ Hid (MacOf l mac p0 T ∧ T + sk = n ∧ p0 ≤ T ∧ mac.length ≤ 2 * p0))
    case first =>
      cases m1
      · have HNM : Hid (¬ IsMac l 53) := Lib.hid (fun h => by have := HM1'.out.2 h; cases this)
        clear HM1'
        go_upto_region 11 with (fail)
        go_cut [61] from 56 to 61 (fun b wx => b = .bool (b2 && b3) ∧ wx = w6)
        case first =>
          clear HE6
          cases b2
          · go_wp2_with fail
            refine (HP2.out w6).mono ?_
            rintro e w' ⟨rfl, rfl⟩
            go_wp2_with fail
            go_meet
            case rel => exact ⟨rfl, rfl⟩
          · go_wp2_with fail
            refine (HP2.out w6).mono ?_
            rintro e w' ⟨rfl, rfl⟩
            go_wp2_with fail
            refine (HSF.out w6).mono ?_
            rintro e w' ⟨rfl, rfl⟩
            go_wp2_with fail
            go_meet
            case rel => exact ⟨by cases b3 <;> rfl, rfl⟩
        case rest =>
          obtain ⟨rfl, hwc⟩ := hcut
          rw [hwc]
          clear hwc
          obtain ⟨m2, hm2⟩ : ∃ m2, m2 = (b2 && b3) := ⟨_, rfl⟩
          rw [← hm2]
          have HM2' : Hid (m2 = true ↔ IsMac l 54) := Lib.hid (by rw [hm2, ← HM2.out, Bool.and_eq_true])
          clear hm2 HM2
          cases m2
          · have HNM2 : Hid (¬ IsMac l 54) := Lib.hid (fun h => by have := HM2'.out.2 h; cases this)
            clear HM2'
            go_wp2_with fail
            go_meet
            case rel => exact ⟨[], 0, n, 0, v6, HE6, Lib.hid ⟨.inl ⟨rfl, rfl, by rw [HALL.out.2.2.2.2.2], HNM.out, HNM2.out⟩, rfl, Nat.zero_le _, Nat.zero_le _⟩⟩
          · have HIM : Hid (IsMac l 54) := Lib.hid (HM2'.out.1 rfl)
            have HN9 : Hid (9 ≤ n) := Lib.hid (by have := HIM.out.nine (.inr rfl); rw [HALL.out.2.2.2.2.2] at this; exact this)
            clear HM2'
            have HEM := Lib.hid (writeWord w6 HE6.out.ctx 237 (by show 0 < 100000; omega))
            go_wp2_with fail
            refine HEM.out.mono ?_
            rintro e w8 ⟨v8, rfl, HC8, HS8⟩
            have HE8 := Lib.hid (HE6.out.turn (by rfl) HC8.out HS8.out)
            clear HEM HC8 HS8
            go_wp2_with fail
            refine (setSkip HE8.out.ctx 2).mono ?_
            rintro e w9 ⟨v9, rfl, HC9, HS9⟩
            have HE9 := Lib.hid (HE8.out.turn (by rfl) HC9.out HS9.out)
            clear HC9 HS9 HE8
            have c5 := HE9.out.ctx.cells.2.2.2.2.2.1
            have f5 := HE9.out.ctx.ar.free 5
            have hst := Mod.set1 w9 p 5 (.int .i64 (7 : Nat))
            have HEA := Lib.hid (HE9.out.turn (by rfl) (HE9.out.ctx.setPos 7) (Step.of_p hst))
            clear hst HE9
            go_wp2_with fail
            go_meet
            case rel => exact ⟨[237], 7, n - 2, 2, v9, HEA, Lib.hid ⟨.inr (.inr ⟨rfl, rfl, by have := HN9.out; have := HALL.out; omega, HNM.out, HIM.out⟩), by have := HN9.out; omega, by have := HN9.out; omega, by decide⟩⟩
      · have HIM : Hid (IsMac l 53) := Lib.hid (HM1'.out.1 rfl)
        have HN9 : Hid (9 ≤ n) := Lib.hid (by have := HIM.out.nine (.inl rfl); rw [HALL.out.2.2.2.2.2] at this; exact this)
        clear HM1'
        have HEM := Lib.hid (writeWord w6 HE6.out.ctx 236 (by show 0 < 100000; omega))
        go_wp2_with fail
        refine HEM.out.mono ?_
        rintro e w8 ⟨v8, rfl, HC8, HS8⟩
        have HE8 := Lib.hid (HE6.out.turn (by rfl) HC8.out HS8.out)
        clear HEM HC8 HS8
        go_wp2_with fail
        refine (setSkip HE8.out.ctx 2).mono ?_
        rintro e w9 ⟨v9, rfl, HC9, HS9⟩
        have HE9 := Lib.hid (HE8.out.turn (by rfl) HC9.out HS9.out)
        clear HC9 HS9 HE8
        have c5 := HE9.out.ctx.cells.2.2.2.2.2.1
        have f5 := HE9.out.ctx.ar.free 5
        have hst := Mod.set1 w9 p 5 (.int .i64 (7 : Nat))
        have HEA := Lib.hid (HE9.out.turn (by rfl) (HE9.out.ctx.setPos 7) (Step.of_p hst))
        clear hst HE9
        go_wp2_with fail
        go_meet
        case rel => exact ⟨[236], 7, n - 2, 2, v9, HEA, Lib.hid ⟨.inr (.inl ⟨rfl, rfl, by have := HN9.out; have := HALL.out; omega, HIM.out⟩), by have := HN9.out; omega, by have := HN9.out; omega, by decide⟩⟩
    case rest =>
      obtain ⟨mac, p0, T, sk, v7, HE7, HMC⟩ := hcut
      obtain ⟨K, hK⟩ : ∃ K : CK, K = ⟨l, g, c, sh, sk, B⟩ := ⟨_, rfl⟩
      have HK : Hid (EhlOk K T p0) := Lib.hid (by
        have h1 := HALL.out
        have h2 := HMC.out
        rw [hK]
        refine ⟨by show T + sk = l.length; omega, h2.1.tr, by show l.length ≤ 1000; omega, fun i hi => h1.2.2.1 i (by have : i < l.length := hi; omega), h1.2.1, by show 2 * T + 6 ≤ capMost sh; omega, HX.out _ _ _ h2.1, HE.out _ _ _ h2.1⟩)
      have HKE : Hid (K.msg = l ∧ K.sh = sh) := Lib.hid (by rw [hK]; exact ⟨rfl, rfl⟩)
      rw [← hK] at HE7
      have HST0 : Hid (EhlSt w p K eb c1 c2 T p0 mac mac p0 0 (-1) none v7 wc) := Lib.hid ⟨HE7.out, .inl ⟨rfl, by rw [HKE.out.1, HKE.out.2]; exact MainA.start HMC.out.2.2.2 HMC.out.2.2.1⟩, .inl rfl⟩
      have hTb : T ≤ 1000 := by have := HMC.out; omega
      obtain ⟨w7, hw7⟩ : ∃ wz, wz = wc := ⟨_, rfl⟩
      rw [← hw7] at HST0 ⊢
      clear hw7 hK HE7 HX HE HP1 HP2 HSF HM2 HM1' HE6
      go_wp2_with fail
      go_loopg [13] (meas T p0 0) (fun k m wr => ∃ (ws : List Nat) (pos mm : Nat) (sy : Option (Nat × Nat)) (v : Value), k = meas T pos mm ∧ m = .int .i64 mm ∧ mm ≤ 4 ∧ pos ≤ T ∧ Hid (EhlSt w p K eb c1 c2 T p0 mac ws pos mm (-1) sy v wr))
      case atStart => exact ⟨mac, p0, 0, none, v7, rfl, rfl, by omega, HMC.out.2.2.1, HST0⟩
      case round =>
        obtain ⟨ws, pos, mm, sy, v, hgk, hu, hm4, hpT, HST⟩ := hrel
        subst hu
        obtain ⟨wo, hwo⟩ : ∃ wo, wo = wr := ⟨_, rfl⟩
        rw [← hwo] at HST ⊢
        have HGK := Lib.hid hgk
        have HHM := Lib.hid (hasMore wo HST.out.env.ctx T HK.out.hT (by have := HK.out.len; omega))
        obtain ⟨hmv, hhmv⟩ : ∃ b, b = decide (pos < T) := ⟨_, rfl⟩
        rw [← hhmv] at HHM
        have HMV := Lib.hid hhmv
        clear hwo HST0 hgk hhmv
        go_wp2_with fail
        refine HHM.out.mono ?_
        rintro e w' ⟨rfl, mq, rfl⟩
        obtain ⟨w1, hw1⟩ : ∃ wz, wz = wo.drewN mq := ⟨_, rfl⟩
        have HST1 := Lib.hid (HST.out.same (Same.drewN wo mq))
        rw [← hw1] at HST1 ⊢
        clear hw1 HST HHM
        cases hmv
        · have hend : pos = T := by have := HMV.out; have h2 : ¬ pos < T := by simpa using this.symm
                                    omega
          --[end
          obtain rfl : T = pos := hend.symm
          obtain rfl : mm = 0 := by
            rcases HST1.out.main with ⟨h, _⟩ | ⟨_, _, h2, _⟩
            · exact h
            · omega
          have hA : MainA K.sh T p0 K.msg mac ws T := by
            rcases HST1.out.main with ⟨_, h⟩ | ⟨h1, _⟩
            · exact h
            · omega
          have hSY : SyOk K.sh ws.length sy := by
            have := HST1.out.syk
            rw [if_neg (by omega)] at this
            exact this
          have hsh := HK.out.sh2
          have hmost := cap_le_most K.sh
          have hcb2 : capMost K.sh ≤ 1304 := by unfold capMost; split <;> omega
          have hwl : ws.length ≤ capMost K.sh := by
            have h1 := hA.2.2.2
            have h2 := HK.out.cm
            split at h1 <;> omega
          have hcap := (capFor_mem hsh (show ws.length ≤ mostOf K.sh by omega)).2
          have hcapl := capFor_le hsh (show ws.length ≤ mostOf K.sh by omega)
          have hmo : mostOf K.sh ≤ 1558 := by unfold mostOf; split <;> omega
          have HU := Lib.hid (upd w1 HST1.out.env.ctx hsh hwl)
          rw [hSY.upd (Nat.le_refl _)] at HU
          have HEV := Lib.hid HST1.out.env
          have HGC := Lib.hid (getCount w1 HST1.out.env.ctx)
          obtain ⟨W, hW⟩ : ∃ W, W = ws.length := ⟨_, rfl⟩
          obtain ⟨d, hd⟩ : ∃ d, d = capFor K.sh ws.length := ⟨_, rfl⟩
          rw [← hd] at HU hcap hcapl
          rw [← hW] at HGC hcap
          have HD := Lib.hid hd
          have HWE := Lib.hid hW
          have HMA := Lib.hid hA
          have hdb : d ≤ 1558 := by omega
          have HWD : Hid (W ≤ d) := Lib.hid hcap
          have hWb : W ≤ 1558 := by omega
          clear hA hSY hsh hmost hcb2 hwl hcap hcapl hmo hW hd HST1 HMV HGK hend hm4 hpT
          go_wp2_with fail
          refine HGC.out.mono ?_
          rintro e w' ⟨rfl, rfl⟩
          go_wp2_with fail
          refine HU.out.mono ?_
          rintro e w2 ⟨sq, rfl, HC2, HS2⟩
          have HE2 := Lib.hid (HEV.out.step HC2.out HS2.out)
          have HGS := Lib.hid (getSym w2 sq d HC2.out)
          have HGP := Lib.hid (getCap w2 sq d HC2.out)
          have HGW := Lib.hid (getWords w2 HC2.out)
          clear HU HEV HC2 HS2 HGC
          go_wp2_with fail
          refine HGS.out.mono ?_
          rintro e w' ⟨rfl, rfl⟩
          go_wp2_with fail
          refine HGP.out.mono ?_
          rintro e w' ⟨rfl, rfl⟩
          clear HGS HGP
          go_upto_region 26 with (fail)
          go_cut [113] from 99 to 113 (fun b wx => b = .bool false ∧ wx = w2)
          case first =>
            by_cases hlt : (W : Int) < (d : Int)
            · have hlt' : decide ((W : Int) < (d : Int)) = true := by simp; omega
              go_wp2_with fail
              go_meet
              case rel => exact ⟨rfl, rfl⟩
            · have hlt' : decide ((W : Int) < (d : Int)) = false := by simp; omega
              go_wp2_with fail
              go_meet
              case rel => exact ⟨rfl, rfl⟩
          case rest =>
            obtain ⟨rfl, hwc⟩ := hcut
            rw [hwc]
            clear hwc
            go_wp2_with fail
            refine HGW.out.mono ?_
            rintro e w' ⟨rfl, rfl⟩
            obtain ⟨g0, o0, cp0, hv, _⟩ := HE2.out.ctx.cw.block
            rw [← HWE.out] at hv
            have HOF : Hid (Off w2 K.B 5 v W (bys (ws ++ pads W W))) := Lib.hid (by rw [pads_self, List.append_nil, HWE.out]; exact HE2.out.ctx.cw)
            have HBH : Hid (K.B ≤ w2.heap.size) := Lib.hid HE2.out.ctx.bh
            subst hv
            clear HGW
            obtain ⟨bt, hbt⟩ : ∃ b, b = decide (W < d) := ⟨_, rfl⟩
            have HBT := Lib.hid hbt
            have hbt' := hbt.symm
            clear hbt
            go_upto_if 121 with (fail)
            clear hbt'
            go_cut [16] from 122 to 124 (fun b wx => ∃ k : Nat, k ≤ d ∧ Hid (Off wx K.B 5 b k (bys (ws ++ pads W k))) ∧ Hid (Grew w2 wx (.slice (some ⟨g0, o0, none⟩) W cp0) b) ∧ Hid (k = d ∨ W < k) ∧ Hid (W ≤ k) ∧ Hid (K.B ≤ wx.heap.size))
            case first =>
              cases bt
              rotate_left
              · have HLT : Hid (W < d) := Lib.hid (by have h := HBT.out.symm; exact of_decide_eq_true h)
                clear HE2 HBT
                go_wp2_with (at_builtin; refine wpList_pushL _ _ 24 K.B 5 (.int .u8 0) 1 (.slice (some ⟨g0, o0, none⟩) W cp0) W (bys (ws ++ pads W W)) (.int .u8 129) rfl rfl rfl rfl Tryz.underlying24 Tryz.infoBy rfl rfl (by decide) HOF.out (by omega) HBH.out ?_)
                intro bv2 w3 ho2 hg2
                have e1 : bys (ws ++ pads W W) ++ [.int .u8 129] = bys (ws ++ pads W (W + 1)) := by rw [pads_self, pads_one, List.append_nil, bys_append]; rfl
                rw [e1] at ho2
                have HO2 := Lib.hid ho2
                have HG2 := Lib.hid hg2
                have HB2 : Hid (K.B ≤ w3.heap.size) := Lib.hid (Nat.le_trans HBH.out hg2.1.size)
                clear ho2 hg2 e1 HOF HBH
                go_wp2_with fail
                go_meet
                case rel => exact ⟨W + 1, HLT.out, HO2, HG2, Lib.hid (.inr (by omega)), Lib.hid (by omega), HB2⟩
              · have HLE : Hid (W = d) := Lib.hid (by have h := HBT.out.symm; have h2 := of_decide_eq_false h; have := HWD.out; omega)
                clear HE2 HBT
                go_wp2_with fail
                go_meet
                case rel => exact ⟨W, HWD.out, HOF, Lib.hid ⟨Mod.refl _, .inl rfl⟩, Lib.hid (.inl HLE.out), Lib.hid (Nat.le_refl _), HBH⟩
            case rest =>
              obtain ⟨k0, hk0, HO0, HG0, HK0, HW0, HB0⟩ := hcut
              obtain ⟨u0, hu0⟩ : ∃ u, u = u16 := ⟨_, rfl⟩
              rw [← hu0] at HO0 HG0 ⊢
              obtain ⟨w3, hw3⟩ : ∃ wz, wz = wc := ⟨_, rfl⟩
              rw [← hw3] at HO0 HG0 HB0 ⊢
              clear hu0 hw3 HOF HBH HBT
              go_wp2_with fail
              go_loopg [16] (d - k0) (fun kk b wr => ∃ k : Nat, kk = d - k ∧ k ≤ d ∧ Hid (Off wr K.B 5 b k (bys (ws ++ pads W k))) ∧ Hid (Grew w2 wr (.slice (some ⟨g0, o0, none⟩) W cp0) b) ∧ Hid (k = d ∨ W < k) ∧ Hid (W ≤ k) ∧ Hid (K.B ≤ wr.heap.size))
              case atStart => exact ⟨k0, rfl, hk0, HO0, HG0, HK0, HW0, HB0⟩
              case round =>
                obtain ⟨k, hgk, hkd, HO, HG, HK1, HW1, HB⟩ := hrel
                obtain ⟨u, hu⟩ : ∃ u, u = u16 := ⟨_, rfl⟩
                rw [← hu] at HO HG ⊢
                obtain ⟨wo, hwo⟩ : ∃ wo, wo = wr := ⟨_, rfl⟩
                rw [← hwo] at HO HG HB ⊢
                have HGK := Lib.hid hgk
                obtain ⟨g1, o1, cp1, hv1, _⟩ := HO.out.block
                clear hgk hu hwo HO0 HG0 HK0 HW0 HB0 hk0
                subst hv1
                by_cases hlt : k < d
                · have hi : (k : Int) < (d : Int) := by omega
                  obtain ⟨k1, hk1⟩ : ∃ k1, k1 = k + 1 := ⟨_, rfl⟩
                  have q1 : IntKind.i64.wrap ((k : Int) + 1) = (k1 : Int) := by rw [IntKind.wrap_i64]; omega
                  have HRZ := Lib.hid (fun X => randomize k1 k hk1 (by omega) X)
                  obtain ⟨y, hy⟩ : ∃ y, y = padAt k := ⟨_, rfl⟩
                  rw [← hy] at HRZ
                  have HKW : Hid (W < k) := Lib.hid (by rcases HK1.out with h | h <;> omega)
                  have HPN : Hid (bys (ws ++ pads W k) ++ [.int .u8 y] = bys (ws ++ pads W k1)) := Lib.hid (by rw [hk1, pads_next HKW.out, hy, bys_append, bys_append, bys_append, List.append_assoc]; rfl)
                  have HK2 : Hid (k1 = k + 1 ∧ k < d) := Lib.hid ⟨hk1, hlt⟩
                  clear hk1 hy hlt
                  go_wp2_with fail
                  refine (HRZ.out wo).mono ?_
                  rintro e w' ⟨rfl, rfl⟩
                  go_wp2_with (at_builtin; refine wpList_pushL _ _ 24 K.B 5 (.int .u8 0) 1 (.slice (some ⟨g1, o1, none⟩) k cp1) k (bys (ws ++ pads W k)) (.int .u8 y) rfl rfl rfl rfl Tryz.underlying24 Tryz.infoBy rfl rfl (by decide) HO.out (by omega) HB.out ?_)
                  intro bv2 w3 ho2 hg2
                  rw [HPN.out] at ho2
                  have HO2 : Hid (Off w3 K.B 5 bv2 k1 (bys (ws ++ pads W k1))) := Lib.hid (by rw [HK2.out.1]; rw [HK2.out.1] at ho2; exact ho2)
                  have hof0 : Off w2 K.B 5 (.slice (some ⟨g0, o0, none⟩) W cp0) W (bys ws) := by rw [HWE.out]; have := HE2.out.ctx.cw; rwa [HWE.out] at this
                  have HG2 := Lib.hid (grew_trans HG.out hof0 hg2)
                  have HB2 : Hid (K.B ≤ w3.heap.size) := Lib.hid (Nat.le_trans HB.out hg2.1.size)
                  clear ho2 hg2 HO HG HB HPN HRZ hof0
                  go_wp2_with fail
                  go_roundg (d - k1)
                  case measure => have := HK2.out; have := HGK.out; omega
                  case rel => exact ⟨k1, rfl, by have := HK2.out; omega, HO2, HG2, Lib.hid (.inr (by have := HK2.out; have := HKW.out; omega)), Lib.hid (by have := HK2.out; have := HKW.out; omega), HB2⟩
                · have hi : ((k : Int) < (d : Int)) = False := by simp; omega
                  have HLL : Hid ((ws ++ pads W k).length = k) := Lib.hid (by rw [List.length_append, pads_len HW1.out, ← HWE.out]; have := HW1.out; omega)
                  have HKD : Hid (k = d) := Lib.hid (by omega)
                  have hO : Off wo K.B 5 (.slice (some ⟨g1, o1, none⟩) k cp1) (ws ++ pads W k).length (bys (ws ++ pads W k)) := by rw [HLL.out]; exact HO.out
                  obtain ⟨hc, hst, hc4, hf4⟩ := HE2.out.ctx.grow (ws' := ws ++ pads W k) HG.out hO
                  obtain ⟨w9, hw9⟩ : ∃ wz, wz = wo.setCell ⟨p, 4, none⟩ (.slice (some ⟨g1, o1, none⟩) k cp1) := ⟨_, rfl⟩
                  rw [← hw9] at hc hst
                  have HE9 := Lib.hid (HE2.out.step hc hst)
                  have HGW := Lib.hid (getWords w9 hc)
                  have HW9 := Lib.hid hw9
                  clear hc hst hw9 hO hlt HO HG HB HE2 HGK
                  go_upto_region 34 with (fail)
                  rw [← HW9.out]
                  go_wp2_with fail
                  refine HGW.out.mono ?_
                  rintro e w' ⟨rfl, rfl⟩
                  go_wp2_with fail
                  refine bodyPost_ret (v := .tuple #[.slice (some ⟨g1, o1, none⟩) k cp1, .nilIface]) (by simp [results, Tryz.results17, go_sem]) rfl ⟨_, mac, ws, p0, T, K.B, rfl, Lib.hid ?_, Lib.hid HE9.out.bel, Lib.hid HMC.out.1, Lib.hid ?_⟩
                  · have := HE9.out.ctx.cw
                    rw [← HKE.out.2, ← HD.out, ← HKD.out, ← HWE.out]
                    exact this
                  · have := HMA.out
                    rw [HKE.out.1, HKE.out.2] at this
                    exact this
          --]end
        · have hmore : pos < T := by have := HMV.out; simpa using this.symm
          clear HMV
          --[more
          go_upto_region 17 with (fail)
          go_cut [] from 75 to 80 (fun wx => ∃ (ws' : List Nat) (pos' m' : Nat) (enc' : Int) (sy' : Option (Nat × Nat)) (v' : Value), Hid (EhlSt w p K eb c1 c2 T p0 mac ws' pos' m' enc' sy' v' wx) ∧ Hid ((enc' = -1 ∧ m' = mm) ∨ enc' = m') ∧ Hid (meas T pos' m' < meas T pos mm))
          case first =>
            rcases (show mm = 0 ∨ mm = 1 ∨ mm = 2 ∨ mm = 3 ∨ mm = 4 by omega) with rfl | rfl | rfl | rfl | rfl
            · have ca := HST1.out.env.arr.cell? 0
              simp only [List.getElem?_cons_zero] at ca
              have HCALL := Lib.hid (stepA HK.out HST1.out hmore)
              have hmth := fun X => m_asc X
              clear HST1
              go_wp2_with fail
              refine HCALL.out.mono ?_
              rintro e w3 ⟨ws', pos', m', enc', sy', v', rfl, HST3, HEN3, HME3⟩
              go_wp2_with fail
              go_meet
              case rel => exact ⟨ws', pos', m', enc', sy', v', HST3, HEN3, HME3⟩
            · have ca := HST1.out.env.arr.cell? 1
              simp only [List.getElem?_cons_zero, List.getElem?_cons_succ] at ca
              have HCALL := Lib.hid (stepC HK.out (.inl rfl) c1 (.inl ⟨rfl, rfl⟩) HST1.out)
              have hmth := fun X => m_c40 c1 X
              clear HST1
              go_wp2_with fail
              refine HCALL.out.mono ?_
              rintro e w3 ⟨ws', pos', m', enc', sy', v', rfl, HST3, HEN3, HME3⟩
              go_wp2_with fail
              go_meet
              case rel => exact ⟨ws', pos', m', enc', sy', v', HST3, HEN3, HME3⟩
            · have ca := HST1.out.env.arr.cell? 2
              simp only [List.getElem?_cons_zero, List.getElem?_cons_succ] at ca
              have HCALL := Lib.hid (stepC HK.out (.inr rfl) c2 (.inr ⟨rfl, rfl⟩) HST1.out)
              have hmth := fun X => m_c40 c2 X
              clear HST1
              go_wp2_with fail
              refine HCALL.out.mono ?_
              rintro e w3 ⟨ws', pos', m', enc', sy', v', rfl, HST3, HEN3, HME3⟩
              go_wp2_with fail
              go_meet
              case rel => exact ⟨ws', pos', m', enc', sy', v', HST3, HEN3, HME3⟩
            · have ca := HST1.out.env.arr.cell? 3
              simp only [List.getElem?_cons_zero, List.getElem?_cons_succ] at ca
              have HCALL := Lib.hid (stepX HK.out HST1.out)
              have hmth := fun X => m_x12 X
              clear HST1
              go_wp2_with fail
              refine HCALL.out.mono ?_
              rintro e w3 ⟨ws', pos', m', enc', sy', v', rfl, HST3, HEN3, HME3⟩
              go_wp2_with fail
              go_meet
              case rel => exact ⟨ws', pos', m', enc', sy', v', HST3, HEN3, HME3⟩
            · have ca := HST1.out.env.arr.cell? 4
              simp only [List.getElem?_cons_zero, List.getElem?_cons_succ] at ca
              have HCALL := Lib.hid (stepE HK.out HST1.out)
              have hmth := fun X => m_edi X
              clear HST1
              go_wp2_with fail
              refine HCALL.out.mono ?_
              rintro e w3 ⟨ws', pos', m', enc', sy', v', rfl, HST3, HEN3, HME3⟩
              go_wp2_with fail
              go_meet
              case rel => exact ⟨ws', pos', m', enc', sy', v', HST3, HEN3, HME3⟩
          case rest =>
            obtain ⟨ws', pos', m', enc', sy', v', HST3, HEN, HME⟩ := hcut
            obtain ⟨w3, hw3⟩ : ∃ wz, wz = wc := ⟨_, rfl⟩
            rw [← hw3] at HST3 ⊢
            have HMG : Hid (meas T pos' m' < gk) := Lib.hid (by rw [HGK.out]; exact HME.out)
            have hm4' : m' ≤ 4 := HST3.out.m4
            have hpT' : pos' ≤ T := HST3.out.main.bound.1
            have HEN' := HEN.out
            clear hw3 HST1 HME HEN HGK
            rcases HEN' with ⟨rfl, rfl⟩ | rfl
            · have HGE := Lib.hid (getNewEnc w3 HST3.out.env.ctx)
              go_wp2_with fail
              refine HGE.out.mono ?_
              rintro e w' ⟨rfl, rfl⟩
              go_wp2_with fail
              go_roundg (meas T pos' m')
              case measure => exact HMG.out
              case rel => exact ⟨ws', pos', m', sy', v', rfl, rfl, hm4', hpT', HST3⟩
            · have HGE := Lib.hid (getNewEnc w3 HST3.out.env.ctx)
              have hge : (0 : Int) ≤ (m' : Int) := by omega
              go_wp2_with fail
              refine HGE.out.mono ?_
              rintro e w' ⟨rfl, rfl⟩
              go_wp2_with fail
              refine HGE.out.mono ?_
              rintro e w' ⟨rfl, rfl⟩
              go_wp2_with fail
              refine (resetSignal w3 HST3.out.env.ctx).mono ?_
              rintro e w5 ⟨v5, rfl, HC5, HS5⟩
              have HST5 := Lib.hid (HST3.out.go HC5.out HS5.out)
              clear HST3 HC5 HS5 HGE
              go_wp2_with fail
              go_roundg (meas T pos' m')
              case measure => exact HMG.out
              case rel => exact ⟨ws', pos', m', sy', v5, rfl, rfl, hm4', hpT', HST5⟩
          --]more
end Go.Proofs.YtcadknfcahmdcaaGreat
