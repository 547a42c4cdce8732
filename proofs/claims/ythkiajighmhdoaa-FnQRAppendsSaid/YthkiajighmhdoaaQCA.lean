/-
  impl.decoded with segments of bytes, walked. No condition beyond the bounds that each theorem states.
-/
import Derived.Test.YthkiajighmhdoaaQBF
namespace Go.Proofs.Ythkiajighmhdoaa
open Go.RowKit Go.Qz Go.Qz.BS Go.Qz.QA
set_option linter.unusedVariables false

variable {raw nb segs oth : Value} {text level : ByteArray} {err era par seq mod : Int}
theorem Bsg.pushV {w w' : World} {p : Nat} {v bv bv' u : Value} {L : List (List Nat)} {V : List Value} {T : List Nat} (h : Bsg w p v bv L V) (hown : w'.ownsRow (p + 1) 30 1 bv' (L.length + 1) (V ++ [u]))
    (hg : w.grownBy w' bv.ownBlock) (hl : bv'.ownBlock = bv.ownBlock ∨ ∃ k, bv'.ownBlock = some k ∧ w.heap.size ≤ k) (hv : ∀ k, v.ownBlock = some k → k < w.heap.size)
    (hu : ∃ A c, u = .slice A T.length c ∧ T.length ≤ c ∧ Rd w A T.length (fun i => .int .u8 (nth T i : Nat)) ∧ ∀ a, A = some a → p + 1 ≤ a.block ∧ a.block < w.heap.size ∧ v.ownBlock ≠ some a.block ∧ bv.ownBlock ≠ some a.block) :
    Bsg w' p v bv' (L ++ [T]) (V ++ [u]) := by
  have hm := Mod.of_grown hg
  have key : ∀ k, k < w.heap.size → bv.ownBlock ≠ some k → bv'.ownBlock ≠ some k := fun k h1 h2 e => by
    rcases hl with h3 | ⟨j, h3, h4⟩
    · rw [h3] at e; exact h2 e
    · rw [h3] at e; injection e with e; omega
  have hV : V.length = L.length := by have := h.own.1; omega
  refine ⟨by rw [List.length_append]; exact hown, fun k hk e => ?_, fun j hj => ?_⟩
  · rcases hl with h3 | ⟨j, h3, h4⟩
    · rw [h3] at hk; exact h.ne k hk e
    · rw [h3] at hk; injection hk with hk; have := hv k e; omega
  · have hj1 : j < L.length + 1 := by rw [List.length_append] at hj; exact hj
    have go : ∀ (X : List Nat) (A : Option Addr) (c : Nat), Rd w A X.length (fun i => .int .u8 (nth X i : Nat)) → (∀ a, A = some a → p + 1 ≤ a.block ∧ a.block < w.heap.size ∧ v.ownBlock ≠ some a.block ∧ bv.ownBlock ≠ some a.block) →
        Rd w' A X.length (fun i => .int .u8 (nth X i : Nat)) ∧ ∀ a, A = some a → p + 1 ≤ a.block ∧ a.block < w'.heap.size ∧ v.ownBlock ≠ some a.block ∧ bv'.ownBlock ≠ some a.block := fun X A c hr hf =>
      ⟨rd_mod2 hr hm (fun a ha => (hf a ha).2.2.2), fun a ha => by
        obtain ⟨h1, h2, h3, h4⟩ := hf a ha
        exact ⟨h1, Nat.lt_of_lt_of_le h2 hm.size, h3, key _ h2 h4⟩⟩
    by_cases hjL : j < L.length
    · obtain ⟨A, c, e, hc, hr, hf⟩ := h.each j hjL
      have e1 : sg (L ++ [T]) j = sg L j := by unfold sg; rw [List.getD_eq_getElem?_getD, List.getD_eq_getElem?_getD, List.getElem?_append_left hjL]
      have e2 : (V ++ [u]).getD j undef = V.getD j undef := by rw [List.getD_eq_getElem?_getD, List.getD_eq_getElem?_getD, List.getElem?_append_left (by omega)]
      rw [e1, e2]
      obtain ⟨g1, g2⟩ := go _ A c hr hf
      exact ⟨A, c, e, hc, g1, g2⟩
    · obtain rfl : j = L.length := by omega
      have e1 : sg (L ++ [T]) L.length = T := by unfold sg; rw [List.getD_eq_getElem?_getD, List.getElem?_append_right (Nat.le_refl _)]; simp
      have e2 : (V ++ [u]).getD L.length undef = u := by rw [List.getD_eq_getElem?_getD, ← hV, List.getElem?_append_right (Nat.le_refl _)]; simp
      rw [e1, e2]
      obtain ⟨A, c, e, hc, hr, hf⟩ := hu
      obtain ⟨g1, g2⟩ := go _ A c hr hf
      exact ⟨A, c, e, hc, g1, g2⟩
theorem Bsg.out {w : World} {p : Nat} {v : Value} {A0 : Option Addr} {n c0 : Nat} {L : List (List Nat)} {V : List Value} (h : Bsg w p v (.slice A0 n c0) L V) (hn : n = L.length) : Out w A0 n c0 L V := by
  obtain ⟨A, c, e, _, _, hr⟩ := Rd.of_own h.own
  injection e with e1 e2 e3
  subst e1
  exact ⟨hn, by rw [hn]; exact hr, fun j hj => by
    obtain ⟨A, c, e, hc, hr, _⟩ := h.each j hj
    exact ⟨A, c, e, hc, hr⟩⟩
theorem sg_drop {L : List (List Nat)} {k : Nat} (h : k < L.length) : L.take (k + 1) = L.take k ++ [sg L k] := by
  unfold sg
  rw [List.getD_eq_getElem?_getD, List.getElem?_eq_getElem h, List.take_add_one, List.getElem?_eq_getElem h]; rfl
/-- What is said, with the segments of bytes. -/
def SaidQ (text level : ByteArray) (err par seq mod : Int) (Ls : List (List Nat)) (w : World) (e : Ending) (w' : World) : Prop :=
  ∃ (r : Value) (A0 : Option Addr) (n c0 : Nat) (V : List Value), e = .returned (.tuple #[.agg #[.string text, r, .slice A0 n c0, .string level, .int .i64 err, .int .i64 seq, .int .i64 par, .int .i64 mod], .bool true]) ∧ (r.oneCell' = true ∧ ∃ Ar nr cr, r = .slice Ar nr cr) ∧ Hid (n = Ls.length) ∧ Hid (Bsg w' w.heap.size (.slice none 0 0) (.slice A0 n c0) Ls V) ∧ Hid (Below w.heap.size w w')
set_option maxRecDepth 100000 in
set_option maxHeartbeats 12800000 in
theorem decodedSegs (A : Option Addr) (n k : Nat) (f : Nat → Int) (hn : n < 1000000) (p : Nat) (A0 : Option Addr) (n0 c0 : Nat) (hn0 : n0 ≤ 2) (Ls : List (List Nat)) (hLs : ∀ j, (sg Ls j).length ≤ 100) (V : List Value) (w : World) (h : DR w p (.slice A n k) nb text (.slice A0 n0 c0) level err era oth par seq mod) (hr : Rd w A n (fun j => .int .u8 (f j))) (ho : Out w A0 n0 c0 Ls V) :
    Calls Try.prog 25 #[.pointer (some ⟨p, 0, none⟩), .nilIface] w (SaidQ text level err par seq mod Ls w) := by
  have hneq : ∀ W, (binOp .neq 60 .nilIface .nilIface).run Try.prog W = .ok (.bool false) W := fun W => rfl
  have hb0 : Below w.heap.size w (w.alloc (.cells zD.toArray 34)) := (Below.refl _ _).alloc (Nat.le_refl _) _
  have hZ := Arr.new w 34 zD
  obtain ⟨W1, hW1⟩ : ∃ W1, W1 = w.alloc (.cells zD.toArray 34) := ⟨_, rfl⟩
  have hz1 : W1.heap.size = w.heap.size + 1 := by rw [hW1]; simp
  rw [← hW1] at hb0 hZ
  unfold zD at hW1
  obtain ⟨E, hE⟩ : ∃ E, E = w.heap.size := ⟨_, rfl⟩
  rw [← hE] at hZ hz1
  have HR := Lib.hid (hr.below hb0)
  have HD := Lib.hid (h.below hb0)
  have HO := Lib.hid (ho.below hb0)
  have HB0 := Lib.hid hb0
  have HZ := Lib.hid hZ
  have HE := Lib.hid hE
  have HZ1 := Lib.hid hz1
  have HLS := Lib.hid hLs
  have HSG := Lib.hid (drSegs p W1 HD.out)
  clear hr h hb0 hZ ho hz1 hLs
  go_enter Try.func25, Try.ntmps25
  go_wp2_with fail
  rw [← hW1, ← hE]
  clear hW1 hE
  refine HSG.out.mono ?_
  rintro e w1 ⟨rfl, rfl⟩
  clear HSG
  go_wp2_with fail
  go_loopw [6, 15] (fun s i wr => ∃ (q : Nat) (V2 : List Value), q ≤ n0 ∧ i = .int .i64 q ∧ Hid (Bsg wr E (.slice none 0 0) s (Ls.take q) V2) ∧ Hid (Below W1.heap.size W1 wr)) (fun _ i _ => n0 - (intOf i).toNat)
  case atStart => exact ⟨0, [], Nat.zero_le _, rfl, Lib.hid ⟨World.ownsRow_nil _ _ _ _, (fun k hk => by cases hk), (fun j hj => absurd hj (by simp))⟩, Lib.hid (Below.refl _ _)⟩
  case round =>
    obtain ⟨q, V2, hq, rfl, HG, HBE⟩ := hrel
    obtain ⟨wi, hwi⟩ : ∃ wi, wi = wr := ⟨_, rfl⟩
    rw [← hwi] at HG HBE ⊢
    clear hwi
    by_cases hqn : q < n0
    · have hq1 : (q : Int) < (n0 : Int) := by omega
      have hq0 : (0 : Int) ≤ (q : Int) := by omega
      have hqL : q < Ls.length := by rw [← HO.out.len]; exact hqn
      obtain ⟨b, off, rfl, hb, hc⟩ := HO.out.rd (by omega)
      obtain ⟨A4, c4, hV4, hc4, hr4⟩ := HO.out.each q hqL
      have hcq := (HBE.out.cell (p := ⟨b, off + q, none⟩) hb).trans (hc q hqn)
      dsimp only at hcq
      rw [hV4] at hcq
      have HR4 := Lib.hid (hr4.below HBE.out)
      obtain ⟨T, hT⟩ : ∃ T, T = sg Ls q := ⟨_, rfl⟩
      have hTb : T.length ≤ 100 := by rw [hT]; exact HLS.out q
      rw [← hT] at hcq HR4
      have HT := Lib.hid hT
      obtain ⟨t, ht⟩ : ∃ t, t = T.length := ⟨_, rfl⟩
      rw [← ht] at hcq HR4 hTb
      have HTL := Lib.hid ht
      have hlt : (Ls.take q).length = q := by rw [List.length_take]; omega
      have HLT := Lib.hid hlt
      have HQL := Lib.hid hqL
      clear hc hV4 hr4 hT ht hlt hqL
      have HEW : Hid (E + 1 ≤ wi.heap.size) := Lib.hid (by have := HBE.out.size; have := HZ1.out; omega)
      go_wp2_with (at_builtin; refine wpList_copyTo _ _ 30 wi.heap.size 5 (.int .u8 0) 1 _ 0 [] _ _ _ _ rfl rfl rfl rfl Try.underlying30 Try.infoU8Q rfl (fun j _ => rfl) (by decide) (World.ownsRow_nil _ _ _ _) HR4.out (by omega) (Nat.le_refl _) ?_)
      intro v2 w2 hown hg hb2
      obtain ⟨A5, c5, hv5, hc5, _, hr5⟩ := (show ∃ A c, v2 = .slice A t c ∧ t ≤ c ∧ c ≤ maxLen ∧ Rd w2 A t (fun j => ([] ++ (List.range t).map (fun j => Value.int .u8 (nth T j : Nat))).getD j undef) from by
        have h := Rd.of_own hown
        first | exact h | (rw [Nat.zero_add] at h; exact h))
      have hdp : Hid (DR w2 p (.slice A n k) nb text (.slice (some ⟨b, off, none⟩) n0 c0) level err era oth par seq mod) := Lib.hid ((HD.out.below HBE.out).below hb2)
      have HG2 : Hid (Bsg w2 E (.slice none 0 0) u6 (Ls.take q) V2) := Lib.hid (HG.out.stay ((Stay.refl wi E _).below hb2))
      have HU : Hid (∃ A c, v2 = .slice A T.length c ∧ T.length ≤ c ∧ Rd w2 A T.length (fun i => .int .u8 (nth T i : Nat)) ∧ ∀ a, A = some a → E + 1 ≤ a.block ∧ a.block < w2.heap.size ∧ (Value.slice none 0 0).ownBlock ≠ some a.block ∧ u6.ownBlock ≠ some a.block) := Lib.hid (by
        have h1 := HTL.out
        have h2 := HEW.out
        subst h1
        refine ⟨A5, c5, hv5, hc5, hr5.congr (fun j hj => by simp [List.getD_eq_getElem?_getD, hj]), fun a ha => ?_⟩
        have h3 := hown.lt a.block (by rw [hv5, ha]; rfl)
        exact ⟨by omega, h3.2, by simp [Value.ownBlock], fun e => by have := (HG.out.own.lt _ e).2; omega⟩)
      have HON : Hid (v2.oneCell' = true) := Lib.hid (by rw [hv5]; rfl)
      have HB2 : Hid (Below W1.heap.size W1 w2) := Lib.hid (HBE.out.trans (hb2.mono HBE.out.size))
      have HO6 := Lib.hid HG2.out.own
      have HEW2 : Hid (E + 1 ≤ w2.heap.size) := Lib.hid (Nat.le_trans HEW.out hb2.size)
      subst hv5
      clear hown hg hb2 hc5 hr5 hcq
      rw [HLT.out] at HO6
      go_wp2_with (at_builtin; refine wpList_pushAt _ _ 32 (E + 1) 30 (.slice none 0 0) 24 _ q V2 _ rfl rfl rfl rfl Try.underlying32 Try.infoRowsQ rfl HON.out (by decide) HO6.out (by omega) HEW2.out ?_)
      intro s3 w3 hown hg hb hl
      have hG3 : Bsg w3 E (.slice none 0 0) s3 (Ls.take q ++ [T]) (V2 ++ [.slice A5 t c5]) := HG2.out.pushV (by rw [HLT.out]; exact hown) hg (hl.imp id (fun h => ⟨_, h, Nat.le_succ _⟩)) (fun j hj => by cases hj) HU.out
      have HG3 : Hid (Bsg w3 E (.slice none 0 0) s3 (Ls.take (q + 1)) (V2 ++ [.slice A5 t c5])) := Lib.hid (by rw [sg_drop HQL.out, ← HT.out]; exact hG3)
      have HB3 : Hid (Below W1.heap.size W1 w3) := Lib.hid (HB2.out.trans (hb.mono (by have := HZ1.out; omega)))
      clear hown hg hb hl hG3
      go_wp2_with fail
      go_roundw
      case rel => exact ⟨q + 1, V2 ++ [.slice A5 t c5], by omega, by go_num, HG3, HB3⟩
      case measure => simp [intOf]; omega
    · obtain rfl : q = n0 := by omega
      have HGA : Hid (Bsg wi E (.slice none 0 0) u6 Ls V2) := Lib.hid (by
        have := HG.out
        rw [List.take_of_length_le (by rw [← HO.out.len]; exact Nat.le_refl _)] at this
        exact this)
      have HDW := Lib.hid (HD.out.below HBE.out)
      have HRW := Lib.hid (HR.out.below HBE.out)
      have HZW := Lib.hid (HZ.out.below HBE.out HZ.out.lt)
      have HBW : Hid (Below w.heap.size w wi) := Lib.hid (HB0.out.trans (HBE.out.mono HB0.out.size))
      have HTX := Lib.hid (drText p wi HDW.out)
      have HRR := Lib.hid (drRaw p wi HDW.out)
      clear HG HD HR HZ HB0 HBE HO
      go_wp2_with fail
      refine HTX.out.mono ?_
      rintro e w1 ⟨rfl, rfl⟩
      go_wp2_with fail
      refine HRR.out.mono ?_
      rintro e w1 ⟨rfl, rfl⟩
      go_wp2_with (at_builtin; refine wpList_copyTo _ _ 30 wi.heap.size 5 (.int .u8 0) 1 _ 0 [] _ _ _ _ rfl rfl rfl rfl Try.underlying30 Try.infoU8Q rfl (fun j _ => rfl) (by decide) (World.ownsRow_nil _ _ _ _) HRW.out (by omega) (Nat.le_refl _) ?_)
      intro v w2 hown hg hb
      obtain ⟨A2, c2, rfl, _⟩ := Rd.of_own hown
      have HD2 := Lib.hid (HDW.out.below hb)
      have HZ2 := Lib.hid (HZW.out.below hb HZW.out.lt)
      have HG2 : Hid (Bsg w2 E (.slice none 0 0) u6 Ls V2) := Lib.hid (HGA.out.stay ((Stay.refl wi E _).below hb))
      have HB2 : Hid (Below w.heap.size w w2) := Lib.hid (HBW.out.trans (hb.mono HBW.out.size))
      have HL := Lib.hid (drLevel p w2 HD2.out)
      have HER := Lib.hid (drErrs p w2 HD2.out)
      have HSQ := Lib.hid (drSeq p w2 HD2.out)
      have HPA := Lib.hid (drPar p w2 HD2.out)
      have HMD := Lib.hid (drMod p w2 HD2.out)
      obtain ⟨A6, c6, hv6, _, _, _⟩ := Rd.of_own HG2.out.own
      obtain ⟨n6, hn6⟩ : ∃ n6, n6 = Ls.length := ⟨_, rfl⟩
      rw [← hn6] at hv6
      have HN6 := Lib.hid hn6
      subst hv6
      clear hown hg hb HTX HRR HDW HZW HRW HBW HGA hn6
      go_wp2_with fail
      refine HL.out.mono ?_
      rintro e w1 ⟨rfl, rfl⟩
      go_wp2_with fail
      refine HER.out.mono ?_
      rintro e w1 ⟨rfl, rfl⟩
      go_wp2_with fail
      refine HSQ.out.mono ?_
      rintro e w1 ⟨rfl, rfl⟩
      go_wp2_with fail
      refine HPA.out.mono ?_
      rintro e w1 ⟨rfl, rfl⟩
      go_wp2_with fail
      refine HMD.out.mono ?_
      rintro e w1 ⟨rfl, rfl⟩
      clear HL HER HSQ HPA HMD
      go_wp2_with (refine wpList_store_row rfl 34 (.tmp 4) (.tmp 41) rfl E #[.string text, .slice A2 n c2, .slice A6 n6 c6, .string level, .int .i64 err, .int .i64 seq, .int .i64 par, .int .i64 mod] rfl rfl 34 _ HZ2.out infoD rfl (one8 _ _ _ _ _ rfl _ _ _ _ _) ?_)
      have hA := setRow_heap w2 E _ #[.string text, .slice A2 n c2, .slice A6 n6 c6, .string level, .int .i64 err, .int .i64 seq, .int .i64 par, .int .i64 mod] _ _ HZ2.out
      have hMd := Mod.setRow w2 E #[.string text, .slice A2 n c2, .slice A6 n6 c6, .string level, .int .i64 err, .int .i64 seq, .int .i64 par, .int .i64 mod]
      have hM : Below w.heap.size w (w2.setRow E #[.string text, .slice A2 n c2, .slice A6 n6 c6, .string level, .int .i64 err, .int .i64 seq, .int .i64 par, .int .i64 mod]) := HB2.out.trans (hMd.below HB2.out.size (fun k hk => by rw [hk, HE.out]; exact Nat.le_refl _))
      have hOut := HG2.out.mod hMd (fun j hj e => by have := (HG2.out.own.lt j hj).1; omega) (fun j h1 _ e => by omega) (fun j _ h => h)
      go_wp2_with fail
      refine bodyPost_ret (v := .tuple #[.agg #[.string text, .slice A2 n c2, .slice A6 n6 c6, .string level, .int .i64 err, .int .i64 seq, .int .i64 par, .int .i64 mod], .bool true]) (results_cellD (p := 4) (q := 5) (ty := 34) (tq := 4) (by kernel_rfl) _ _ E 34 _ _ rfl hA Try.underlying34 rfl infoD) rfl ?_
      exact ⟨_, _, _, _, _, rfl, ⟨rfl, _, _, _, rfl⟩, HN6, Lib.hid (by rw [← HE.out]; exact hOut), Lib.hid hM⟩
end Go.Proofs.Ythkiajighmhdoaa
