/-
  Buffers beside a context; c40HandleEOD, walked (printed in part by genDWV.py). No condition beyond the bounds that each theorem states.
-/
import Derived.Test.YtcadknfcahmdcaaGreatDWR
import Derived.Test.YtcadknfcahmdcaaGreatDWE
import Derived.Deep.DeepCutAuto
namespace Go.Proofs.YtcadknfcahmdcaaGreat
open Go.RowKit Go.Qz
set_option linter.unusedVariables false

/-- A buffer of bytes beside a context whose words are v. -/
structure Buf (w : World) (K : CK) (v : Value) (base : Nat) (bv : Value) (xs : List Nat) : Prop where
  off : Off w base 5 bv xs.length (bys xs)
  ne : bv.ownBlock ≠ v.ownBlock
  nm : bv.ownBlock ≠ some K.mb
  bb : base ≤ w.heap.size
section
variable {w w' : World} {p : Nat} {K : CK} {ws : List Nat} {pos : Nat} {enc : Int} {sy : Option (Nat × Nat)} {v v' bv bv' : Value} {base : Nat} {xs xs' : List Nat}
theorem Buf.step (h : Buf w K v base bv xs) (hc : Ctx w p K ws pos enc sy v) (hs : Step p v v' w w') : Buf w' K v' base bv xs := by
  obtain ⟨h1, h2⟩ := Off.step h.off hc hs h.ne
  exact ⟨h1, h2, h.nm, Nat.le_trans h.bb hs.1.size⟩
theorem Buf.same (h : Buf w K v base bv xs) (hs : Same w w') : Buf w' K v base bv xs := ⟨h.off.mod hs (fun _ _ h => h), h.ne, h.nm, Nat.le_trans h.bb (Mod.size (S := fun _ => False) hs)⟩
/-- The buffer grows: the context stays. -/
theorem Buf.grew (h : Buf w K v base bv xs) (hc : Ctx w p K ws pos enc sy v) (hg : Grew w w' bv bv') (ho : Off w' base 5 bv' xs'.length (bys xs')) : Buf w' K v base bv' xs' ∧ Ctx w' p K ws pos enc sy v := by
  refine ⟨⟨ho, ?_, ?_, Nat.le_trans h.bb hg.1.size⟩, hc.grew h.off hg h.nm h.ne⟩
  · rcases hg.2 with e | ⟨b, e, hb⟩
    · rw [e]; exact h.ne
    · rw [e]; intro e2
      obtain ⟨g, off, cap, _, hob, hlt, _⟩ := hc.cw.block
      rw [hob] at e2; injection e2 with e2; omega
  · rcases hg.2 with e | ⟨b, e, hb⟩
    · rw [e]; exact h.nm
    · rw [e]; intro e2
      obtain ⟨g, off, cap, e3, hob, hlt, _⟩ := hc.ms.block
      injection e3 with e3
      injection e3 with e3
      injection e3 with e3
      injection e2 with e2; omega
theorem Buf.val (h : Buf w K v base bv xs) : ∃ g off cap, bv = .slice (some ⟨g, off, none⟩) xs.length cap := by
  obtain ⟨g, off, cap, e, _⟩ := h.off.block; exact ⟨g, off, cap, e⟩
end
/-- A buffer that was made since is written. -/
theorem Step.buf {p : Nat} {v0 v bv bv2 : Value} {w0 w w2 : World} {K : CK} {xs : List Nat} (h : Step p v0 v w0 w) (hb : Buf w K v w0.heap.size bv xs) (hg : Grew w w2 bv bv2) : Step p v0 v w0 w2 := by
  obtain ⟨g, off, cap, _, hob, hlt, hbg, _⟩ := hb.off.block
  exact ⟨h.1.then hg.1 fun i hi hh => by rw [hob] at hh; injection hh with hh; omega, h.2⟩
/-- The first triple of a buffer is written. -/
theorem bufTrip {p : Nat} {K : CK} {ws : List Nat} {pos : Nat} {enc : Int} {sy : Option (Nat × Nat)} {v : Value} (w : World) (h : Ctx w p K ws pos enc sy v) (hw : ws.length + 2 < 100000) (a b c : Nat) (l : List Nat) (ha : a < 40) (hb : b < 40) (hc : c < 40) (g off n cap base : Nat) (hn : n = (a :: b :: c :: l).length) (hn2 : n < 100000) (ho : Buf w K v base (.slice (some ⟨g, off, none⟩) n cap) (a :: b :: c :: l)) :
    Calls Tryz.prog 138 #[.pointer (some ⟨p, 0, none⟩), .slice (some ⟨g, off, none⟩) n cap] w fun e w' => ∃ v' off' cap' m, m + 3 = n ∧ e = .returned (.slice (some ⟨g, off', none⟩) m cap') ∧ Hid (Buf w' K v' base (.slice (some ⟨g, off', none⟩) m cap') l) ∧ Hid (Ctx w' p K (ws ++ DV.trip a b c) pos enc sy v') ∧ Hid (Step p v v' w w') := by
  have ho' := ho.off
  rw [← hn] at ho'
  refine (nextTrip w h hw a b c l ha hb hc g off n cap base (by rw [hn]; simp) hn2 ho' (by have := ho.ne; exact this)).mono ?_
  rintro e w' ⟨v', off', cap', rfl, hO, hC, hS⟩
  have hl : n - 3 = l.length := by rw [hn]; simp
  refine ⟨v', off', cap', n - 3, by rw [hn]; simp, rfl, Lib.hid ⟨by rw [← hl]; exact hO.out, ?_, ho.nm, Nat.le_trans ho.bb hS.out.1.size⟩, hC, hS⟩
  exact (ho.step h hS.out).ne
theorem trips_short {l : List Nat} (h : l.length < 3) : DV.trips l = [] := by
  match l, h with
  | [], _ => rfl
  | [_], _ => rfl
  | [_, _], _ => rfl
theorem trips_len2 : ∀ (n : Nat) (l : List Nat), l.length ≤ n → (DV.trips l).length = 2 * (l.length / 3)
  | _, [], _ => by simp [DV.trips]
  | _, [_], _ => by simp [DV.trips]
  | _, [_, _], _ => by simp [DV.trips]
  | n + 1, a :: b :: c :: l, h => by
    have := trips_len2 n l (by simp at h; omega)
    simp only [DV.trips, DV.trip, List.length_append, List.length_cons, List.length_nil, this]
    omega
  | 0, _ :: _ :: _ :: _, h => by simp at h
/-- Where c40HandleEOD ends: words, place. -/
def eodTail (V : List Nat) (a pos T : Nat) : List Nat :=
  if V.length % 3 = 2 then DV.trips (V ++ [0]) ++ (if pos < T then [254] else [])
  else if V.length % 3 = 1 then DV.trips V ++ (if pos < T then [254] else [])
  else DV.trips V ++ (if 0 < a ∨ pos < T then [254] else [])
def eodPos (V : List Nat) (pos : Nat) : Nat := if V.length % 3 = 1 then pos - 1 else pos
section
variable {V : List Nat} {a pos T : Nat}
theorem eod2y (h : V.length % 3 = 2) (hp : pos < T) : eodTail V a pos T = DV.trips (V ++ [0]) ++ [254] := by unfold eodTail; rw [if_pos h, if_pos hp]
theorem eod2n (h : V.length % 3 = 2) (hp : ¬ pos < T) : eodTail V a pos T = DV.trips (V ++ [0]) := by unfold eodTail; rw [if_pos h, if_neg hp, List.append_nil]
theorem eod1y (h : V.length % 3 = 1) (hp : pos < T) : eodTail V a pos T = DV.trips V ++ [254] := by unfold eodTail; rw [if_neg (by omega), if_pos h, if_pos hp]
theorem eod1n (h : V.length % 3 = 1) (hp : ¬ pos < T) : eodTail V a pos T = DV.trips V := by unfold eodTail; rw [if_neg (by omega), if_pos h, if_neg hp, List.append_nil]
theorem eod0y (h : V.length % 3 = 0) (hp : 0 < a ∨ pos < T) : eodTail V a pos T = DV.trips V ++ [254] := by unfold eodTail; rw [if_neg (by omega), if_neg (by omega), if_pos hp]
theorem eod0n (h : V.length % 3 = 0) (hp : ¬ (0 < a ∨ pos < T)) : eodTail V a pos T = DV.trips V := by unfold eodTail; rw [if_neg (by omega), if_neg (by omega), if_neg hp, List.append_nil]
theorem eodP1 (h : V.length % 3 = 1) : eodPos V pos = pos - 1 := if_pos h
theorem eodPn (h : ¬ V.length % 3 = 1) : eodPos V pos = pos := if_neg h
end
def EodPost (p : Nat) (K : CK) (ws : List Nat) (pos : Nat) (d : Nat) (v0 : Value) (w0 : World) (e : Ending) (w' : World) : Prop := ∃ v' q, e = .returned .nilIface ∧ Hid (Ctx w' p K ws pos 0 (some (q, d)) v') ∧ Hid (Step p v0 v' w0 w')
set_option maxRecDepth 100000 in
set_option maxHeartbeats 6400000 in
theorem c40EOD {p : Nat} {K : CK} {ws : List Nat} {pos : Nat} {enc : Int} {sy : Option (Nat × Nat)} {v : Value} (v0 : Value) (w0 w : World) (h : Ctx w p K ws pos enc sy v) (hs0 : Step p v0 v w0 w) (T : Nat) (hT : T + K.skip = K.msg.length) (hlen : K.msg.length ≤ 1000) (hp1 : 1 ≤ pos) (hpT : pos ≤ T) (hsh : K.sh ≤ 2) (V : List Nat) (hV : ∀ x ∈ V, x < 40) (g off n cap base : Nat) (hbase : base = w0.heap.size) (hn : n = V.length) (hnb : n ≤ 3000) (hw : ws.length ≤ 2000)
    (hb : Buf w K v base (.slice (some ⟨g, off, none⟩) n cap) V) (hcur : ws.length + 2 * (n / 3) ≤ capMost K.sh) (d a : Nat) (hd : d = updS K.sh (ws.length + 2 * (n / 3)) sy) (hda : d = ws.length + 2 * (n / 3) + a) (hdb : d ≤ 100000) (hno : n % 3 = 1 → a = 1) :
    Calls Tryz.prog 136 #[.pointer (some ⟨p, 0, none⟩), .slice (some ⟨g, off, none⟩) n cap] w (EodPost p K (ws ++ eodTail V a pos T) (eodPos V pos) d v0 w0) := by
  subst hbase
  obtain ⟨base, hbase⟩ : ∃ base, base = w0.heap.size := ⟨_, rfl⟩
  have HBASE := Lib.hid hbase
  have HS0 := Lib.hid hs0
  rw [← hbase] at hb
  have HC := Lib.hid h
  have HB := Lib.hid hb
  have HV := Lib.hid hV
  have HN := Lib.hid hn
  have HTT := Lib.hid hT
  have HP1 := Lib.hid hp1
  obtain ⟨wl, hwl⟩ : ∃ wl, wl = ws.length := ⟨_, rfl⟩
  have HGC := Lib.hid (getCount w h)
  rw [← hwl] at hcur hd hda hw HGC
  have HWLN := Lib.hid hwl
  obtain ⟨n3, hn3⟩ : ∃ n3, n3 = n / 3 := ⟨_, rfl⟩
  obtain ⟨u, hu⟩ : ∃ u, u = n3 * 2 := ⟨_, rfl⟩
  obtain ⟨r, hr⟩ : ∃ r, r = n % 3 := ⟨_, rfl⟩
  obtain ⟨cur, hcu⟩ : ∃ cur, cur = wl + u := ⟨_, rfl⟩
  have ecur : wl + 2 * (n / 3) = cur := by omega
  rw [ecur] at hcur hd hda
  have HU := Lib.hid (updBy w h cur hsh hcur)
  rw [← hd] at HU
  have q1' : IntKind.i64.wrap ((n : Int) / 3) = (n3 : Int) := by rw [IntKind.wrap_i64]; omega
  have q2' : (n : Int).tdiv 3 = (n3 : Int) := by rw [Int.tdiv_eq_ediv_of_nonneg (by omega)]; omega
  have q2a : (n : Int) / 3 = (n3 : Int) := by omega
  have q3' : IntKind.i64.wrap ((n3 : Int) * 2) = (u : Int) := by rw [IntKind.wrap_i64]; omega
  have q4' : (n : Int).tmod 3 = (r : Int) := by rw [Int.tmod_eq_emod_of_nonneg (by omega)]; omega
  have q4a : (n : Int) % 3 = (r : Int) := by omega
  have q5' : IntKind.i64.wrap ((wl : Int) + (u : Int)) = (cur : Int) := by rw [IntKind.wrap_i64]; omega
  have q6' : IntKind.i64.wrap ((d : Int) - (cur : Int)) = (a : Int) := by rw [IntKind.wrap_i64]; omega
  have hab : a ≤ 100000 := by omega
  have HR := Lib.hid hr
  have HNO : Hid (r = 1 → a = 1) := Lib.hid (fun e => hno (by omega))
  have HWL : Hid (ws.length + (DV.trips V).length ≤ 5000 ∧ (DV.trips (V ++ [0])).length + ws.length ≤ 5000) := Lib.hid (by
    have h1 := trips_len2 V.length V (Nat.le_refl _)
    have h2 := trips_len2 (V ++ [0]).length (V ++ [0]) (Nat.le_refl _)
    rw [List.length_append] at h2
    have h3 : ([0] : List Nat).length = 1 := rfl
    omega)
  have HNB := Lib.hid hnb
  have HPT := Lib.hid hpT
  clear h hs0 hbase hb hV hn hT hp1 hwl hn3 hu hr hcu ecur hcur hd hda hno hsh hpT
  go_enter Tryz.func136, Tryz.ntmps136
  go_wp2_with fail
  refine HGC.out.mono ?_
  rintro e w' ⟨rfl, rfl⟩
  go_wp2_with fail
  refine HU.out.mono ?_
  rintro e w1 ⟨q1, rfl, HC1, HSu⟩
  have HB1 := Lib.hid (HB.out.step HC.out HSu.out)
  have HS1 : Hid (Step p v0 v w0 w1) := Lib.hid (HS0.out.trans HSu.out)
  clear HSu HS0
  have HGS := Lib.hid (getSym w1 q1 d HC1.out)
  have HGP := Lib.hid (getCap w1 q1 d HC1.out)
  clear HC HB HU HGC
  go_wp2_with fail
  refine HGS.out.mono ?_
  rintro e w' ⟨rfl, rfl⟩
  go_wp2_with fail
  refine HGP.out.mono ?_
  rintro e w' ⟨rfl, rfl⟩
  have hr3 : r < 3 := by have := HR.out; omega
  clear HGS HGP
  rcases (show r = 2 ∨ r = 1 ∨ r = 0 by omega) with hr2 | hr1 | hr0
  · skip
    --[r2
    have HRV : Hid (V.length % 3 = 2) := Lib.hid (by rw [← HN.out, ← HR.out]; exact hr2)
    have HR2 := Lib.hid hr2
    have d1 : ((r : Int) == 2) = true := by simp [hr2]
    clear hr2
    have ho0 := HB1.out.off
    rw [← HN.out] at ho0
    have HO0 := Lib.hid ho0
    clear ho0
    go_wp2_with (at_builtin; refine wpList_pushL _ _ 24 base 5 (.int .u8 0) 1 (.slice (some ⟨g, off, none⟩) n cap) n (bys V) (.int .u8 0) rfl rfl rfl rfl Tryz.underlying24 Tryz.infoBy rfl rfl (by decide) HO0.out (by omega) HB1.out.bb ?_)
    intro bv2 w2 ho2 hg2
    have e1 : bys V ++ [.int .u8 0] = bys (V ++ [0]) := by rw [bys_append]; rfl
    rw [e1] at ho2
    have e2 : n + 1 = (V ++ [0]).length := by rw [HN.out]; simp
    rw [e2] at ho2
    obtain ⟨hb2, hc2⟩ := HB1.out.grew HC1.out hg2 ho2
    obtain ⟨g2, off2, cap2, hv2⟩ := hb2.val
    obtain ⟨n2', hn2'⟩ : ∃ n2', n2' = (V ++ [0]).length := ⟨_, rfl⟩
    have HNL := Lib.hid hn2'
    rw [← hn2'] at hv2
    subst hv2
    have HBl := Lib.hid hb2
    have HCl := Lib.hid hc2
    have HSl : Hid (Step p v0 v w0 w2) := Lib.hid (HS1.out.buf (HBASE.out ▸ HB1.out) hg2)
    have hn2b : n2' ≤ 3001 := by rw [hn2', ← e2]; omega
    have HNB := Lib.hid hn2b
    clear ho2 hg2 e1 e2 hb2 hc2 hn2' HO0 HC1 HB1 HS1 hn2b
    go_wp2_with fail
    have HVl : Hid (ws ++ DV.trips (V ++ [0]) = ws ++ DV.trips (V ++ [0]) ∧ ∀ x ∈ V ++ [0], x < 40) := Lib.hid ⟨rfl, fun x hx => by
      rcases List.mem_append.1 hx with hx | hx
      · exact HV.out x hx
      · rw [List.mem_singleton.1 hx]; omega⟩
    go_loopw [1] (fun b wr => ∃ (R Wd : List Nat) (o2 c2 n2 : Nat) (v2 : Value), b = .slice (some ⟨g2, o2, none⟩) n2 c2 ∧ Hid (n2 = R.length) ∧ n2 ≤ n2' ∧ Hid (Buf wr K v2 base (.slice (some ⟨g2, o2, none⟩) n2 c2) R) ∧ Hid (Ctx wr p K Wd pos enc (some (q1, d)) v2) ∧ Hid (Step p v0 v2 w0 wr) ∧ Hid (Wd ++ DV.trips R = ws ++ DV.trips (V ++ [0]) ∧ ∀ x ∈ R, x < 40)) (fun b _ => match b with | .slice _ m _ => m | _ => 0)
    case atStart => exact ⟨(V ++ [0]), ws, off2, cap2, n2', v, rfl, HNL, Nat.le_refl _, HBl, HCl, HSl, HVl⟩
    case round =>
      obtain ⟨wo, hwo⟩ : ∃ wo, wo = wr := ⟨_, rfl⟩
      rw [← hwo] at hrel ⊢
      clear hwo
      obtain ⟨R, Wd, o2, c2, n2, v2, rfl, HN2, hn2l, HB2, HC2, HS2, HV2⟩ := hrel
      clear HBl HCl HSl HVl HNL
      by_cases h3 : 3 ≤ n2
      · have h3' : (3 : Int) ≤ (n2 : Int) := by omega
        obtain ⟨a, b, c, l, hR⟩ : ∃ a b c l, R = a :: b :: c :: l := by
          have hl := HN2.out
          match R, hl with
          | a :: b :: c :: l, _ => exact ⟨a, b, c, l, rfl⟩
          | [], hl => simp at hl; omega
          | [_], hl => simp at hl; omega
          | [_, _], hl => simp at hl; omega
        subst hR
        have hx := HV2.out.2
        have hwl : Wd.length ≤ 5000 := by
          have h1 := congrArg List.length HV2.out.1
          rw [List.length_append, List.length_append] at h1
          have := HWL.out
          omega
        have HT := Lib.hid (bufTrip wo HC2.out (by omega) a b c l (hx a (by simp)) (hx b (by simp)) (hx c (by simp)) g2 o2 n2 c2 base HN2.out (by have := HNB.out; omega) HB2.out)
        have HV3 : Hid ((Wd ++ DV.trip a b c) ++ DV.trips l = ws ++ DV.trips (V ++ [0]) ∧ ∀ x ∈ l, x < 40) := Lib.hid ⟨by rw [← HV2.out.1, List.append_assoc]; rfl, fun x h => hx x (by simp [h])⟩
        have HN3 := Lib.hid (show n2 = l.length + 3 by rw [HN2.out]; simp)
        clear hx HV2 HN2 hwl
        go_wp2_with fail
        refine HT.out.mono ?_
        rintro e w4 ⟨v4, o4, c4, n4, hn4, rfl, HB4, HC4, HS4⟩
        have HS5 : Hid (Step p v0 v4 w0 w4) := Lib.hid (HS2.out.trans HS4.out)
        have HN4 : Hid (n4 = l.length) := Lib.hid (by have := HN3.out; omega)
        have HM4 : Hid (n4 < n2) := Lib.hid (by omega)
        have hn4l : n4 ≤ n2' := by omega
        clear HB2 HC2 HS2 HS4 HT HN3 hn4
        go_wp2_with fail
        go_roundw
        case rel => exact ⟨l, Wd ++ DV.trip a b c, o4, c4, n4, v4, rfl, HN4, hn4l, HB4, HC4, HS5, HV3⟩
        case measure => have := HM4.out; simp; omega
      · have h3' : ((3 : Int) ≤ (n2 : Int)) = False := by simp; omega
        have HWE : Hid (Wd = ws ++ DV.trips (V ++ [0])) := Lib.hid (by
          have h1 := HV2.out.1
          rw [trips_short (by have := HN2.out; omega), List.append_nil] at h1
          exact h1)
        have HC6 := HWE.out ▸ HC2
        clear HC2 HV2 HWE
        have HHM := Lib.hid (hasMore wo HC6.out T HTT.out (by have := hlen; omega))
        go_wp2_with fail
        refine HHM.out.mono ?_
        rintro e w' ⟨rfl, mq, rfl⟩
        obtain ⟨w7, hw7⟩ : ∃ wz, wz = wo.drewN mq := ⟨_, rfl⟩
        have HC7 := Lib.hid (HC6.out.same (Same.drewN wo mq))
        have HS7 : Hid (Step p v0 v2 w0 (wo.drewN mq)) := Lib.hid (HS2.out.trans (Step.of_same (Same.drewN wo mq)))
        rw [← hw7] at HC7 HS7 ⊢
        clear hw7 HHM
        by_cases hpt : pos < T
        · have hpt' : decide (pos < T) = true := by simp [hpt]
          go_wp2_with fail
          refine (writeWord w7 HC7.out 254 (by have := HWL.out; simp only [List.length_append]; omega)).mono ?_
          rintro e w8 ⟨v8, rfl, HC8, HS8⟩
          have HS9 : Hid (Step p v0 v8 w0 w8) := Lib.hid (HS7.out.trans HS8.out)
          go_wp2_with fail
          refine (signal w8 HC8.out 0).mono ?_
          rintro e wz ⟨vz, rfl, HCz, HSz⟩
          have HSy : Hid (Step p v0 vz w0 wz) := Lib.hid (HS9.out.trans HSz.out)
          go_wp2_with fail
          go_ret
          exact ⟨vz, q1, rfl, (by rw [eod2y HRV.out hpt, eodPn (by rw [HRV.out]; decide), ← List.append_assoc]; exact HCz), HSy⟩
        · have hpt' : decide (pos < T) = false := by simp [hpt]
          go_wp2_with fail
          refine (signal w7 HC7.out 0).mono ?_
          rintro e wz ⟨vz, rfl, HCz, HSz⟩
          have HSy : Hid (Step p v0 vz w0 wz) := Lib.hid (HS7.out.trans HSz.out)
          go_wp2_with fail
          go_ret
          exact ⟨vz, q1, rfl, (by rw [eod2n HRV.out hpt, eodPn (by rw [HRV.out]; decide)]; exact HCz), HSy⟩
    --]r2
  · skip
    --[r1
    have HRV : Hid (V.length % 3 = 1) := Lib.hid (by rw [← HN.out, ← HR.out]; exact hr1)
    obtain rfl : a = 1 := HNO.out hr1
    have d1 : ((r : Int) == 2) = false := by simp [hr1]
    have d2 : ((r : Int) == 1) = true := by simp [hr1]
    have d3 : (((1 : Nat) : Int) == 1) = true := by decide
    clear hr1
    have HNL := HN
    have HBl := HB1
    have HCl := HC1
    have HSl := HS1
    clear HB1 HC1 HS1
    go_wp2_with fail
    have HVl : Hid (ws ++ DV.trips V = ws ++ DV.trips V ∧ ∀ x ∈ V, x < 40) := Lib.hid ⟨rfl, HV.out⟩
    go_loopw [1] (fun b wr => ∃ (R Wd : List Nat) (o2 c2 n2 : Nat) (v2 : Value), b = .slice (some ⟨g, o2, none⟩) n2 c2 ∧ Hid (n2 = R.length) ∧ n2 ≤ n ∧ Hid (Buf wr K v2 base (.slice (some ⟨g, o2, none⟩) n2 c2) R) ∧ Hid (Ctx wr p K Wd pos enc (some (q1, d)) v2) ∧ Hid (Step p v0 v2 w0 wr) ∧ Hid (Wd ++ DV.trips R = ws ++ DV.trips V ∧ ∀ x ∈ R, x < 40)) (fun b _ => match b with | .slice _ m _ => m | _ => 0)
    case atStart => exact ⟨V, ws, off, cap, n, v, rfl, HNL, Nat.le_refl _, HBl, HCl, HSl, HVl⟩
    case round =>
      obtain ⟨wo, hwo⟩ : ∃ wo, wo = wr := ⟨_, rfl⟩
      rw [← hwo] at hrel ⊢
      clear hwo
      obtain ⟨R, Wd, o2, c2, n2, v2, rfl, HN2, hn2l, HB2, HC2, HS2, HV2⟩ := hrel
      clear HBl HCl HSl HVl HNL
      by_cases h3 : 3 ≤ n2
      · have h3' : (3 : Int) ≤ (n2 : Int) := by omega
        obtain ⟨a, b, c, l, hR⟩ : ∃ a b c l, R = a :: b :: c :: l := by
          have hl := HN2.out
          match R, hl with
          | a :: b :: c :: l, _ => exact ⟨a, b, c, l, rfl⟩
          | [], hl => simp at hl; omega
          | [_], hl => simp at hl; omega
          | [_, _], hl => simp at hl; omega
        subst hR
        have hx := HV2.out.2
        have hwl : Wd.length ≤ 5000 := by
          have h1 := congrArg List.length HV2.out.1
          rw [List.length_append, List.length_append] at h1
          have := HWL.out
          omega
        have HT := Lib.hid (bufTrip wo HC2.out (by omega) a b c l (hx a (by simp)) (hx b (by simp)) (hx c (by simp)) g o2 n2 c2 base HN2.out (by have := HNB.out; omega) HB2.out)
        have HV3 : Hid ((Wd ++ DV.trip a b c) ++ DV.trips l = ws ++ DV.trips V ∧ ∀ x ∈ l, x < 40) := Lib.hid ⟨by rw [← HV2.out.1, List.append_assoc]; rfl, fun x h => hx x (by simp [h])⟩
        have HN3 := Lib.hid (show n2 = l.length + 3 by rw [HN2.out]; simp)
        clear hx HV2 HN2 hwl
        go_wp2_with fail
        refine HT.out.mono ?_
        rintro e w4 ⟨v4, o4, c4, n4, hn4, rfl, HB4, HC4, HS4⟩
        have HS5 : Hid (Step p v0 v4 w0 w4) := Lib.hid (HS2.out.trans HS4.out)
        have HN4 : Hid (n4 = l.length) := Lib.hid (by have := HN3.out; omega)
        have HM4 : Hid (n4 < n2) := Lib.hid (by omega)
        have hn4l : n4 ≤ n := by omega
        clear HB2 HC2 HS2 HS4 HT HN3 hn4
        go_wp2_with fail
        go_roundw
        case rel => exact ⟨l, Wd ++ DV.trip a b c, o4, c4, n4, v4, rfl, HN4, hn4l, HB4, HC4, HS5, HV3⟩
        case measure => have := HM4.out; simp; omega
      · have h3' : ((3 : Int) ≤ (n2 : Int)) = False := by simp; omega
        have HWE : Hid (Wd = ws ++ DV.trips V) := Lib.hid (by
          have h1 := HV2.out.1
          rw [trips_short (by have := HN2.out; omega), List.append_nil] at h1
          exact h1)
        have HC6 := HWE.out ▸ HC2
        clear HC2 HV2 HWE
        have HHM := Lib.hid (hasMore wo HC6.out T HTT.out (by have := hlen; omega))
        go_wp2_with fail
        refine HHM.out.mono ?_
        rintro e w' ⟨rfl, mq, rfl⟩
        obtain ⟨w7, hw7⟩ : ∃ wz, wz = wo.drewN mq := ⟨_, rfl⟩
        have HC7 := Lib.hid (HC6.out.same (Same.drewN wo mq))
        have HS7 : Hid (Step p v0 v2 w0 (wo.drewN mq)) := Lib.hid (HS2.out.trans (Step.of_same (Same.drewN wo mq)))
        rw [← hw7] at HC7 HS7 ⊢
        clear hw7 HHM
        by_cases hpt : pos < T
        · have hpt' : decide (pos < T) = true := by simp [hpt]
          go_wp2_with fail
          refine (writeWord w7 HC7.out 254 (by have := HWL.out; simp only [List.length_append]; omega)).mono ?_
          rintro e w8 ⟨v8, rfl, HC8, HS8⟩
          have HS9 : Hid (Step p v0 v8 w0 w8) := Lib.hid (HS7.out.trans HS8.out)
          have e5 := HC8.out.cells.2.2.2.2.2.1
          have f5 := HC8.out.ar.free 5
          obtain ⟨qp, hqp⟩ : ∃ qp, qp = pos - 1 := ⟨_, rfl⟩
          have wqp : IntKind.i64.wrap ((pos : Int) - 1) = (qp : Int) := by have := HP1.out; have := HPT.out; have := HTT.out; rw [IntKind.wrap_i64]; omega
          have HCd := Lib.hid (HC8.out.setPos qp)
          have HSd : Hid (Step p v0 v8 w0 (w8.setCell ⟨p, 5, none⟩ (.int .i64 qp))) := Lib.hid (HS9.out.trans (Step.of_p (Mod.set1 w8 p 5 _)))
          have HQP := Lib.hid hqp
          clear hqp
          go_wp2_with fail
          refine (signal _ HCd.out 0).mono ?_
          rintro e wz ⟨vz, rfl, HCz, HSz⟩
          have HSy : Hid (Step p v0 vz w0 wz) := Lib.hid (HSd.out.trans HSz.out)
          go_wp2_with fail
          go_ret
          exact ⟨vz, q1, rfl, (by rw [eod1y HRV.out hpt, eodP1 HRV.out, ← HQP.out, ← List.append_assoc]; exact HCz), HSy⟩
        · have hpt' : decide (pos < T) = false := by simp [hpt]
          have e5 := HC7.out.cells.2.2.2.2.2.1
          have f5 := HC7.out.ar.free 5
          obtain ⟨qp, hqp⟩ : ∃ qp, qp = pos - 1 := ⟨_, rfl⟩
          have wqp : IntKind.i64.wrap ((pos : Int) - 1) = (qp : Int) := by have := HP1.out; have := HPT.out; have := HTT.out; rw [IntKind.wrap_i64]; omega
          have HCd := Lib.hid (HC7.out.setPos qp)
          have HSd : Hid (Step p v0 v2 w0 (w7.setCell ⟨p, 5, none⟩ (.int .i64 qp))) := Lib.hid (HS7.out.trans (Step.of_p (Mod.set1 w7 p 5 _)))
          have HQP := Lib.hid hqp
          clear hqp
          go_wp2_with fail
          refine (signal _ HCd.out 0).mono ?_
          rintro e wz ⟨vz, rfl, HCz, HSz⟩
          have HSy : Hid (Step p v0 vz w0 wz) := Lib.hid (HSd.out.trans HSz.out)
          go_wp2_with fail
          go_ret
          exact ⟨vz, q1, rfl, (by rw [eod1n HRV.out hpt, eodP1 HRV.out, ← HQP.out]; exact HCz), HSy⟩
    --]r1
  · skip
    --[r0
    have HRV : Hid (V.length % 3 = 0) := Lib.hid (by rw [← HN.out, ← HR.out]; exact hr0)
    have d1 : ((r : Int) == 2) = false := by simp [hr0]
    have d2 : ((r : Int) == 1) = false := by simp [hr0]
    have d4 : ((r : Int) == 0) = true := by simp [hr0]
    clear hr0
    go_upto_region 14 with (fail)
    go_cut [53] from 48 to 52 (fun b wx => w1 = wx ∧ b = .bool false)
    case first =>
      by_cases ha1 : a = 1
      · have d3 : ((a : Int) == 1) = true := by simp [ha1]
        go_wp2_with fail
        go_meet
        case rel => exact ⟨rfl, rfl⟩
      · have d3 : ((a : Int) == 1) = false := by simp; omega
        go_wp2_with fail
        go_meet
        case rel => exact ⟨rfl, rfl⟩
    case rest =>
      obtain ⟨rfl, rfl⟩ := hcut
      have HNL := HN
      have HBl := HB1
      have HCl := HC1
      have HSl := HS1
      clear HB1 HC1 HS1
      go_wp2_with fail
      have HVl : Hid (ws ++ DV.trips V = ws ++ DV.trips V ∧ ∀ x ∈ V, x < 40) := Lib.hid ⟨rfl, HV.out⟩
      go_loopw [1] (fun b wr => ∃ (R Wd : List Nat) (o2 c2 n2 : Nat) (v2 : Value), b = .slice (some ⟨g, o2, none⟩) n2 c2 ∧ Hid (n2 = R.length) ∧ n2 ≤ n ∧ Hid (Buf wr K v2 base (.slice (some ⟨g, o2, none⟩) n2 c2) R) ∧ Hid (Ctx wr p K Wd pos enc (some (q1, d)) v2) ∧ Hid (Step p v0 v2 w0 wr) ∧ Hid (Wd ++ DV.trips R = ws ++ DV.trips V ∧ ∀ x ∈ R, x < 40)) (fun b _ => match b with | .slice _ m _ => m | _ => 0)
      case atStart => exact ⟨V, ws, off, cap, n, v, rfl, HNL, Nat.le_refl _, HBl, HCl, HSl, HVl⟩
      case round =>
        obtain ⟨wo, hwo⟩ : ∃ wo, wo = wr := ⟨_, rfl⟩
        rw [← hwo] at hrel ⊢
        clear hwo
        obtain ⟨R, Wd, o2, c2, n2, v2, rfl, HN2, hn2l, HB2, HC2, HS2, HV2⟩ := hrel
        clear HBl HCl HSl HVl HNL
        by_cases h3 : 3 ≤ n2
        · have h3' : (3 : Int) ≤ (n2 : Int) := by omega
          obtain ⟨a, b, c, l, hR⟩ : ∃ a b c l, R = a :: b :: c :: l := by
            have hl := HN2.out
            match R, hl with
            | a :: b :: c :: l, _ => exact ⟨a, b, c, l, rfl⟩
            | [], hl => simp at hl; omega
            | [_], hl => simp at hl; omega
            | [_, _], hl => simp at hl; omega
          subst hR
          have hx := HV2.out.2
          have hwl : Wd.length ≤ 5000 := by
            have h1 := congrArg List.length HV2.out.1
            rw [List.length_append, List.length_append] at h1
            have := HWL.out
            omega
          have HT := Lib.hid (bufTrip wo HC2.out (by omega) a b c l (hx a (by simp)) (hx b (by simp)) (hx c (by simp)) g o2 n2 c2 base HN2.out (by have := HNB.out; omega) HB2.out)
          have HV3 : Hid ((Wd ++ DV.trip a b c) ++ DV.trips l = ws ++ DV.trips V ∧ ∀ x ∈ l, x < 40) := Lib.hid ⟨by rw [← HV2.out.1, List.append_assoc]; rfl, fun x h => hx x (by simp [h])⟩
          have HN3 := Lib.hid (show n2 = l.length + 3 by rw [HN2.out]; simp)
          clear hx HV2 HN2 hwl
          go_wp2_with fail
          refine HT.out.mono ?_
          rintro e w4 ⟨v4, o4, c4, n4, hn4, rfl, HB4, HC4, HS4⟩
          have HS5 : Hid (Step p v0 v4 w0 w4) := Lib.hid (HS2.out.trans HS4.out)
          have HN4 : Hid (n4 = l.length) := Lib.hid (by have := HN3.out; omega)
          have HM4 : Hid (n4 < n2) := Lib.hid (by omega)
          have hn4l : n4 ≤ n := by omega
          clear HB2 HC2 HS2 HS4 HT HN3 hn4
          go_wp2_with fail
          go_roundw
          case rel => exact ⟨l, Wd ++ DV.trip a b c, o4, c4, n4, v4, rfl, HN4, hn4l, HB4, HC4, HS5, HV3⟩
          case measure => have := HM4.out; simp; omega
        · have h3' : ((3 : Int) ≤ (n2 : Int)) = False := by simp; omega
          have HWE : Hid (Wd = ws ++ DV.trips V) := Lib.hid (by
            have h1 := HV2.out.1
            rw [trips_short (by have := HN2.out; omega), List.append_nil] at h1
            exact h1)
          have HC6 := HWE.out ▸ HC2
          clear HC2 HV2 HWE
          by_cases ha0 : 0 < a
          · skip
            have ha0' : (0 < a) = True := by simp [ha0]
            go_wp2_with fail
            refine (writeWord wo HC6.out 254 (by have := HWL.out; simp only [List.length_append]; omega)).mono ?_
            rintro e w8 ⟨v8, rfl, HC8, HS8⟩
            have HS9 : Hid (Step p v0 v8 w0 w8) := Lib.hid (HS2.out.trans HS8.out)
            go_wp2_with fail
            refine (signal w8 HC8.out 0).mono ?_
            rintro e wz ⟨vz, rfl, HCz, HSz⟩
            have HSy : Hid (Step p v0 vz w0 wz) := Lib.hid (HS9.out.trans HSz.out)
            go_wp2_with fail
            go_ret
            exact ⟨vz, q1, rfl, (by rw [eod0y HRV.out (.inl ha0), eodPn (by rw [HRV.out]; decide), ← List.append_assoc]; exact HCz), HSy⟩
          · have ha0' : (0 < a) = False := by simp; omega
            have HHM := Lib.hid (hasMore wo HC6.out T HTT.out (by have := hlen; omega))
            go_wp2_with fail
            refine HHM.out.mono ?_
            rintro e w' ⟨rfl, mq, rfl⟩
            obtain ⟨w7, hw7⟩ : ∃ wz, wz = wo.drewN mq := ⟨_, rfl⟩
            have HC7 := Lib.hid (HC6.out.same (Same.drewN wo mq))
            have HS7 : Hid (Step p v0 v2 w0 (wo.drewN mq)) := Lib.hid (HS2.out.trans (Step.of_same (Same.drewN wo mq)))
            rw [← hw7] at HC7 HS7 ⊢
            clear hw7 HHM
            by_cases hpt : pos < T
            · have hpt' : decide (pos < T) = true := by simp [hpt]
              go_wp2_with fail
              refine (writeWord w7 HC7.out 254 (by have := HWL.out; simp only [List.length_append]; omega)).mono ?_
              rintro e w8 ⟨v8, rfl, HC8, HS8⟩
              have HS9 : Hid (Step p v0 v8 w0 w8) := Lib.hid (HS7.out.trans HS8.out)
              go_wp2_with fail
              refine (signal w8 HC8.out 0).mono ?_
              rintro e wz ⟨vz, rfl, HCz, HSz⟩
              have HSy : Hid (Step p v0 vz w0 wz) := Lib.hid (HS9.out.trans HSz.out)
              go_wp2_with fail
              go_ret
              exact ⟨vz, q1, rfl, (by rw [eod0y HRV.out (.inr hpt), eodPn (by rw [HRV.out]; decide), ← List.append_assoc]; exact HCz), HSy⟩
            · have hpt' : decide (pos < T) = false := by simp [hpt]
              go_wp2_with fail
              refine (signal w7 HC7.out 0).mono ?_
              rintro e wz ⟨vz, rfl, HCz, HSz⟩
              have HSy : Hid (Step p v0 vz w0 wz) := Lib.hid (HS7.out.trans HSz.out)
              go_wp2_with fail
              go_ret
              exact ⟨vz, q1, rfl, (by rw [eod0n HRV.out (fun h => h.elim ha0 hpt), eodPn (by rw [HRV.out]; decide)]; exact HCz), HSy⟩
    --]r0
end Go.Proofs.YtcadknfcahmdcaaGreat
