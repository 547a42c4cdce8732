/-
  The decoder's segments of ASCII, walked. No condition beyond the bounds that each theorem states.
-/
import Derived.Test.YthnepajhiialpaaDoorDIT
import Derived.Test.YthnepajhiialpaaDoorDAP
import Derived.Test.YthnepajhiialpaaDoorDAS
import Derived.Test.YthnepajhiialpaaDoorPSH
import Derived.BigQuiet
import Derived.BigRegion
import Derived.Deep.Cut
namespace Go.Proofs.YthnepajhiialpaaDoor
open Go.RowKit Go.Qz Go.Qz.BS Go.Qz.DW
set_option linter.unusedVariables false

theorem Tryd.infoU8D : (Tryd.prog.info? 5).map (fun i => (i.zero, i.size, i.bytes)) = some (some (.int .u8 0), 1, 1) := by kernel_rfl
def bl (l : List Nat) : List Value := l.map fun x : Nat => Value.int .u8 x
theorem bl_snoc (l : List Nat) (x : Nat) : bl (l ++ [x]) = bl l ++ [.int .u8 (x : Nat)] := by simp [bl]
theorem range_bl (l : List Nat) : (List.range l.length).map (fun j => Value.int .u8 (nth l j : Nat)) = bl l := by
  unfold bl
  apply List.ext_getElem
  · simp
  · intro i h1 h2
    have h3 : i < l.length := by simpa using h1
    simp [nth_eq h3]
set_option maxRecDepth 100000 in
/-- '[]byte(s)'. -/
theorem conv_bytes (s : ByteArray) :
    ∃ (C : World → Nat) (X : World → World), (∀ W, (convert 9 27 (.string s)).run Tryd.prog W = .ok (.slice (some ⟨W.heap.size, 0, none⟩) s.size (C W)) (X W)) ∧ ∀ W, Below W.heap.size W (X W) ∧ Rd (X W) (some ⟨W.heap.size, 0, none⟩) s.size (fun j => .int .u8 (nth (sb s) j : Nat)) := by
  refine ⟨_, _, fun W => run_bytes_of_string W 9 27 5 s (by kernel_rfl) Tryd.underlying27 (by kernel_rfl), fun W => ⟨(Below.refl _ _).drew.alloc (Nat.le_refl _) _, fun h0 => ⟨W.heap.size, 0, rfl, by simp, fun j hj => ?_⟩⟩⟩
  rw [Nat.zero_add]
  show (W.drew.alloc _).cell? ⟨W.drew.heap.size, j, none⟩ = _
  rw [cell_of_row _ _ _ _ _ _ (heap_alloc_new W.drew _)]
  have hj2 : j < s.data.size := hj
  rw [bytesRow_at _ _ _ hj2]
  have hj3 : j < (sb s).length := by rw [sb_len]; exact hj2
  have h3 : j < s.data.toList.length := by rw [Array.length_toList]; exact hj2
  have e : (sb s)[j] = (s.data.toList[j]).toNat := List.getElem_map (l := s.data.toList) (f := fun x : UInt8 => x.toNat) (i := j) (h := hj3)
  dsimp only
  rw [nth_eq hj3, e]
  rfl
/-- What a segment leaves as it was. -/
def Stay (w wr : World) (p : Nat) (v0 v : Value) : Prop := Mod (fun k => k = p ∨ v0.ownBlock = some k) w wr ∧ (v.ownBlock = v0.ownBlock ∨ ∃ k, v.ownBlock = some k ∧ w.heap.size ≤ k)
theorem Stay.refl (w : World) (p : Nat) (v : Value) : Stay w w p v v := ⟨Mod.refl _, .inl rfl⟩
theorem Stay.drewN {w wr : World} {p : Nat} {v0 v : Value} (h : Stay w wr p v0 v) (k : Nat) : Stay w (wr.drewN k) p v0 v := ⟨h.1.drewN k, h.2⟩
theorem Stay.read {w wr w' : World} {p : Nat} {v0 v : Value} (h : Stay w wr p v0 v) (hm : Mod (· = p) wr w') : Stay w w' p v0 v := ⟨h.1.then hm (fun i _ h => .inl h), h.2⟩
theorem Stay.grow {w wr w' : World} {p : Nat} {v0 v v' : Value} (h : Stay w wr p v0 v) (hg : wr.grownBy w' v.ownBlock) (hl : v'.ownBlock = v.ownBlock ∨ ∃ k, v'.ownBlock = some k ∧ wr.heap.size ≤ k) : Stay w w' p v0 v' := by
  refine ⟨h.1.grown hg (fun k hk => ?_), ?_⟩
  · rcases h.2 with h2 | ⟨j, h2, h3⟩
    · exact .inl (.inr (by rw [← h2]; exact hk))
    · rw [h2] at hk; injection hk with hk; exact .inr (by omega)
  · rcases hl with h1 | ⟨j, h1, h2⟩
    · rw [h1]; exact h.2
    · exact .inr ⟨j, h1, Nat.le_trans h.1.size h2⟩
theorem Stay.below {w wr w' : World} {p : Nat} {v0 v : Value} (h : Stay w wr p v0 v) (hb : Below wr.heap.size wr w') : Stay w w' p v0 v := ⟨h.1.then (Mod.of_below (S := fun _ => False) hb) (fun i _ h => False.elim h), h.2⟩
theorem Stay.trans {w a b : World} {p : Nat} {v0 v1 v2 : Value} (h : Stay w a p v0 v1) (k : Stay a b p v1 v2) : Stay w b p v0 v2 := by
  refine ⟨h.1.then k.1 (fun i hi hs => ?_), ?_⟩
  · rcases hs with hs | hs
    · exact .inl hs
    · rcases h.2 with h2 | ⟨j, h2, h3⟩
      · exact .inr (by rw [← h2]; exact hs)
      · rw [h2] at hs; injection hs with hs; omega
  · rcases k.2 with k2 | ⟨j, k2, k3⟩
    · rw [k2]; exact h.2
    · exact .inr ⟨j, k2, Nat.le_trans h.1.size k3⟩
/-- The state of a decoder: the source at byte q, the bytes, what is said. -/
structure DSt (B : List Nat) (p : Nat) (A : Option Addr) (n c q : Nat) (v : Value) (R : List Nat) (w : World) : Prop where
  src : SrcAt w p A n c q 0
  rd : Rd w A n (fun j => .int .u8 (nth B j : Nat))
  own : w.ownsRow (p + 1) 5 1 v R.length (bl R)
  far : ∀ a, A = some a → a.block < p
theorem DSt.drewN {B : List Nat} {p : Nat} {A : Option Addr} {n c q : Nat} {v : Value} {R : List Nat} {w : World} (h : DSt B p A n c q v R w) (k : Nat) : DSt B p A n c q v R (w.drewN k) := ⟨h.src, h.rd, h.own, h.far⟩
theorem DSt.read {B : List Nat} {p : Nat} {A : Option Addr} {n c q q' : Nat} {v : Value} {R : List Nat} {w w' : World} (h : DSt B p A n c q v R w) (hs : SrcAt w' p A n c q' 0) (hm : Mod (· = p) w w') : DSt B p A n c q' v R w' :=
  ⟨hs, hm.rd h.rd (fun a ha _ e => by have := h.far a ha; have e : a.block = p := e; omega), own_mod h.own hm (fun k hk e => by have := (h.own.lt k hk).1; have e : k = p := e; omega), h.far⟩
theorem DSt.grow {B : List Nat} {p : Nat} {A : Option Addr} {n c q : Nat} {v v' : Value} {R R' : List Nat} {w w' : World} (h : DSt B p A n c q v R w) (hb : Below (p + 1) w w') (ho : w'.ownsRow (p + 1) 5 1 v' R'.length (bl R')) : DSt B p A n c q v' R' w' :=
  ⟨Arr.below h.src hb (Nat.lt_succ_self p), (Mod.of_belowE hb).rd h.rd (fun a ha _ e => by have := h.far a ha; have e : p + 1 ≤ a.block := e; omega), ho, h.far⟩
theorem DSt.plt {B : List Nat} {p : Nat} {A : Option Addr} {n c q : Nat} {v : Value} {R : List Nat} {w : World} (h : DSt B p A n c q v R w) : p < w.heap.size := Arr.lt h.src
theorem DSt.far2 {B : List Nat} {p : Nat} {A : Option Addr} {n c q : Nat} {v : Value} {R : List Nat} {w : World} (h : DSt B p A n c q v R w) : ∀ a, A = some a → a.block ≠ p := fun a ha e => by have := h.far a ha; omega

/-- What stands from a place on, in a mode. -/
def Rest (B : List Nat) (mode q : Nat) (T : List Nat) : Prop := (mode = 0 ∧ T = []) ∨ (mode = 1 ∧ (Asc B q T ∨ (nth B q = 238 ∧ q < B.length ∧ X12 B (q + 1) T))) ∨ (mode = 4 ∧ X12 B q T)
def SegPost (L B : List Nat) (p : Nat) (A : Option Addr) (n c q0 : Nat) (v0 tr : Value) (w : World) (e : Ending) (w' : World) : Prop :=
  ∃ (mode q : Nat) (v : Value) (R T : List Nat), e = .returned (.tuple #[.int .i64 mode, v, tr, .nilIface]) ∧ Hid (DSt B p A n c q v R w') ∧ Hid (Stay w w' p v0 v) ∧ Hid (R ++ T = L) ∧ Hid (Rest B mode q T) ∧ Hid (mode < 5) ∧ Hid (mode = 0 ∨ q0 < q)
set_option maxRecDepth 100000 in
set_option maxHeartbeats 6400000 in
theorem asciiSeg (L B : List Nat) (hL : L.length < 10000) (p : Nat) (A : Option Addr) (n c q : Nat) (hn : n = B.length) (hnl : n < 1000000) (hB : ∀ j, nth B j < 256) (v : Value) (R T : List Nat) (hRT : R ++ T = L) (hT : Rest B 1 q T) (tr mp : Value) (w : World) (h : DSt B p A n c q v R w) :
    Calls Tryd.prog 31 #[.pointer (some ⟨p, 0, none⟩), v, tr, mp] w (SegPost L B p A n c q v tr w) := by
  have HN := Lib.hid hn
  have HBB := Lib.hid hB
  have HS := Lib.hid h
  have HRT := Lib.hid hRT
  have HTT : Hid (Asc B q T ∨ (nth B q = 238 ∧ q < B.length ∧ X12 B (q + 1) T)) := Lib.hid (by
    rcases hT with ⟨h, _⟩ | ⟨_, h⟩ | ⟨h, _⟩
    · cases h
    · exact h
    · cases h)
  have HLL := Lib.hid hL
  clear hn hB h hRT hT hL
  go_enter Tryd.func31, Tryd.ntmps31
  go_wp2_with fail
  have hqn : q ≤ n := by
    have := HN.out
    rcases HTT.out with h | h
    · have := h.lt; omega
    · omega
  go_loopg [1, 2, 12] (n - q) (fun gk x t u wr => ∃ (q1 : Nat) (R T : List Nat), t = tr ∧ u = .bool false ∧ gk + q1 = n ∧ Hid (q ≤ q1) ∧ Hid (DSt B p A n c q1 x R wr) ∧ Hid (Stay w wr p v x) ∧ Hid (R ++ T = L) ∧ Hid (Asc B q1 T ∨ (nth B q1 = 238 ∧ q1 < B.length ∧ X12 B (q1 + 1) T)))
  case atStart => exact ⟨q, R, T, rfl, rfl, by omega, Lib.hid (Nat.le_refl _), HS, Lib.hid (Stay.refl _ _ _), HRT, HTT⟩
  case round =>
    obtain ⟨q1, R, T, rfl, rfl, hgq, HQ, HD, HST, HRT, HTT⟩ := hrel
    clear HS
    obtain ⟨wi, hwi⟩ : ∃ wi, wi = wr := ⟨_, rfl⟩
    rw [← hwi] at HD HST ⊢
    clear hwi
    have hq1 : q1 < n := by
      have := HN.out
      rcases HTT.out with h | h
      · have := h.lt; omega
      · omega
    obtain ⟨m, hm⟩ : ∃ m, m = 8 * (n - q1) := ⟨_, rfl⟩
    have HAV := Lib.hid (av8 p A n c q1 m (by omega) hnl wi HD.out.src)
    have hm0 : (0 : Int) < (m : Int) := by omega
    have HRD := Lib.hid (fun k => read8 B p A n c q1 HN.out hq1 HBB.out hnl (wi.drewN k) (HD.out.drewN k).src (HD.out.drewN k).rd HD.out.far2)
    have hRL : R.length ≤ L.length := by rw [← HRT.out, List.length_append]; omega
    have hLL := HLL.out
    clear hm
    rcases HTT.out with hA | ⟨h238, hql, hX⟩
    · cases hA with
      | pad hP e =>
        rw [e] at HRD
        go_wp2_with fail
        refine HAV.out.mono ?_
        rintro e w1 ⟨rfl, k1, rfl⟩
        go_wp2_with fail
        refine (HRD.out k1).mono ?_
        rintro e w2 ⟨rfl, hs2, hm2⟩
        have HD2 := Lib.hid ((HD.out.drewN k1).read hs2 hm2)
        have HST2 := Lib.hid ((HST.out.drewN k1).read hm2)
        clear hs2 hm2 HRD HAV
        go_wp2_with fail
        refine bodyPost_ret (v := .tuple #[.int .i64 0, u1, u2, .nilIface]) (by simp [results, Tryd.results31, go_sem]) rfl ?_
        exact ⟨0, _, _, R, [], rfl, HD2, HST2, HRT, Lib.hid (.inl ⟨rfl, rfl⟩), Lib.hid (by omega), Lib.hid (.inl rfl)⟩
      | @chr _ x T2 hP hc e t2 =>
        rw [e] at HRD
        obtain ⟨y, hy⟩ : ∃ y, y = x + 1 := ⟨_, rfl⟩
        rw [← hy] at HRD
        have hy0 : ((y : Int) == 0) = false := by simp; omega
        have hy1 : (y : Int) ≤ 128 := by omega
        have hyx : (y : Int) - 1 = (x : Int) := by omega
        have HT2 := Lib.hid t2
        have HY := Lib.hid hy
        clear hy e t2
        go_wp2_with fail
        refine HAV.out.mono ?_
        rintro e w1 ⟨rfl, k1, rfl⟩
        go_wp2_with fail
        refine (HRD.out k1).mono ?_
        rintro e w2 ⟨rfl, hs2, hm2⟩
        have HD2 := Lib.hid ((HD.out.drewN k1).read hs2 hm2)
        have HST2 := Lib.hid ((HST.out.drewN k1).read hm2)
        have HO2 := Lib.hid HD2.out.own
        have HPL := Lib.hid HD2.out.plt
        clear hs2 hm2 HRD HAV
        go_wp2_with (at_builtin; refine wpList_pushAt _ _ 27 (p + 1) 5 (.int .u8 0) 1 _ R.length _ (.int .u8 (x : Nat)) rfl rfl rfl rfl Tryd.underlying27 Tryd.infoU8D rfl rfl (by decide) HO2.out (by omega) HPL.out ?_)
        intro v' w3 hown3 hg3 hb3 hl3
        have HD3 : Hid (DSt B p A n c (q1 + 1) v' (R ++ [x]) w3) := Lib.hid (HD2.out.grow hb3 (by rw [bl_snoc, List.length_append]; exact hown3))
        have HST3 := Lib.hid (HST2.out.grow hg3 (hl3.imp id (fun h => ⟨_, h, Nat.le_succ _⟩)))
        clear hown3 hg3 hb3 hl3 HO2
        go_wp2_with fail
        refine bodyPost_ret (v := .tuple #[.int .i64 1, v', u2, .nilIface]) (by simp [results, Tryd.results31, go_sem]) rfl ?_
        exact ⟨1, _, _, R ++ [x], T2, rfl, HD3, HST3, Lib.hid (by rw [← HRT.out]; simp), Lib.hid (.inr (.inl ⟨rfl, .inl HT2.out⟩)), Lib.hid (by omega), Lib.hid (.inr (by have := HQ.out; omega))⟩
      | @two _ d T2 hP hd e t2 =>
        rw [e] at HRD
        obtain ⟨y, hy⟩ : ∃ y, y = 130 + d := ⟨_, rfl⟩
        rw [← hy] at HRD
        have hy0 : ((y : Int) == 0) = false := by simp; omega
        have hy1 : ((y : Int) ≤ 128) = False := by simp; omega
        have hy2 : ((y : Int) == 129) = false := by simp; omega
        have hy3 : (y : Int) ≤ 229 := by omega
        have hyd : (y : Int) - 130 = (d : Int) := by omega
        have HT2 := Lib.hid t2
        have HIT := Lib.hid (fun W => itoa d hd W)
        have HDIG : Hid (R ++ (48 + d / 10) :: (48 + d % 10) :: T2 = L) := HRT
        obtain ⟨sd, hsd⟩ : ∃ sd, sd = bs (digs d) := ⟨_, rfl⟩
        obtain ⟨C, X, hconv, hX⟩ := conv_bytes sd
        have HX := Lib.hid hX
        have hsb : sb sd = digs d := by
          rw [hsd]; refine sb_bs _ (fun x hx => ?_)
          unfold digs at hx
          split at hx
          · have := List.mem_singleton.1 hx; omega
          · simp at hx; omega
        have hss : sd.size = (digs d).length := by rw [hsd]; exact bs_size _
        have HSB := Lib.hid hsb
        have HSD := Lib.hid hsd
        have hdl : (digs d).length ≤ 2 := by unfold digs; split <;> simp
        obtain ⟨z, hz⟩ : ∃ z, z = sd.size := ⟨_, rfl⟩
        have hz2 : z ≤ 2 := by omega
        rw [← hz] at hconv
        have HCV := Lib.hid hconv
        have HZ := Lib.hid (hz.trans hss)
        have HXZ : Hid (∀ W, Below W.heap.size W (X W) ∧ Rd (X W) (some ⟨W.heap.size, 0, none⟩) z (fun j => .int .u8 (nth (digs d) j : Nat))) := Lib.hid (by
          intro W; rw [hz, ← hsb]; exact HX.out W)
        clear hy e t2 hX HX hconv hsb hss hsd hdl hz
        go_wp2_with fail
        refine HAV.out.mono ?_
        rintro e w1 ⟨rfl, k1, rfl⟩
        go_wp2_with fail
        refine (HRD.out k1).mono ?_
        rintro e w2 ⟨rfl, hs2, hm2⟩
        have HD2 := Lib.hid ((HD.out.drewN k1).read hs2 hm2)
        have HST2 := Lib.hid ((HST.out.drewN k1).read hm2)
        have HO2 := Lib.hid HD2.out.own
        have HPL := Lib.hid HD2.out.plt
        clear hs2 hm2 HRD HAV
        by_cases hd10 : d < 10
        · have hd1 : (d : Int) < 10 := by omega
          go_wp2_with (at_builtin; refine wpList_pushAt _ _ 27 (p + 1) 5 (.int .u8 0) 1 _ R.length _ (.int .u8 ((48 : Nat) : Int)) rfl rfl rfl rfl Tryd.underlying27 Tryd.infoU8D rfl rfl (by decide) HO2.out (by omega) HPL.out ?_)
          intro v' w3 hown3 hg3 hb3 hl3
          have HD3 : Hid (DSt B p A n c (q1 + 1) v' (R ++ [48]) w3) := Lib.hid (HD2.out.grow hb3 (by rw [bl_snoc, List.length_append]; exact hown3))
          have HST3 := Lib.hid (HST2.out.grow hg3 (hl3.imp id (fun h => ⟨_, h, Nat.le_succ _⟩)))
          have HPL3 := Lib.hid HD3.out.plt
          clear hown3 hg3 hb3 hl3 HO2
          go_wp2_with fail
          refine (HIT.out _).mono ?_
          rintro e w4 ⟨st, rfl, hst, rfl⟩
          obtain rfl : st = sd := hst.trans HSD.out.symm
          clear hst
          have HDX : Hid (DSt B p A n c (q1 + 1) v' (R ++ [48]) (X w3)) := Lib.hid (HD3.out.grow ((HXZ.out w3).1.mono HPL3.out) (own_below HD3.out.own (HXZ.out w3).1))
          have HSX := Lib.hid (HST3.out.below (HXZ.out w3).1)
          have HRX := Lib.hid (HXZ.out w3).2
          have HOX := Lib.hid HDX.out.own
          have HPX := Lib.hid HDX.out.plt
          have hrl2 : (R ++ [48]).length ≤ 10001 := by rw [List.length_append]; simp; omega
          go_wp2_with (first | (refine wpList_conv 9 27 _ _ _ _ rfl rfl rfl (HCV.out _) ?_) | (at_builtin; refine wpList_copyAtS _ _ 27 (p + 1) 5 (.int .u8 0) 1 v' (R ++ [48]).length _ _ z _ _ rfl (by rfl) (by rfl) (by rfl) Tryd.underlying27 Tryd.infoU8D rfl (fun _ _ => rfl) (by decide) HOX.out HRX.out (by omega) HPX.out ?_))
          intro v5 w5 hown5 hg5 hb5 hl5
          have HD5 : Hid (DSt B p A n c (q1 + 1) v5 (R ++ [48] ++ digs d) w5) := Lib.hid (HDX.out.grow hb5 (by
            have h := hown5
            have e : bl (R ++ [48] ++ digs d) = bl (R ++ [48]) ++ (List.range z).map (fun j => Value.int .u8 (nth (digs d) j : Nat)) := by
              rw [HZ.out, range_bl]; simp [bl]
            have e2 : (R ++ [48] ++ digs d).length = (R.length + 1) + (digs d).length := by rw [List.length_append, List.length_append]; rfl
            rw [e, e2, ← HZ.out]; exact h))
          have HST5 := Lib.hid (HSX.out.grow hg5 (hl5.imp id (fun h => ⟨_, h, Nat.le_refl _⟩)))
          clear hown5 hg5 hb5 hl5 HOX HRX HDX HSX
          go_wp2_with fail
          go_roundg (gk - 1)
          case measure => omega
          case rel => exact ⟨q1 + 1, R ++ [48] ++ digs d, T2, rfl, rfl, by omega, Lib.hid (by have := HQ.out; omega), HD5, HST5, Lib.hid (by rw [← HDIG.out]; unfold digs; rw [if_pos hd10, show 48 + d / 10 = 48 by omega, show 48 + d % 10 = 48 + d by omega]; simp), Lib.hid (.inl HT2.out)⟩
        · have hd1 : ((d : Int) < 10) = False := by simp; omega
          clear HO2
          go_wp2_with fail
          refine (HIT.out _).mono ?_
          rintro e w4 ⟨st, rfl, hst, rfl⟩
          obtain rfl : st = sd := hst.trans HSD.out.symm
          clear hst
          have HDX : Hid (DSt B p A n c (q1 + 1) u1 (R) (X w2)) := Lib.hid (HD2.out.grow ((HXZ.out w2).1.mono HPL.out) (own_below HD2.out.own (HXZ.out w2).1))
          have HSX := Lib.hid (HST2.out.below (HXZ.out w2).1)
          have HRX := Lib.hid (HXZ.out w2).2
          have HOX := Lib.hid HDX.out.own
          have HPX := Lib.hid HDX.out.plt
          have hrl2 : (R).length ≤ 10001 := by omega
          go_wp2_with (first | (refine wpList_conv 9 27 _ _ _ _ rfl rfl rfl (HCV.out _) ?_) | (at_builtin; refine wpList_copyAtS _ _ 27 (p + 1) 5 (.int .u8 0) 1 u1 (R).length _ _ z _ _ rfl (by rfl) (by rfl) (by rfl) Tryd.underlying27 Tryd.infoU8D rfl (fun _ _ => rfl) (by decide) HOX.out HRX.out (by omega) HPX.out ?_))
          intro v5 w5 hown5 hg5 hb5 hl5
          have HD5 : Hid (DSt B p A n c (q1 + 1) v5 (R ++ digs d) w5) := Lib.hid (HDX.out.grow hb5 (by
            have h := hown5
            have e : bl (R ++ digs d) = bl (R) ++ (List.range z).map (fun j => Value.int .u8 (nth (digs d) j : Nat)) := by
              rw [HZ.out, range_bl]; simp [bl]
            have e2 : (R ++ digs d).length = R.length + (digs d).length := List.length_append
            rw [e, e2, ← HZ.out]; exact h))
          have HST5 := Lib.hid (HSX.out.grow hg5 (hl5.imp id (fun h => ⟨_, h, Nat.le_refl _⟩)))
          clear hown5 hg5 hb5 hl5 HOX HRX HDX HSX
          go_wp2_with fail
          go_roundg (gk - 1)
          case measure => omega
          case rel => exact ⟨q1 + 1, R ++ digs d, T2, rfl, rfl, by omega, Lib.hid (by have := HQ.out; omega), HD5, HST5, Lib.hid (by rw [← HDIG.out]; unfold digs; rw [if_neg hd10]; simp), Lib.hid (.inl HT2.out)⟩
    · rw [h238] at HRD
      have HX := Lib.hid hX
      clear hX
      go_wp2_with fail
      refine HAV.out.mono ?_
      rintro e w1 ⟨rfl, k1, rfl⟩
      go_wp2_with fail
      refine (HRD.out k1).mono ?_
      rintro e w2 ⟨rfl, hs2, hm2⟩
      have HD2 := Lib.hid ((HD.out.drewN k1).read hs2 hm2)
      have HST2 := Lib.hid ((HST.out.drewN k1).read hm2)
      clear hs2 hm2 HRD HAV
      go_wp2_with fail
      refine bodyPost_ret (v := .tuple #[.int .i64 4, u1, u2, .nilIface]) (by simp [results, Tryd.results31, go_sem]) rfl ?_
      exact ⟨4, _, _, R, T, rfl, HD2, HST2, HRT, Lib.hid (.inr (.inr ⟨rfl, HX.out⟩)), Lib.hid (by omega), Lib.hid (.inr (by have := HQ.out; omega))⟩
end Go.Proofs.YthnepajhiialpaaDoor
