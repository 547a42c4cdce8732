
/-
  Decoder.correctBits, walked. No condition beyond the bounds that the theorem states.
-/
import Derived.Test.YtiielblnmfeapaaGreatDoorAZN
namespace Go.Proofs.YtiielblnmfeapaaGreatDoor
open Go.RowKit Go.Qz Go.Qz.RS
set_option linter.unusedVariables false

theorem Tryz.infoIntO : (Tryz.prog.info? 3).map (fun i => (i.zero, i.size, i.bytes)) = some (some (.int .i64 0), 1, 8) := by kernel_rfl
/-- The first q of a row's elements, then others. -/
def fillV (U : List Value) (z : Value) (q : Nat) : List Value := U.take q ++ List.replicate (U.length - q) z
theorem fillV_set (U : List Value) (z : Value) (q : Nat) (x : Value) (hx : U[q]? = some x) : (fillV U z q).set q x = fillV U z (q + 1) := by
  have hq : q < U.length := by
    rw [List.getElem?_eq_some_iff] at hx; exact hx.1
  have hx2 : U[q] = x := by rw [List.getElem?_eq_getElem hq] at hx; injection hx
  unfold fillV
  rw [List.set_append, List.length_take, if_neg (by omega), show q - min q U.length = 0 by omega, show U.length - q = (U.length - (q + 1)) + 1 by omega, List.replicate_succ, List.set_cons_zero, List.take_succ_eq_append_getElem hq, hx2, List.append_assoc]
  rfl
theorem fillV_zero (U : List Value) (z : Value) : fillV U z 0 = List.replicate U.length z := by unfold fillV; simp
theorem fillV_all (U : List Value) (z : Value) : fillV U z U.length = U := by unfold fillV; simp
theorem fillV_at (U : List Value) (z : Value) (q : Nat) (hq : q < U.length) : (fillV U z q)[q]? = some z := by
  unfold fillV
  rw [List.getElem?_append_right (by simp; omega), List.length_take, show q - min q U.length = 0 by omega, show U.length - q = (U.length - (q + 1)) + 1 by omega, List.replicate_succ]
  rfl
theorem ints_at {l : List Nat} {j : Nat} (h : j < l.length) : (ints l)[j]? = some (.int .i64 (nth l j : Nat)) := by
  unfold ints; rw [List.getElem?_map, List.getElem?_eq_getElem h, nth_eq h]; rfl
theorem bools_at {l : List Bool} {j : Nat} (h : j < l.length) : (l.map Value.bool)[j]? = some (.bool (nthB l j)) := by
  rw [List.getElem?_map, List.getElem?_eq_getElem h, nthB_eq h]; rfl

/-- What was sent and what was received. -/
structure Sent (F : Fld) (M n : Nat) (L R J : List Nat) (Y : Nat → Nat) : Prop where
  m2 : 2 ≤ M
  ml : M ≤ 2000
  ms : M + 1 < F.size
  yl : ∀ j, Y j < F.size
  y0 : ∀ j, Y j ≠ 0
  ll : El F L
  rl : El F R
  nd : J.Nodup
  jl : ∀ j ∈ J, j < L.length
  nu : 2 * J.length ≤ M
  nn : n = L.length
  n0 : 0 < n
  nl : n ≤ F.size - 1
  root : ∀ i, i < M → ev F L (ex F (i + F.base)) = 0
  rcv : Rcv F Y L R J
def CorrPost (U : List Bool) (w : World) (e : Ending) (w' : World) : Prop :=
  ∃ p A c, e = .returned (.tuple #[.pointer (some ⟨p, 0, none⟩), .nilIface]) ∧ w'.cell? ⟨p, 0, none⟩ = some (.slice A U.length c) ∧ U.length ≤ c ∧ Rd w' A U.length (fun j => .bool (nthB U j)) ∧ Below w.heap.size w w' ∧ ∃ lv : Nat, w'.cell? ⟨p, 1, none⟩ = some (.int .i64 lv) ∧ (0 < U.length → lv < 100)

set_option maxRecDepth 100000 in
set_option maxHeartbeats 12800000 in
theorem correctBits (l wv : Nat) (hwv : wv = wOf l) (hl : l ≤ 32) (F : Fld) (hF : F = fdOf wv) (B : List Bool) (N n r many : Nat) (hB : N = B.length) (hN : N = r + n * wv) (hr : r < wv) (L R J ws : List Nat) (Y : Nat → Nat) (hS : Sent F (n - many) n L R J Y)
    (hread : ∀ i, i < n → vl B (r + i * wv) wv = nth R i) (hmany : many = ws.length) (hmn : many + 2 ≤ n) (hws : ∀ i, i < many → nth L i = nth ws i ∧ 0 < nth ws i ∧ nth ws i < 2 ^ wv - 1)
    (D0 R0 : Nat) (a0 a1 : Value) (A : Option Addr) (c : Nat) (w : World) (hD0 : Arr w 77 D0 [.pointer (some ⟨R0, 0, none⟩)]) (hR0 : Arr w 81 R0 [a0, a1, .int .i64 many, .int .i64 l]) (hA : Rd w A N (fun j => .bool (nthB B j))) :
    Calls Tryz.prog 38 #[.pointer (some ⟨D0, 0, none⟩), .slice A N c] w (CorrPost (unst wv ws) w) := by
  have hcs : wv = 6 ∨ wv = 8 ∨ wv = 10 ∨ wv = 12 := by rw [hwv]; exact wOf_cases l
  have hFs : Six F ∧ F.size = 2 ^ wv := by rw [hF]; exact fdOf_six hcs
  have HF6 := Lib.hid hFs.1
  have HWF := Lib.hid (And.intro hwv hF)
  have HS := Lib.hid hS
  have HREAD := Lib.hid hread
  have HMANY := Lib.hid hmany
  have HWS := Lib.hid hws
  have HRA := Lib.hid hA
  have HBN := Lib.hid hB
  have HNN := Lib.hid hN
  have HD0 := Lib.hid hD0
  have HR0 := Lib.hid hR0
  have HNL := Lib.hid (nbLayers R0 _ _ _ _ w hR0)
  have hd0 := hD0.cell? 0
  simp only [List.getElem?_cons_zero] at hd0
  have hnb : n ≤ 4095 := by
    have h1 := hS.nl
    have h2 := hFs.1.bounds
    omega
  have hwb : 6 ≤ wv ∧ wv ≤ 12 := by omega
  have HW4 : Hid (4 ≤ wv) := Lib.hid (by omega)
  have hNb : N ≤ 50000 := by
    have : n * wv ≤ 4095 * 12 := Nat.mul_le_mul hnb (by omega)
    omega
  have hw0 : ¬ (wv : Int) = 0 := by omega
  have hw00 : ¬ wv = 0 := by omega
  have hn0 : ¬ (n : Int) = 0 := by omega
  have hn00 : ¬ n = 0 := by omega
  have hq0 : N / wv = n := by rw [hN, Nat.add_mul_div_right _ _ (by omega), Nat.div_eq_of_lt hr]; omega
  have hr0 : N % wv = r := by rw [hN, Nat.add_mul_mod_self_right, Nat.mod_eq_of_lt hr]
  have hq : (N : Int).tdiv (wv : Int) = (n : Int) := by rw [Int.tdiv_eq_ediv_of_nonneg (by omega), ← hq0]; simp
  have hq2 : (N : Int) / (wv : Int) = (n : Int) := by rw [← hq0]; simp
  have er : (N : Int).tmod (wv : Int) = (r : Int) := by rw [Int.tmod_eq_emod_of_nonneg (by omega), ← hr0]; simp
  have er2 := fun W => rem_runK (N : Int) (wv : Int) (r : Int) hw0 er W
  have hnm : ((n : Int) < (many : Int)) = False := by simp; omega
  have hmk := fun W => run_make1 (P := Tryz.prog) 24 3 (.int .i64 0) 8 Tryz.underlying24 Tryz.infoIntO rfl (by decide) n (by omega) .i64 .i64 (n : Int) rfl W
  clear hcs hFs hwv hF hS hread hmany hws hA hB hN hD0 hR0 hq0 hr0
  go_enter Tryz.func38, Tryz.ntmps38
  go_wp2_with fail
  refine HNL.out.mono ?_
  rintro e w1 ⟨rfl, rfl⟩
  go_upto_if 31 with (fail)
  go_cut [6, 7] (fun u6 u7 wx => ∃ f, u6 = .pointer (some ⟨f, 0, none⟩) ∧ u7 = .int .i64 wv ∧ Hid (GFQ wx (fun k => k < wx.heap.size) f F) ∧ Hid (Below w.heap.size w wx))
  case first =>
    by_cases h1 : l ≤ 2
    · have hl1 : (l : Int) ≤ 2 := by omega
      have HE : Hid (wv = 6) := Lib.hid (by rw [HWF.out.1]; unfold wOf; rw [if_pos h1])
      go_wp2_with fail
      refine (gfData6 _).mono ?_
      rintro e w1 ⟨f, rfl, hg, hb⟩
      have HG := Lib.hid hg
      have HB1 := Lib.hid hb
      clear hg hb
      go_wp2_with fail
      go_meet
      case rel => exact ⟨f, rfl, by rw [HE.out]; rfl, Lib.hid (by rw [HWF.out.2, HE.out]; exact HG.out), HB1⟩
    · have hl1 : ((l : Int) ≤ 2) = False := by simp; omega
      go_wp2_with fail
      refine HNL.out.mono ?_
      rintro e w1 ⟨rfl, rfl⟩
      by_cases h2 : l ≤ 8
      · have hl2 : (l : Int) ≤ 8 := by omega
        have HE : Hid (wv = 8) := Lib.hid (by rw [HWF.out.1]; unfold wOf; rw [if_neg h1, if_pos h2])
        go_wp2_with fail
        refine (gfData8 _).mono ?_
        rintro e w1 ⟨f, rfl, hg, hb⟩
        have HG := Lib.hid hg
        have HB1 := Lib.hid hb
        clear hg hb
        go_wp2_with fail
        go_meet
        case rel => exact ⟨f, rfl, by rw [HE.out]; rfl, Lib.hid (by rw [HWF.out.2, HE.out]; exact HG.out), HB1⟩
      · have hl2 : ((l : Int) ≤ 8) = False := by simp; omega
        go_wp2_with fail
        refine HNL.out.mono ?_
        rintro e w1 ⟨rfl, rfl⟩
        by_cases h3 : l ≤ 22
        · have hl3 : (l : Int) ≤ 22 := by omega
          have HE : Hid (wv = 10) := Lib.hid (by rw [HWF.out.1]; unfold wOf; rw [if_neg h1, if_neg h2, if_pos h3])
          go_wp2_with fail
          refine (gfData10 _).mono ?_
          rintro e w1 ⟨f, rfl, hg, hb⟩
          have HG := Lib.hid hg
          have HB1 := Lib.hid hb
          clear hg hb
          go_wp2_with fail
          go_meet
          case rel => exact ⟨f, rfl, by rw [HE.out]; rfl, Lib.hid (by rw [HWF.out.2, HE.out]; exact HG.out), HB1⟩
        · have hl3 : ((l : Int) ≤ 22) = False := by simp; omega
          have HE : Hid (wv = 12) := Lib.hid (by rw [HWF.out.1]; unfold wOf; rw [if_neg h1, if_neg h2, if_neg h3])
          go_wp2_with fail
          refine (gfData12 _).mono ?_
          rintro e w1 ⟨f, rfl, hg, hb⟩
          have HG := Lib.hid hg
          have HB1 := Lib.hid hb
          clear hg hb
          go_wp2_with fail
          go_meet
          case rel => exact ⟨f, rfl, by rw [HE.out]; rfl, Lib.hid (by rw [HWF.out.2, HE.out]; exact HG.out), HB1⟩
  case rest =>
    obtain ⟨f, rfl, rfl, HG, HB1⟩ := hcut
    obtain ⟨wi, hwi⟩ : ∃ wi, wi = wc := ⟨_, rfl⟩
    rw [← hwi] at HG HB1 ⊢
    clear hwi
    have HD1 := Lib.hid (HD0.out.below HB1.out HD0.out.lt)
    have HR1 := Lib.hid (HR0.out.below HB1.out HR0.out.lt)
    have HND := Lib.hid (nbData R0 _ _ _ _ wi HR1.out)
    have hd1 := HD1.out.cell? 0
    simp only [List.getElem?_cons_zero] at hd1
    clear hd0 HNL
    go_wp2_with fail
    refine HND.out.mono ?_
    rintro e w1 ⟨rfl, rfl⟩
    go_wp2_with fail
    -- the words' row
    have hI := Arr.new wi 3 (List.replicate n (.int .i64 0))
    have hbI : Below wi.heap.size wi (wi.alloc (.cells (zeros n (.int .i64 0)) 3)) := (Below.refl _ _).alloc (Nat.le_refl _) _
    obtain ⟨W0, hW0⟩ : ∃ W0, W0 = wi.alloc (.cells (zeros n (.int .i64 0)) 3) := ⟨_, rfl⟩
    have hI2 : Arr W0 3 wi.heap.size (List.replicate n (.int .i64 0)) := by rw [hW0]; exact hI
    rw [← hW0] at hbI ⊢
    obtain ⟨DB, hDB⟩ : ∃ DB, DB = wi.heap.size := ⟨_, rfl⟩
    rw [← hDB] at hI2 hbI ⊢
    have HG2 : Hid (GFQ W0 (fun k => k ≠ DB) f F) := Lib.hid ((HG.out.below (by rw [← hDB]; exact hbI)).imp (fun k hk => by omega))
    have HDw : Hid (D0 < DB ∧ R0 < DB) := Lib.hid ⟨by have := HD1.out.lt; omega, by have := HR1.out.lt; omega⟩
    have HB2 : Hid (Below w.heap.size w W0) := Lib.hid (HB1.out.trans (hbI.mono (by rw [hDB]; exact HB1.out.size)))
    have HDBw : Hid (w.heap.size ≤ DB) := Lib.hid (by rw [hDB]; exact HB1.out.size)
    have hRl : R.length = n := by rw [HS.out.rcv.len, HS.out.nn]
    have HRL := Lib.hid hRl
    have HFI : Hid (∀ i, i < n → (ints R)[i]? = some (.int .i64 (nth R i : Nat))) := Lib.hid (fun i hi => ints_at (by rw [HRL.out]; exact hi))
    have HIL : Hid ((ints R).length = n) := Lib.hid (by unfold ints; rw [List.length_map, HRL.out])
    have HI2 : Hid (Arr W0 3 DB (fillV (ints R) (.int .i64 0) 0)) := Lib.hid (by rw [fillV_zero, HIL.out]; exact hI2)
    have HDBl : Hid (DB < W0.heap.size) := Lib.hid hI2.lt
    clear hI hbI hW0 hI2 hDB hRl hmk HND hd1 er er2 hq hq2 HG HB1 HD1 HR1
    go_loopw [10, 12] (fun o i wr => ∃ q : Nat, q ≤ n ∧ i = .int .i64 q ∧ o = .int .i64 ((r + q * wv : Nat) : Int) ∧ Hid (Arr wr 3 DB (fillV (ints R) (.int .i64 0) q)) ∧ Hid (Mod (· = DB) W0 wr)) (fun _ i _ => n - (intOf i).toNat)
    case atStart => exact ⟨0, Nat.zero_le _, rfl, by simp, HI2, Lib.hid (Mod.refl _)⟩
    case round =>
      obtain ⟨q, hq, rfl, rfl, HI, HM⟩ := hrel
      clear HI2
      obtain ⟨wj, hwj⟩ : ∃ wj, wj = wr := ⟨_, rfl⟩
      rw [← hwj] at HI HM ⊢
      clear hwj
      by_cases hlt : q < n
      · have hqi : (q : Int) < (n : Int) := by omega
        have hq0 : (0 : Int) ≤ (q : Int) := by omega
        obtain ⟨o, ho⟩ : ∃ o, o = r + q * wv := ⟨_, rfl⟩
        rw [← ho]
        have hob : o ≤ 60000 := by
          have : q * wv ≤ 4095 * 12 := Nat.mul_le_mul (by omega) (by omega)
          omega
        have hbj : Below w.heap.size w wj := HB2.out.trans (HM.out.below HB2.out.size (fun k hk => by rw [hk]; exact HDBw.out))
        have hon : o + wv ≤ N := by
          have h1 : q * wv + wv ≤ n * wv := by
            have := Nat.mul_le_mul_right wv (show q + 1 ≤ n by omega)
            rw [Nat.add_mul] at this; omega
          have := HNN.out
          omega
        have HRC := readCode B A N c o wv HBN.out (by omega) (by omega) (by omega) wj (HRA.out.below hbj)
        rw [ho, HREAD.out q hlt, ← ho] at HRC
        have HRC := Lib.hid HRC
        have hx := HFI.out q hlt
        obtain ⟨x, hxx⟩ : ∃ x, x = nth R q := ⟨_, rfl⟩
        rw [← hxx] at HRC hx
        have hf := HI.out.free q
        have hcl := HI.out.cell? q
        rw [fillV_at _ _ _ (by rw [HIL.out]; exact hlt)] at hcl
        have HI3 : Hid (Arr (wj.setCell ⟨DB, q, none⟩ (.int .i64 x)) 3 DB (fillV (ints R) (.int .i64 0) (q + 1))) := Lib.hid (by rw [← fillV_set _ _ _ _ hx]; exact HI.out.set_ q _)
        have HM3 : Hid (Mod (· = DB) W0 (wj.setCell ⟨DB, q, none⟩ (.int .i64 x))) := Lib.hid (HM.out.setCell (p := ⟨DB, q, none⟩) (.inl rfl) _)
        have HO : Hid (r + (q + 1) * wv = o + wv) := Lib.hid (by rw [ho, Nat.add_mul]; omega)
        clear hbj hon ho hxx hx HI HM
        go_wp2_with fail
        refine HRC.out.mono ?_
        rintro e w1 ⟨rfl, rfl⟩
        go_wp2_with fail
        go_roundw
        case rel => exact ⟨q + 1, by omega, by go_num, by rw [HO.out]; go_num, HI3, HM3⟩
        case measure => simp [intOf]; omega
      · obtain rfl : q = n := by omega
        have hqi : ((q : Int) < (q : Int)) = False := by simp
        have HI3 : Hid (Arr wj 3 DB (ints R ++ [])) := Lib.hid (by
          have h5 := HI.out
          rw [← HIL.out, fillV_all] at h5
          rw [List.append_nil]; exact h5)
        have HG3 : Hid (GFQ wj (fun k => k ≠ DB) f F) := Lib.hid (HG2.out.mod HM.out (fun k hk => hk))
        have HBJ : Hid (Below w.heap.size w wj) := Lib.hid (HB2.out.trans (HM.out.below HB2.out.size (fun k hk => by rw [hk]; exact HDBw.out)))
        have HDN := Lib.hid (dec_newA f wj)
        have HDBl3 : Hid (DB < wj.heap.size) := Lib.hid HI3.out.lt
        clear HI HM HG2 HB2
        obtain ⟨off, hoff⟩ : ∃ off, off = r + q * wv := ⟨_, rfl⟩
        rw [← hoff]
        clear hoff hq
        go_wp2_with fail
        refine HDN.out.mono ?_
        rintro e w4 ⟨D, rfl, hD, hb4, hDl⟩
        have hDne : D ≠ DB := by have := HDBl3.out; omega
        have hS := HS.out
        have HDEC := Lib.hid (decode F HF6.out (q - many) q hS.m2 hS.ml hS.ms L R J Y hS.yl hS.y0 hS.ll hS.rl hS.nd hS.jl hS.nu hS.nn hS.n0 hS.nl hS.root hS.rcv D f DB q [] w4 (Nat.le_refl _) hD hDne (HG3.out.below hb4) (HI3.out.below hb4 HDBl3.out))
        have HB4 := Lib.hid (HBJ.out.trans (hb4.mono HBJ.out.size))
        have HDBl4 : Hid (DB < w4.heap.size) := Lib.hid (by have := hb4.size; have := HDBl3.out; omega)
        obtain ⟨M, hM⟩ : ∃ M, M = q - many := ⟨_, rfl⟩
        rw [← hM] at HDEC
        have hM1 : (q : Int) - (many : Int) = (M : Int) := by omega
        have hMb : M ≤ 4095 := by omega
        have hneq2 : ∀ W, (binOp .neq 119 .nilIface .nilIface).run Tryz.prog W = .ok (.bool false) W := fun W => rfl
        have HMQ := Lib.hid hM
        clear hD hb4 hDl hS hM HDN HG3 HI3 HBJ HDBl3
        go_wp2_with fail
        refine HDEC.out.mono ?_
        rintro e w5 ⟨rfl, hI5, hm5⟩
        have HI5 : Hid (Arr w5 3 DB (ints L ++ [])) := Lib.hid hI5
        have HB5 : Hid (Below w.heap.size w w5) := Lib.hid (HB4.out.trans (hm5.below HB4.out.size (fun k hk => by rw [hk]; exact HDBw.out)))
        obtain ⟨P, hP⟩ : ∃ P, P = 2 ^ wv := ⟨_, rfl⟩
        have hP1 : 32 ≤ P ∧ P ≤ 4096 := by
          have h1 : 2 ^ 5 ≤ 2 ^ wv := Nat.pow_le_pow_right (by omega) (by omega)
          have h2 : 2 ^ wv ≤ 2 ^ 12 := Nat.pow_le_pow_right (by omega) (by omega)
          rw [← hP] at h1 h2
          omega
        have hP2 : (2 : Int) ^ wv = (P : Int) := by rw [hP]; simp
        obtain ⟨P1, hPP1⟩ : ∃ P1, P1 = P - 1 := ⟨_, rfl⟩
        obtain ⟨P2, hPP2⟩ : ∃ P2, P2 = P - 2 := ⟨_, rfl⟩
        have hP3 : (P : Int) - 1 = (P1 : Int) := by omega
        have hP4 : (P1 : Int) - 1 = (P2 : Int) := by omega
        have hP5 : 30 ≤ P2 ∧ P1 = P2 + 1 ∧ P2 < 4096 := by omega
        have HWS2 : Hid (∀ i, i < many → nth L i = nth ws i ∧ 0 < nth ws i ∧ nth ws i < P1) := Lib.hid (fun i hi => by
          have h5 := HWS.out i hi
          rw [← hP] at h5
          exact ⟨h5.1, h5.2.1, by omega⟩)
        have HLC : Hid (∀ i, i < many → (ints L ++ [])[i]? = some (.int .i64 (nth ws i : Nat))) := Lib.hid (fun i hi => by
          rw [List.append_nil, ints_at (by rw [← HS.out.nn]; omega), (HWS2.out i hi).1])
        have HCS : Hid (∀ i, i < many → ((nth ws i = 1 ∨ nth ws i = P2) → cntS wv ws (i + 1) = cntS wv ws i + 1) ∧ (¬ (nth ws i = 1 ∨ nth ws i = P2) → cntS wv ws (i + 1) = cntS wv ws i)) := Lib.hid (fun i hi => by
          rw [hPP2, hP]; exact cntS_succ HW4.out ws i (by rw [← HMANY.out]; exact hi))
        have HUS : Hid (∀ i j, i < many → (nth ws i = 1 ∨ nth ws i = P2) → j < wv - 1 → nthB (unW wv (nth ws i)) j = decide (1 < nth ws i)) := Lib.hid (fun i j hi h hj => unW_same HW4.out (by rw [← hP, ← hPP2]; exact h) hj)
        have HUB : Hid (∀ i j, i < many → ¬ (nth ws i = 1 ∨ nth ws i = P2) → j < wv → nthB (unW wv (nth ws i)) j = (nth ws i).testBit (wv - 1 - j)) := Lib.hid (fun i j hi h hj => unW_bit (by rw [← hP, ← hPP2]; exact h) hj)
        have HUL : Hid (∀ i, i < many → ((nth ws i = 1 ∨ nth ws i = P2) → (unW wv (nth ws i)).length = wv - 1) ∧ (¬ (nth ws i = 1 ∨ nth ws i = P2) → (unW wv (nth ws i)).length = wv)) := Lib.hid (fun i hi => by
          rw [hPP2, hP]; exact unW_len HW4.out _)
        have HCB : Hid (∀ i, i ≤ many → cntS wv ws i ≤ 49140) := Lib.hid (fun i hi => by
          unfold cntS
          have h6 : wv * min i ws.length ≤ 12 * 4095 := Nat.mul_le_mul (by omega) (by have := HMANY.out; omega)
          omega)
        clear hI5 hm5 HDEC HB4 HDBl4 hP hPP1 hPP2 HREAD HFI HIL
        have hwv64 : wv < 64 := by omega
        have hwv0 : (0 : Int) ≤ (wv : Int) := by omega
        go_wp2_with fail
        go_loopw [16, 17] (fun s i wr => ∃ k : Nat, k ≤ many ∧ i = .int .i64 k ∧ s = .int .i64 (cntS wv ws k : Nat) ∧ w5 = wr) (fun _ i _ => many - (intOf i).toNat)
        case atStart => exact ⟨0, Nat.zero_le _, rfl, by rw [cntS_zero]; rfl, rfl⟩
        case round =>
          obtain ⟨k, hk, rfl, rfl, rfl⟩ := hrel
          by_cases hlt2 : k < many
          · have hki : (k : Int) < (many : Int) := by omega
            have hk0 : (0 : Int) ≤ (k : Int) := by omega
            have hkq : (k : Int) < (q : Int) := by omega
            have hc := HI5.out.cell? k
            rw [HLC.out k hlt2] at hc
            have hx := (HWS2.out k hlt2).2
            have hcs := HCS.out k hlt2
            have hcb := HCB.out k hk
            obtain ⟨x, hxx⟩ : ∃ x, x = nth ws k := ⟨_, rfl⟩
            rw [← hxx] at hc hx hcs
            obtain ⟨s0, hs0⟩ : ∃ s, s = cntS wv ws k := ⟨_, rfl⟩
            obtain ⟨s1, hs1⟩ : ∃ s, s = cntS wv ws (k + 1) := ⟨_, rfl⟩
            rw [← hs0] at hcb ⊢
            rw [← hs0, ← hs1] at hcs
            have HS1 := Lib.hid hs1
            have hx0 : ((x : Int) == 0) = false := by simp; omega
            have hxP : ((x : Int) == (P1 : Int)) = false := by simp; omega
            clear hxx hs0 hs1
            by_cases h1 : x = 1
            · have HE := Lib.hid (hcs.1 (.inl h1))
              have hc1 : w5.cell? ⟨DB, k, none⟩ = some (.int .i64 1) := by rw [hc, h1]; rfl
              have h1P : ((1 : Int) == (P1 : Int)) = false := by simp; omega
              clear hc hcs hx hx0 hxP h1
              go_wp2_with fail
              go_roundw
              case rel => exact ⟨k + 1, by omega, by go_num, by rw [← HS1.out, HE.out]; go_num, by trivial⟩
              case measure => simp [intOf]; omega
            · have hx1 : ((x : Int) == 1) = false := by simp; omega
              by_cases h2 : x = P2
              · have HE := Lib.hid (hcs.1 (.inr h2))
                subst h2
                clear hcs hx
                go_wp2_with fail
                go_roundw
                case rel => exact ⟨k + 1, by omega, by go_num, by rw [← HS1.out, HE.out]; go_num, by trivial⟩
                case measure => simp [intOf]; omega
              · have hx2 : ((x : Int) == (P2 : Int)) = false := by simp; omega
                have HE := Lib.hid (hcs.2 (by omega))
                clear hcs hx
                go_wp2_with fail
                go_roundw
                case rel => exact ⟨k + 1, by omega, by go_num, by rw [← HS1.out, HE.out], by trivial⟩
                case measure => simp [intOf]; omega
          · obtain rfl : k = many := by omega
            have hki : ((k : Int) < (k : Int)) = False := by simp
            obtain ⟨hca, hcb2⟩ := cntS_all HW4.out ws
            rw [← HMANY.out] at hca hcb2
            have hcb := HCB.out k hk
            obtain ⟨s0, hs0⟩ : ∃ s, s = cntS wv ws k := ⟨_, rfl⟩
            rw [← hs0] at hcb hca hcb2 ⊢
            obtain ⟨mw, hmw⟩ : ∃ mw, mw = k * wv := ⟨_, rfl⟩
            have hmwb : mw ≤ 50000 := by rw [hmw]; have : k * wv ≤ 4095 * 12 := Nat.mul_le_mul (by omega) (by omega); omega
            have hmw1 : (k : Int) * (wv : Int) = (mw : Int) := by rw [hmw]; simp
            obtain ⟨T, hT⟩ : ∃ T, T = (unst wv ws).length := ⟨_, rfl⟩
            rw [Nat.mul_comm, ← hmw, ← hT] at hca
            rw [Nat.mul_comm, ← hmw] at hcb2
            have hT1 : (mw : Int) - (s0 : Int) = (T : Int) := by omega
            have hTb : T ≤ 50000 := by omega
            have HT := Lib.hid hT
            have hmk := fun W => run_make1 (P := Tryz.prog) 35 4 (.bool false) 1 Tryz.underlying35 Tryz.infoBoolK rfl (by decide) T (by omega) .i64 .i64 (T : Int) rfl W
            clear hca hcb2 hs0 hmw hT HCS HCB hk
            go_wp2_with fail
            have hC := Arr.new w5 4 (List.replicate T (.bool false))
            have hbC : Below w5.heap.size w5 (w5.alloc (.cells (zeros T (.bool false)) 4)) := (Below.refl _ _).alloc (Nat.le_refl _) _
            obtain ⟨W6, hW6⟩ : ∃ W6, W6 = w5.alloc (.cells (zeros T (.bool false)) 4) := ⟨_, rfl⟩
            have hC2 : Arr W6 4 w5.heap.size (List.replicate T (.bool false)) := by rw [hW6]; exact hC
            rw [← hW6] at hbC ⊢
            have HI6 : Hid (Arr W6 3 DB (ints L ++ [])) := Lib.hid (HI5.out.below hbC HI5.out.lt)
            have hDBl5 := HI5.out.lt
            obtain ⟨CB, hCB⟩ : ∃ CB, CB = w5.heap.size := ⟨_, rfl⟩
            rw [← hCB] at hC2 hbC ⊢
            have hne : CB ≠ DB := by omega
            have HB6 : Hid (Below w.heap.size w W6) := Lib.hid (HB5.out.trans (hbC.mono (by rw [hCB]; exact HB5.out.size)))
            have HCBw : Hid (w.heap.size ≤ CB) := Lib.hid (by rw [hCB]; exact HB5.out.size)
            have HUA : Hid (∀ i j, i < k → j < (unW wv (nth ws i)).length → offU wv ws i + j < T ∧ ((unst wv ws).map Value.bool)[offU wv ws i + j]? = some (.bool (nthB (unW wv (nth ws i)) j))) := Lib.hid (fun i j hi hj => by
              have h5 := unst_at wv ws i j (by rw [← HMANY.out]; exact hi) hj
              rw [HT.out]
              exact ⟨h5.1, by rw [bools_at h5.1, h5.2]⟩)
            have HOS : Hid (∀ i, i < k → offU wv ws (i + 1) = offU wv ws i + (unW wv (nth ws i)).length) := Lib.hid (fun i hi => offU_succ wv ws i (by rw [← HMANY.out]; exact hi))
            have HOL : Hid (∀ i, offU wv ws i ≤ T) := Lib.hid (fun i => by rw [HT.out]; exact offU_le wv ws i)
            have HC6 : Hid (Arr W6 4 CB (fillV ((unst wv ws).map Value.bool) (.bool false) 0)) := Lib.hid (by rw [fillV_zero, List.length_map, ← HT.out]; exact hC2)
            obtain ⟨dd, hdd⟩ : ∃ dd, dd = wv - 1 := ⟨_, rfl⟩
            have hdd1 : (wv : Int) - 1 = (dd : Int) := by omega
            have hdd2 : dd + 1 = wv := by omega
            rw [← hdd] at HUS HUL HUB
            clear hC hbC hC2 hW6 hCB hmk HI5 HB5 hdd hDBl5
            go_loopw [20, 21] (fun o i wr => ∃ j : Nat, j ≤ k ∧ i = .int .i64 j ∧ o = .int .i64 (offU wv ws j : Nat) ∧ Hid (Arr wr 4 CB (fillV ((unst wv ws).map Value.bool) (.bool false) (offU wv ws j))) ∧ Hid (Mod (· = CB) W6 wr)) (fun _ i _ => k - (intOf i).toNat)
            case atStart => exact ⟨0, Nat.zero_le _, rfl, by rw [offU_zero]; rfl, by rw [offU_zero]; exact HC6, Lib.hid (Mod.refl _)⟩
            case round =>
              obtain ⟨j, hj, rfl, rfl, HC, HMC⟩ := hrel
              clear HC6
              obtain ⟨wj2, hwj2⟩ : ∃ wj2, wj2 = wr := ⟨_, rfl⟩
              rw [← hwj2] at HC HMC ⊢
              clear hwj2
              by_cases hlt3 : j < k
              · have hji : (j : Int) < (k : Int) := by omega
                have hj0 : (0 : Int) ≤ (j : Int) := by omega
                have hjq : (j : Int) < (q : Int) := by omega
                have hI7 := HI6.out.mod HMC.out (fun e => hne e.symm)
                have hc := hI7.cell? j
                rw [HLC.out j hlt3] at hc
                have hx := (HWS2.out j hlt3).2
                have hus := fun t => HUS.out j t hlt3
                have hub := fun t => HUB.out j t hlt3
                have hul := HUL.out j hlt3
                have hua := fun t => HUA.out j t hlt3
                have hos := HOS.out j hlt3
                have hol := HOL.out j
                obtain ⟨x, hxx⟩ : ∃ x, x = nth ws j := ⟨_, rfl⟩
                rw [← hxx] at hc hx hus hub hul hua hos
                obtain ⟨o, ho⟩ : ∃ o, o = offU wv ws j := ⟨_, rfl⟩
                obtain ⟨o2, ho2⟩ : ∃ o2, o2 = offU wv ws (j + 1) := ⟨_, rfl⟩
                rw [← ho] at hua hos hol HC ⊢
                rw [← ho2] at hos
                have HO2 := Lib.hid ho2
                have hx0 : ((x : Int) == 0) = false := by simp; omega
                have hxP : ((x : Int) == (P1 : Int)) = false := by simp; omega
                obtain ⟨ow, how⟩ : ∃ ow, ow = o + wv := ⟨_, rfl⟩
                have how1 : (o : Int) + (wv : Int) = (ow : Int) := by omega
                obtain ⟨oe, hoe⟩ : ∃ oe, oe = o + dd := ⟨_, rfl⟩
                have hoe1 : (ow : Int) - 1 = (oe : Int) := by omega
                clear how hoe
                have HUST := Lib.hid hus
                have HUBT := Lib.hid hub
                have HUAT := Lib.hid hua
                clear hus hub hua hI7 hxx ho ho2
                by_cases hst : x = 1 ∨ x = P2
                · have hlen := hul.1 hst
                  rw [hlen] at hos HUAT
                  have HST := Lib.hid hst
                  have HOS2 := Lib.hid hos
                  obtain ⟨bv, hbv⟩ : ∃ bv, bv = decide (1 < x) := ⟨_, rfl⟩
                  rw [← hbv] at HUST
                  have HVAL : Hid (∀ t, t < dd → o + t < T ∧ ((unst wv ws).map Value.bool)[o + t]? = some (.bool bv)) := Lib.hid (fun t ht => by
                    have h5 := HUAT.out t ht
                    rw [HUST.out t HST.out ht] at h5
                    exact h5)
                  clear hul hlen hos HUAT HUST
                  rcases hst with h1 | h2
                  · have hbf : bv = false := by rw [hbv, h1]; rfl
                    have hc1 : wj2.cell? ⟨DB, j, none⟩ = some (.int .i64 1) := by rw [hc, h1]; rfl
                    rw [hbf] at HVAL
                    clear hc hx hx0 hxP h1 hbv hbf
                    go_wp2_with fail
                    go_loopw [24] (fun i wr => ∃ t : Nat, t ≤ dd ∧ i = .int .i64 ((o + t : Nat) : Int) ∧ Hid (Arr wr 4 CB (fillV ((unst wv ws).map Value.bool) (.bool false) (o + t))) ∧ Hid (Mod (· = CB) W6 wr)) (fun i _ => oe - (intOf i).toNat)
                    case atStart => exact ⟨0, Nat.zero_le _, rfl, HC, HMC⟩
                    case round =>
                      obtain ⟨t, ht, rfl, HC3, HM3⟩ := hrel
                      obtain ⟨wk, hwk⟩ : ∃ wk, wk = wr := ⟨_, rfl⟩
                      rw [← hwk] at HC3 HM3 ⊢
                      clear hwk
                      obtain ⟨ot, hot⟩ : ∃ ot, ot = o + t := ⟨_, rfl⟩
                      rw [← hot] at HC3 ⊢
                      by_cases hlt4 : t < dd
                      · have hote : (ot : Int) < (oe : Int) := by omega
                        have hv := HVAL.out t hlt4
                        rw [← hot] at hv
                        have HOT := Lib.hid hot
                        have hot0 : (0 : Int) ≤ (ot : Int) := by omega
                        have hotT : (ot : Int) < (T : Int) := by omega
                        have hotb : ot < 60000 := by omega
                        have hfr := HC3.out.free ot
                        have hcl := HC3.out.cell? ot
                        rw [fillV_at _ _ _ (by rw [List.length_map, ← HT.out]; omega)] at hcl
                        have HC4 : Hid (Arr (wk.setCell ⟨CB, ot, none⟩ (.bool false)) 4 CB (fillV ((unst wv ws).map Value.bool) (.bool false) (ot + 1))) := Lib.hid (by rw [← fillV_set _ _ _ _ hv.2]; exact HC3.out.set_ ot _)
                        have HM4 : Hid (Mod (· = CB) W6 (wk.setCell ⟨CB, ot, none⟩ (.bool false))) := Lib.hid (HM3.out.setCell (p := ⟨CB, ot, none⟩) (.inl rfl) _)
                        clear hot hv HC3 HM3
                        go_wp2_with fail
                        go_roundw
                        case rel => exact ⟨t + 1, by omega, by rw [← Nat.add_assoc, ← HOT.out]; go_num, by rw [← Nat.add_assoc, ← HOT.out]; exact HC4, HM4⟩
                        case measure => simp [intOf]; omega
                      · have HOT : Hid (ot = o2) := Lib.hid (by have := HOS2.out; omega)
                        have hote : ((ot : Int) < (oe : Int)) = False := by simp; omega
                        clear hot
                        go_wp2_with fail
                        go_roundw
                        case rel => exact ⟨j + 1, by omega, by go_num, by rw [← HO2.out, HOS2.out]; go_num, by rw [← HO2.out, ← HOT.out]; exact HC3, HM3⟩
                        case measure => simp [intOf]; omega
                  · subst h2
                    have hbf : bv = true := by rw [hbv]; simp; omega
                    have h1x : ((x : Int) == 1) = false := by simp; omega
                    have h1y : (1 : Int) < (x : Int) := by omega
                    rw [hbf] at HVAL
                    clear hx hbv hbf
                    go_wp2_with fail
                    go_loopw [24] (fun i wr => ∃ t : Nat, t ≤ dd ∧ i = .int .i64 ((o + t : Nat) : Int) ∧ Hid (Arr wr 4 CB (fillV ((unst wv ws).map Value.bool) (.bool false) (o + t))) ∧ Hid (Mod (· = CB) W6 wr)) (fun i _ => oe - (intOf i).toNat)
                    case atStart => exact ⟨0, Nat.zero_le _, rfl, HC, HMC⟩
                    case round =>
                      obtain ⟨t, ht, rfl, HC3, HM3⟩ := hrel
                      obtain ⟨wk, hwk⟩ : ∃ wk, wk = wr := ⟨_, rfl⟩
                      rw [← hwk] at HC3 HM3 ⊢
                      clear hwk
                      obtain ⟨ot, hot⟩ : ∃ ot, ot = o + t := ⟨_, rfl⟩
                      rw [← hot] at HC3 ⊢
                      by_cases hlt4 : t < dd
                      · have hote : (ot : Int) < (oe : Int) := by omega
                        have hv := HVAL.out t hlt4
                        rw [← hot] at hv
                        have HOT := Lib.hid hot
                        have hot0 : (0 : Int) ≤ (ot : Int) := by omega
                        have hotT : (ot : Int) < (T : Int) := by omega
                        have hotb : ot < 60000 := by omega
                        have hfr := HC3.out.free ot
                        have hcl := HC3.out.cell? ot
                        rw [fillV_at _ _ _ (by rw [List.length_map, ← HT.out]; omega)] at hcl
                        have HC4 : Hid (Arr (wk.setCell ⟨CB, ot, none⟩ (.bool true)) 4 CB (fillV ((unst wv ws).map Value.bool) (.bool false) (ot + 1))) := Lib.hid (by rw [← fillV_set _ _ _ _ hv.2]; exact HC3.out.set_ ot _)
                        have HM4 : Hid (Mod (· = CB) W6 (wk.setCell ⟨CB, ot, none⟩ (.bool true))) := Lib.hid (HM3.out.setCell (p := ⟨CB, ot, none⟩) (.inl rfl) _)
                        clear hot hv HC3 HM3
                        go_wp2_with fail
                        go_roundw
                        case rel => exact ⟨t + 1, by omega, by rw [← Nat.add_assoc, ← HOT.out]; go_num, by rw [← Nat.add_assoc, ← HOT.out]; exact HC4, HM4⟩
                        case measure => simp [intOf]; omega
                      · have HOT : Hid (ot = o2) := Lib.hid (by have := HOS2.out; omega)
                        have hote : ((ot : Int) < (oe : Int)) = False := by simp; omega
                        clear hot
                        go_wp2_with fail
                        go_roundw
                        case rel => exact ⟨j + 1, by omega, by go_num, by rw [← HO2.out, HOS2.out]; go_num, by rw [← HO2.out, ← HOT.out]; exact HC3, HM3⟩
                        case measure => simp [intOf]; omega
                · have hlen := hul.2 hst
                  rw [hlen] at hos HUAT
                  have HOS2 := Lib.hid hos
                  have h1x : ((x : Int) == 1) = false := by simp; omega
                  have h2x : ((x : Int) == (P2 : Int)) = false := by simp; omega
                  have HNST := Lib.hid hst
                  have HVAL : Hid (∀ t, t < wv → o + t < T ∧ ((unst wv ws).map Value.bool)[o + t]? = some (.bool (x.testBit (dd - t)))) := Lib.hid (fun t ht => by
                    have h5 := HUAT.out t ht
                    rw [HUBT.out t HNST.out ht] at h5
                    exact h5)
                  have hxb : x < 4096 := by omega
                  clear hul hlen hos HUAT HUST HUBT hst
                  go_wp2_with fail
                  go_loopw [20, 25] (fun o3 i wr => ∃ t : Nat, t ≤ wv ∧ i = .int .i64 ((wv : Int) - 1 - (t : Int)) ∧ o3 = .int .i64 ((o + t : Nat) : Int) ∧ Hid (Arr wr 4 CB (fillV ((unst wv ws).map Value.bool) (.bool false) (o + t))) ∧ Hid (Mod (· = CB) W6 wr)) (fun _ i _ => (intOf i + 1).toNat)
                  case atStart => exact ⟨0, Nat.zero_le _, by rw [← hdd1]; simp, rfl, HC, HMC⟩
                  case round =>
                    obtain ⟨t, ht, rfl, rfl, HC3, HM3⟩ := hrel
                    obtain ⟨wk, hwk⟩ : ∃ wk, wk = wr := ⟨_, rfl⟩
                    rw [← hwk] at HC3 HM3 ⊢
                    clear hwk
                    by_cases hlt4 : t < wv
                    · obtain ⟨b, hb⟩ : ∃ b, b = wv - 1 - t := ⟨_, rfl⟩
                      have hb1 : (wv : Int) - 1 - (t : Int) = (b : Int) := by omega
                      rw [hb1]
                      have hb0 : (0 : Int) ≤ (b : Int) := by omega
                      have hb12 : b < 12 := by omega
                      have hv := HVAL.out t hlt4
                      rw [show dd - t = b by omega] at hv
                      obtain ⟨p, hp⟩ : ∃ p, p = 2 ^ b := ⟨_, rfl⟩
                      have hpi : (2 : Int) ^ b = (p : Int) := by rw [hp]; simp
                      have hpb : p ≤ 4096 := by rw [hp]; exact Nat.pow_le_pow_right (n := 2) (i := b) (j := 12) (by omega) (by omega)
                      have hp0 : 0 < p := by rw [hp]; exact Nat.two_pow_pos _
                      have hand := i64_and x p (by omega) (by omega)
                      obtain ⟨y, hy⟩ : ∃ y, y = x &&& p := ⟨_, rfl⟩
                      rw [← hy] at hand
                      obtain ⟨tb, htb⟩ : ∃ tb, tb = x.testBit b := ⟨_, rfl⟩
                      rw [← htb] at hv
                      have hyv : ((y : Int) != 0) = tb := by
                        rw [hy, hp, and_pow, ← htb, ← hp]
                        cases tb
                        · rfl
                        · simp; omega
                      have hyv2 : ((y : Int) == 0) = !tb := by
                        rw [← hyv]; simp [bne]
                      obtain ⟨ot, hot⟩ : ∃ ot, ot = o + t := ⟨_, rfl⟩
                      rw [← hot] at hv HC3 ⊢
                      have HOT := Lib.hid hot
                      have hot0 : (0 : Int) ≤ (ot : Int) := by omega
                      have hotT : (ot : Int) < (T : Int) := by omega
                      have hotb : ot < 60000 := by omega
                      have hfr := HC3.out.free ot
                      have hcl := HC3.out.cell? ot
                      rw [fillV_at _ _ _ (by rw [List.length_map, ← HT.out]; omega)] at hcl
                      have HC4 : Hid (Arr (wk.setCell ⟨CB, ot, none⟩ (.bool tb)) 4 CB (fillV ((unst wv ws).map Value.bool) (.bool false) (ot + 1))) := Lib.hid (by rw [← fillV_set _ _ _ _ hv.2]; exact HC3.out.set_ ot _)
                      have HM4 : Hid (Mod (· = CB) W6 (wk.setCell ⟨CB, ot, none⟩ (.bool tb))) := Lib.hid (HM3.out.setCell (p := ⟨CB, ot, none⟩) (.inl rfl) _)
                      have HBB := Lib.hid hb
                      clear hb hb1 hp hy htb hot hv HC3 HM3
                      go_wp2_with fail
                      go_roundw
                      case rel => exact ⟨t + 1, by omega, by have := HBB.out; go_num, by rw [← Nat.add_assoc, ← HOT.out]; go_num, by rw [← Nat.add_assoc, ← HOT.out]; exact HC4, HM4⟩
                      case measure => simp [intOf]
                    · obtain rfl : t = wv := by omega
                      have hneg : ((0 : Int) ≤ (t : Int) - 1 - (t : Int)) = False := by simp; omega
                      go_wp2_with fail
                      go_roundw
                      case rel => exact ⟨j + 1, by omega, by go_num, by rw [← HO2.out, HOS2.out], by rw [← HO2.out, HOS2.out]; exact HC3, HM3⟩
                      case measure => simp [intOf]; omega
              · obtain rfl : j = k := by omega
                have hji : ((j : Int) < (j : Int)) = False := by simp
                obtain ⟨h100, hh1⟩ : ∃ h, h = 100 * M := ⟨_, rfl⟩
                have hh2 : (100 : Int) * (M : Int) = (h100 : Int) := by omega
                obtain ⟨eq, heq⟩ : ∃ eq, eq = h100 / q := ⟨_, rfl⟩
                have heq1 : (h100 : Int).tdiv (q : Int) = (eq : Int) := by rw [Int.tdiv_eq_ediv_of_nonneg (by omega), heq]; simp
                have heq2 : (h100 : Int) / (q : Int) = (eq : Int) := by rw [heq]; simp
                have heqb : eq ≤ 500000 := by rw [heq]; exact Nat.le_trans (Nat.div_le_self _ _) (by omega)
                have hCF := HC.out
                rw [HMANY.out, offU_all] at hCF
                have HLV : Hid (0 < T → eq < 100) := Lib.hid (fun h0 => by
                  have h1 : 0 < ws.length := by
                    rcases Nat.eq_zero_or_pos ws.length with h9 | h9
                    · rw [List.length_eq_zero_iff] at h9
                      rw [HT.out, h9] at h0; simp [unst] at h0
                    · exact h9
                  rw [← HMANY.out] at h1
                  rw [heq, hh1, HMQ.out]
                  refine (Nat.div_lt_iff_lt_mul (by omega)).2 ?_
                  omega)
                have hml : ((unst wv ws).map Value.bool).length = (unst wv ws).length := by rw [List.length_map]
                rw [← hml, fillV_all] at hCF
                have HCF := Lib.hid hCF
                have HBF : Hid (Below w.heap.size w wj2) := Lib.hid (HB6.out.trans (HMC.out.below HB6.out.size (fun k hk => by rw [hk]; exact HCBw.out)))
                clear hh1 heq hCF hml HC HMC
                go_wp2_with fail
                go_ret2
                refine ⟨wj2.heap.size, some ⟨CB, 0, none⟩, T, rfl, ?_, by rw [← HT.out]; exact Nat.le_refl _, ?_, HBF.out.alloc HBF.out.size _, eq, ?_, by rw [← HT.out]; exact HLV.out⟩
                · rw [← HT.out, World.cell?_alloc_at _ _ _ _ rfl]; rfl
                · have h5 := (HCF.out.rd (fun j => .bool (nthB (unst wv ws) j)) (fun j hj => bools_at (by simpa using hj))).alloc (.cells #[.slice (some ⟨CB, 0, none⟩) T T, .int .i64 eq] 91)
                  rwa [List.length_map] at h5
                · rw [World.cell?_alloc_at _ _ _ _ rfl]; rfl

def Corr2Post (U : List Bool) (w : World) (e : Ending) (w' : World) : Prop :=
  ∃ A c, e = .returned (.tuple #[.slice A U.length c, .nilIface]) ∧ U.length ≤ c ∧ Rd w' A U.length (fun j => .bool (nthB U j)) ∧ Below w.heap.size w w'
theorem errIfaceO : Tryz.prog.underlying 44 = some (.interface (Tryz.prog.methodsAt 44)) := by kernel_rfl

def Corr3Post (U : List Bool) (w : World) (e : Ending) (w' : World) : Prop :=
  ∃ A c, e = .returned (.tuple #[.slice A U.length c, .bool true]) ∧ U.length ≤ c ∧ Rd w' A U.length (fun j => .bool (nthB U j)) ∧ Below w.heap.size w w'
end Go.Proofs.YtiielblnmfeapaaGreatDoor
