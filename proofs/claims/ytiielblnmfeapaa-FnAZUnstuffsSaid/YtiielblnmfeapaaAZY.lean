/-
  The statement FnAZUnstuffs, walked. No condition.
-/
import Derived.Test.YtiielblnmfeapaaAZJ
import Derived.Test.YtiielblnmfeapaaAZO
import Derived.Test.YtiielblnmfeapaaAZR
import Derived.Test.YtiielblnmfeapaaRSG9
namespace Go.Proofs.Ytiielblnmfeapaa
open Go.RowKit Go.Qz Go.Qz.RS
set_option linter.unusedVariables false

theorem nth_takeY {l : List Nat} {m i : Nat} (h : i < m) : nth (l.take m) i = nth l i := by
  unfold nth; rw [List.getD_eq_getElem?_getD, List.getD_eq_getElem?_getD, List.getElem?_take, if_pos h]
theorem layOf_le (c : Bool) (n : Nat) : layOf c n ≤ 32 := by
  unfold layOf
  cases c
  · simp; omega
  · simp; omega
/-- The first k of some bits are others. -/
def ahead (a : Bool) (r k : Nat) (rest : List Bool) : List Bool := List.replicate k a ++ (List.replicate (r - k) false ++ rest)
theorem ahead_set (a : Bool) (r k : Nat) (rest : List Bool) (hk : k < r) : (ahead a r k rest).set k a = ahead a r (k + 1) rest := by
  unfold ahead
  rw [List.set_append, List.length_replicate, if_neg (by omega), Nat.sub_self, show r - k = (r - (k + 1)) + 1 by omega, List.replicate_succ, List.cons_append, List.set_cons_zero, List.replicate_succ', List.append_assoc]
  rfl
theorem ahead_len (a : Bool) (r k : Nat) (rest : List Bool) (hk : k ≤ r) : (ahead a r k rest).length = r + rest.length := by
  unfold ahead; simp; omega
/-- A row of the call's own, as a block. -/
theorem own_block {w : World} {base : Nat} {e : TypeId} {v : Value} {n : Nat} {xs : List Value} (h : w.ownsRow base e 1 v n xs) (hn : 0 < n) : ∃ g c spare, v = .slice (some ⟨g, 0, none⟩) n c ∧ n ≤ c ∧ c ≤ maxLen ∧ base ≤ g ∧ g < w.heap.size ∧ Arr w e g (xs ++ spare) := by
  rcases h.2 with ⟨_, h0⟩ | ⟨g, cap, cur, rfl, hlb, hcur, hncap, hcm, hcsz, htk⟩
  · omega
  · refine ⟨g, cap, cur.toList.drop n, rfl, hncap, hcm, hlb, (Array.getElem?_eq_some_iff.1 hcur).1, ?_⟩
    rw [Nat.mul_one] at htk
    have hcl : cur.toList = xs ++ cur.toList.drop n := by rw [← htk, List.take_append_drop]
    unfold Arr
    rw [hcur, ← hcl, Array.toArray_toList]
theorem bools_atS {l : List Bool} (spare : List Value) {j : Nat} (h : j < l.length) : (l.map Value.bool ++ spare)[j]? = some (.bool (nthB l j)) := by
  rw [List.getElem?_append_left (by simpa using h), bools_at h]

set_option maxRecDepth 100000 in
set_option maxHeartbeats 12800000 in
theorem fnAZUnstuffs (w : World) (A : Option Addr) (n c : Nat) (z : Nat → Int) (hnc : n ≤ c) (hcm : c ≤ maxLen) (hz : ∀ j, j < n → (Lit.int .u8 (z j)).wf = true) (h : Rd w A n (fun j => .int .u8 (z j))) (cm : Bool) (b : Int) (hb : (Lit.int .u8 b).wf = true)
    (A1 : Option Addr) (n1 c1 : Nat) (z1 : Nat → Int) (hnc1 : n1 ≤ c1) (hcm1 : c1 ≤ maxLen) (hz1 : ∀ j, j < n1 → (Lit.int .u16 (z1 j)).wf = true) (h1 : Rd w A1 n1 (fun j => .int .u16 (z1 j)))
    (A2 : Option Addr) (n2 c2 : Nat) (z2 : Nat → Int) (hnc2 : n2 ≤ c2) (hcm2 : c2 ≤ maxLen) (hz2 : ∀ j, j < n2 → (Lit.int .u16 (z2 j)).wf = true) (h2 : Rd w A2 n2 (fun j => .int .u16 (z2 j))) (ah : Bool) :
    Calls Try.prog 3 #[.slice A n c, .bool cm, .int .u8 b, .slice A1 n1 c1, .slice A2 n2 c2, .bool ah] w fun e w' => e = .returned (.bool true) ∧ Below w.heap.size w w' := by
  unfold maxLen at hcm
  by_cases hbig : (2147483647 : Int) < n
  · clear hz h hb hz1 h1 hz2 h2
    go_enter Try.func3, Try.ntmps3
    go_wp2_with fail
    go_ret
    exact ⟨rfl, Below.refl _ _⟩
  by_cases hbig1 : (2147483647 : Int) < n1
  · clear hz h hb hz1 h1 hz2 h2
    go_enter Try.func3, Try.ntmps3
    go_wp2_with fail
    go_ret
    exact ⟨rfl, Below.refl _ _⟩
  by_cases hbig2 : (2147483647 : Int) < n2
  · clear hz h hb hz1 h1 hz2 h2
    go_enter Try.func3, Try.ntmps3
    go_wp2_with fail
    go_ret
    exact ⟨rfl, Below.refl _ _⟩
  obtain ⟨bn, rfl⟩ : ∃ bn : Nat, b = (bn : Int) := ⟨b.toNat, by have := bd_u8 hb; omega⟩
  have hbn : bn < 256 := by have := bd_u8 hb; omega
  have HZ1 := Lib.hid (fun j hj => bd_u16 (hz1 j hj))
  have HZ2 := Lib.hid (fun j hj => bd_u16 (hz2 j hj))
  have HR1 := Lib.hid h1
  have HR2 := Lib.hid h2
  obtain ⟨zn, hzn⟩ : ∃ zn : Nat → Nat, zn = fun j => (z j).toNat := ⟨_, rfl⟩
  have hzb : ∀ j, j < n → zn j < 256 := fun j hj => by
    rw [hzn]; have := bd_u8 (hz j hj); show (z j).toNat < 256; omega
  have hr : Rd w A n (fun j => .int .u8 (zn j : Nat)) := h.congr fun j hj => by
    rw [hzn]; have := bd_u8 (hz j hj); show _ = Value.int .u8 (((z j).toNat : Nat) : Int); rw [show (((z j).toNat : Nat) : Int) = z j by omega]
  have HRC := Lib.hid hr
  have HZB := Lib.hid hzb
  obtain ⟨l, hl⟩ : ∃ l, l = layOf cm bn := ⟨_, rfl⟩
  have hl32 : l ≤ 32 := by rw [hl]; exact layOf_le _ _
  have HLAY := azLayers cm bn hbn w
  rw [← hl] at HLAY
  have HLAY := Lib.hid HLAY
  have HAW := Lib.hid (fun W => azWidth l (by omega) W)
  have HAB := Lib.hid (fun W => azBits cm l hl32 W)
  have HSYM := Lib.hid (azSymbol zn n cm l hl32 A c hnc (by omega) (by omega) hzb w hr)
  clear hz h hb hz1 h1 hz2 h2 hzn hzb hr hl hbn hnc1 hcm1 hnc2 hcm2
  go_enter Try.func3, Try.ntmps3
  go_wp2_with fail
  refine HLAY.out.mono ?_
  rintro e w1 ⟨rfl, rfl⟩
  go_wp2_with fail
  refine HSYM.out.mono ?_
  rintro e w1 ⟨v, m, T, bv, rfl, hsym, hb1⟩
  obtain ⟨sT, hsT⟩ : ∃ sT, sT = strB T := ⟨_, rfl⟩
  rw [← hsT]
  have HB1 := Lib.hid hb1
  cases bv with
  | false =>
    clear hsym hb1 hsT
    go_wp2_with fail
    go_ret
    exact ⟨rfl, HB1.out⟩
  | true =>
    obtain ⟨bits, ws, L, hS, hm, hO⟩ := hsym rfl
    obtain ⟨wv, hwv⟩ : ∃ wv, wv = wOf l := ⟨_, rfl⟩
    obtain ⟨F, hF⟩ : ∃ F, F = fdOf wv := ⟨_, rfl⟩
    have hcs : wv = 6 ∨ wv = 8 ∨ wv = 10 ∨ wv = 12 := by rw [hwv]; exact wOf_cases l
    obtain ⟨hsx, hFs⟩ : Six F ∧ F.size = 2 ^ wv := by rw [hF]; exact fdOf_six hcs
    obtain ⟨al, hal⟩ : ∃ al, al = allOf cm l := ⟨_, rfl⟩
    obtain ⟨hal1, hal2⟩ := allOf_ok cm l (by omega)
    obtain ⟨bi, hbi⟩ : ∃ bi, bi = bitsIn cm l := ⟨_, rfl⟩
    have hal3 : al = bi / wv := by rw [hal, hbi, hwv]; rfl
    have hbib : bi ≤ 624 * 32 := by rw [hbi]; exact bitsIn_le _ _ hl32
    rw [← hal, ← hwv, ← hFs] at hal2
    rw [← hal] at hal1
    have HS := Lib.hid hS
    have hcode := hS.code
    have hroom := hS.room
    have hpos := hS.pos
    rw [← hal, ← hwv, ← hF, ← hm] at hcode
    rw [← hal, ← hm] at hroom
    rw [← hm] at hpos
    have HC := Lib.hid hcode
    have hLl : L.length = al := by rw [hcode.len, ← hm]; omega
    obtain ⟨A3, c3, rfl, hc3, hr3⟩ := OwnI.rd hO
    rw [hLl] at hc3 hr3 ⊢
    have HR3 := Lib.hid hr3
    have HLL := Lib.hid hLl
    have HM := Lib.hid hm
    obtain ⟨r, hre⟩ : ∃ r, r = bi % wv := ⟨_, rfl⟩
    have hrw : r < wv := by rw [hre]; exact Nat.mod_lt _ (by omega)
    have hbi2 : bi = r + al * wv := by rw [hre, hal3]; have := Nat.mod_add_div bi wv; rw [Nat.mul_comm] at this; omega
    have HBI := Lib.hid hbi2
    obtain ⟨mo, hmo⟩ : ∃ mo, mo = (al - m) / 2 := ⟨_, rfl⟩
    obtain ⟨df, hdf⟩ : ∃ df, df = al - m := ⟨_, rfl⟩
    have hdf1 : (al : Int) - (m : Int) = (df : Int) := by omega
    rw [← hdf] at hmo
    have hmo1 : (df : Int) / 2 = (mo : Int) := by omega
    have hmo2 : (df : Int).tdiv 2 = (mo : Int) := by rw [Int.tdiv_eq_ediv_of_nonneg (by omega)]; omega
    have hw0 : ¬ (wv : Int) = 0 := by omega
    have hw00 : ¬ wv = 0 := by omega
    have er : (bi : Int).tmod (wv : Int) = (r : Int) := by rw [Int.tmod_eq_emod_of_nonneg (by omega), hre]; simp
    have er2 := fun W => rem_runK (bi : Int) (wv : Int) (r : Int) hw0 er W
    have HW := Lib.hid (And.intro hwv hF)
    have HCS := Lib.hid hcs
    have HF := Lib.hid (And.intro hsx hFs)
    have HAF := Lib.hid (fun W => azField wv hcs W)
    rw [← hF] at HAF
    rw [← hwv] at HAW
    rw [← hbi] at HAB
    have HMO := Lib.hid hmo
    have HDF := Lib.hid hdf
    have HALL := Lib.hid (And.intro hal hal2)
    have HBIE := Lib.hid hbi
    have hmo3 : mo ≤ 5000 := by omega
    have HEL : Hid (El F L) := Lib.hid hcode.el
    have hsz1 := hb1.size
    have HSZ1 := Lib.hid hsz1
    clear hsym hb1 hsT hS hcode hO hr3 hLl hre hbi2 hmo hdf hwv hF hcs hsx hFs hal hal2 hal3 hbi hm HSYM HLAY hsz1
    go_wp2_with fail
    refine (HAW.out _).mono ?_
    rintro e w2 ⟨rfl, rfl⟩
    go_wp2_with fail
    refine (HAF.out _).mono ?_
    rintro e w2 ⟨rfl, hb2⟩
    have HB2 := Lib.hid (HB1.out.trans (hb2.mono HB1.out.size))
    have HR4 := Lib.hid (HR3.out.below hb2)
    have HH := Lib.hid (rsHurt F HF.out.1 L al HEL.out HLL.out.symm (by omega) (by omega) mo hmo3 A3 A1 A2 c3 n1 c1 n2 c2 z1 z2 (by omega) (by omega) HZ1.out HZ2.out w2 HR4.out (HR1.out.below HB2.out) (HR2.out.below HB2.out))
    clear hb2
    go_wp2_with fail
    refine HH.out.mono ?_
    rintro e w3 ⟨R, H, A4, c4, rfl, hs4, hRl, hRe, hHl, hdiff, hb3⟩
    have HB3 := Lib.hid (HB2.out.trans (hb3.mono HB2.out.size))
    have HR5 := Lib.hid (HR4.out.below hb3)
    obtain ⟨J, Y, nd, hJl, hJn, hYl, hY0, hrcv⟩ := rcv_of HF.out.1 (L := L) (R := R) (H := H) HEL.out hRe (by rw [hRl, HLL.out]) (fun k hk hm => hdiff k (by rw [← HLL.out]; exact hk) hm)
    have HSENT : Hid (Sent F (al - m) al L R J Y) := Lib.hid (by
      have h5 := HDF.out
      have h6 := HMO.out
      have h7 := HALL.out.2
      exact ⟨by omega, by omega, by omega, hYl, hY0, HEL.out, hRe, nd, hJn, by omega, HLL.out.symm, by omega, by omega, HC.out.root, hrcv⟩)
    have hrd4 := hs4.rd
    rw [hRl] at hrd4
    have HRL := Lib.hid hRl
    have hRb : ∀ j, nth R j < 2 ^ wv := fun j => by rw [← HF.out.2]; exact hRe j
    have HRB := Lib.hid hRb
    have h212 : 2 ^ wv ≤ 4096 := Nat.pow_le_pow_right (n := 2) (i := wv) (j := 12) (by omega) (by have := HCS.out; omega)
    have HWB := azWordBits cm l hl32 R (fun j => by have := hRb j; omega) (by rw [hRl]; omega) A4 c4 w3 (by rw [hRl]; exact hrd4)
    rw [← HBIE.out, ← HW.out.1, hRl] at HWB
    have HWB := Lib.hid HWB
    clear hs4 hRl hRe hHl hdiff hb3 nd hJl hJn hYl hY0 hrcv hrd4 hRb h212 HH HR4 HR3 HEL HAF HMO
    go_wp2_with fail
    refine HWB.out.mono ?_
    rintro e w4 ⟨v4, rfl, hO4, hb4⟩
    have hrr : bi % wv = r := by rw [HBI.out, Nat.add_mul_mod_self_right, Nat.mod_eq_of_lt hrw]
    rw [hrr] at hO4
    have HB4 := Lib.hid (HB3.out.trans (hb4.mono HB3.out.size))
    have HR6 := Lib.hid (HR5.out.below hb4)
    obtain ⟨rest, hrest⟩ : ∃ rest, rest = R.flatMap (bitsOf · wv) := ⟨_, rfl⟩
    rw [← hrest] at hO4
    have hrl : rest.length = al * wv := by rw [hrest, flat_len, HRL.out, Nat.mul_comm]
    have hll : (List.replicate r false ++ rest).length = bi := by rw [List.length_append, List.length_replicate, hrl, HBI.out]
    rw [hll] at hO4
    have hbipos : 0 < bi := by
      have h5 := HBI.out
      have h6 : 1 * 1 ≤ al * wv := Nat.mul_le_mul (by omega) (by omega)
      omega
    obtain ⟨g, cg, spare, rfl, hcg, hcgm, hgb, hgl, hArr⟩ := own_block hO4 hbipos
    have HARR : Hid (Arr w4 4 g ((ahead ah r 0 rest).map Value.bool ++ spare)) := Lib.hid (by unfold ahead; simpa using hArr)
    have HREST := Lib.hid (And.intro hrest hrl)
    have HGB := Lib.hid hgb
    have HGA : Hid (∀ a, A3 = some a → a.block < g) := Lib.hid (fun a ha => by
      obtain ⟨b9, o9, e9, hb9, _⟩ := HR5.out (by omega)
      rw [ha] at e9
      injection e9 with e9
      rw [e9]; exact Nat.lt_of_lt_of_le hb9 hgb)
    clear hO4 hb4 hrr hrest hrl hll hArr hgb hcgm HWB HR5
    go_wp2_with fail
    go_loopw [21] (fun i wr => ∃ k : Nat, k ≤ r ∧ i = .int .i64 k ∧ Hid (Arr wr 4 g ((ahead ah r k rest).map Value.bool ++ spare)) ∧ Hid (Mod (· = g) w4 wr)) (fun i _ => r - (intOf i).toNat)
    case atStart => exact ⟨0, Nat.zero_le _, rfl, HARR, Lib.hid (Mod.refl _)⟩
    case round =>
      obtain ⟨k, hk, rfl, HA, HMD⟩ := hrel
      clear HARR
      obtain ⟨wi, hwi⟩ : ∃ wi, wi = wr := ⟨_, rfl⟩
      rw [← hwi] at HA HMD ⊢
      clear hwi
      by_cases hlt : k < r
      · have hkr : (k : Int) < (r : Int) := by omega
        have hk0 : (0 : Int) ≤ (k : Int) := by omega
        have hkb : (k : Int) < (bi : Int) := by have := HBI.out; omega
        have hfr := HA.out.free k
        have hcl := HA.out.cell? k
        rw [bools_atS _ (by rw [ahead_len _ _ _ _ hk]; omega)] at hcl
        obtain ⟨old, hold⟩ : ∃ old, old = nthB (ahead ah r k rest) k := ⟨_, rfl⟩
        rw [← hold] at hcl
        have HA2 : Hid (Arr (wi.setCell ⟨g, k, none⟩ (.bool ah)) 4 g ((ahead ah r (k + 1) rest).map Value.bool ++ spare)) := Lib.hid (by
          have h5 := HA.out.set_ k (.bool ah)
          rw [List.set_append, if_pos (by rw [List.length_map, ahead_len _ _ _ _ hk]; omega), ← List.map_set, ahead_set _ _ _ _ hlt] at h5
          exact h5)
        have HM2 : Hid (Mod (· = g) w4 (wi.setCell ⟨g, k, none⟩ (.bool ah))) := Lib.hid (HMD.out.setCell (p := ⟨g, k, none⟩) (.inl rfl) _)
        clear hold HA HMD
        go_wp2_with fail
        refine (HAB.out _).mono ?_
        rintro e w5 ⟨rfl, rfl⟩
        go_wp2_with fail
        go_roundw
        case rel => exact ⟨k + 1, by omega, by go_num, HA2, HM2⟩
        case measure => simp [intOf]; omega
      · obtain rfl : k = r := by omega
        have hkr : ((k : Int) < (k : Int)) = False := by simp
        have HBI4 : Hid (Below w.heap.size w wi) := Lib.hid (HB4.out.trans (HMD.out.below HB4.out.size (fun j hj => by rw [hj]; have := HGB.out; have := HB3.out.size; omega)))
        have HR7 : Hid (Rd wi A3 al (fun j => .int .i64 (nth L j : Nat))) := Lib.hid (Mod.rd HR6.out HMD.out (fun a ha hh => by have := HGA.out a ha; omega))
        obtain ⟨BB, hBB⟩ : ∃ BB, BB = ahead ah k k rest := ⟨_, rfl⟩
        have hBBl : BB.length = bi := by rw [hBB, ahead_len _ _ _ _ (Nat.le_refl _), HREST.out.2, HBI.out]
        have hBBe : BB = List.replicate k ah ++ R.flatMap (bitsOf · wv) := by rw [hBB, ← HREST.out.1]; unfold ahead; simp
        have hrdB : Rd wi (some ⟨g, 0, none⟩) bi (fun j => .bool (nthB BB j)) := fun _ => ⟨g, 0, rfl, HA.out.lt, fun j hj => by
          rw [Nat.zero_add, HA.out.cell?, ← hBB, bools_atS _ (by rw [hBBl]; exact hj)]⟩
        have hread : ∀ i, i < al → vl BB (k + i * wv) wv = nth R i := fun i hi => by
          have h5 := vl_word (List.replicate k ah) R wv HRB.out i (by rw [HRL.out]; exact hi)
          rw [← hBBe, List.length_replicate] at h5
          exact h5
        have hwsx : ∀ i, i < m → nth L i = nth ws i ∧ 0 < nth ws i ∧ nth ws i < 2 ^ wv - 1 := fun i hi => by
          obtain ⟨kk, hst, _, _⟩ := HS.out.stuff
          rw [← HW.out.1] at hst
          have h4 := (hst.un (by have := HCS.out; omega)).2.2.2
          have hi2 : i < ws.length := by rw [← HM.out]; exact hi
          have h6 := h4 (nth ws i) (by rw [nth_eq hi2]; exact List.getElem_mem hi2)
          refine ⟨?_, h6⟩
          have h7 := HC.out.pre
          rw [← h7, nth_takeY (by rw [← HM.out]; exact hi)]
        have HCOR := Lib.hid (azCorrected l wv HW.out.1 hl32 cm F HW.out.2 BB bi al k m hBBl.symm HBI.out (by omega) hrw L R J ws Y HSENT.out hread HM.out hroom hwsx (some ⟨g, 0, none⟩) cg wi hrdB)
        have HWSX := Lib.hid hwsx
        clear hBB hBBl hBBe hrdB hread hwsx HA HMD HR6 HB4 hk hlt
        go_wp2_with fail
        refine (HAB.out _).mono ?_
        rintro e w5 ⟨rfl, rfl⟩
        go_wp2_with fail
        refine HCOR.out.mono ?_
        rintro e w5 ⟨A5, c5, rfl, hc5, hr5, hb5⟩
        have HR8 := Lib.hid hr5
        have HR9 := Lib.hid (HR7.out.below hb5)
        have HB5 := Lib.hid (HBI4.out.trans (hb5.mono HBI4.out.size))
        have HWR2 := Lib.hid (azWrite A n c zn 150 (by omega) hnc (by omega) (by omega) HZB.out w5 (HRC.out.below HB5.out))
        obtain ⟨U, hU⟩ : ∃ U, U = unst wv ws := ⟨_, rfl⟩
        rw [← hU] at HR8 ⊢
        obtain ⟨ul, hul⟩ : ∃ ul, ul = U.length := ⟨_, rfl⟩
        have HUE := Lib.hid (And.intro hU hul)
        rw [← hul] at HR8 ⊢
        clear hr5 hb5 hc5 hU hul HCOR HR7 HBI4
        go_wp2_with fail
        refine HWR2.out.mono ?_
        rintro e w6 ⟨v6, bits6, T6, ms6, mode6, rfl, hO6, _, _, _, _, _, hb6, hW6⟩
        have hbe : bits6 = bits := hW6.uniq HS.out.wrote
        subst hbe
        obtain ⟨A6, c6, rfl, hc6, hcm6, hr6⟩ := Rd.of_own hO6
        have hr62 : Rd w6 A6 bits6.length (fun j => .bool (nthB bits6 j)) := hr6.congr (fun j hj => by
          rw [List.getD_eq_getElem?_getD, List.getElem?_map, nthB_eq hj, List.getElem?_eq_getElem hj]; rfl)
        have HR10 := Lib.hid hr62
        have HR11 := Lib.hid (HR8.out.below hb6)
        have HR12 := Lib.hid (HR9.out.below hb6)
        have HB6 := Lib.hid (HB5.out.trans (hb6.mono HB5.out.size))
        obtain ⟨sT6, hsT6⟩ : ∃ sT, sT = strB T6 := ⟨_, rfl⟩
        rw [← hsT6]
        obtain ⟨b6, hb6l⟩ : ∃ b6, b6 = bits6.length := ⟨_, rfl⟩
        have HB6L := Lib.hid hb6l
        rw [← hb6l] at HR10 ⊢
        have hUNr : Rd w6 A3 m (fun j => .int .i64 (nth ws j : Nat)) := fun h0 => by
          obtain ⟨b9, o9, e9, hb9, hc9⟩ := HR12.out (by omega)
          exact ⟨b9, o9, e9, hb9, fun j hj => (hc9 j (by omega)).trans (by dsimp only; rw [(HWSX.out j hj).1])⟩
        have hUN := fun c' => azUnstuffed wv HCS.out ws (fun j => by
          by_cases hj : j < m
          · have h5 := (HWSX.out j hj).2.2
            have h212 : 2 ^ wv ≤ 4096 := Nat.pow_le_pow_right (n := 2) (i := wv) (j := 12) (by omega) (by have := HCS.out; omega)
            omega
          · rw [nth_past (by rw [← HM.out]; omega)]; omega) (by rw [← HM.out]; omega) A3 c' w6 (by rw [← HM.out]; exact hUNr)
        rw [← HM.out, ← HUE.out.1] at hUN
        have HUN := Lib.hid hUN
        have hmc : (m : Int) ≤ (c3 : Int) := by omega
        have hm0 : (0 : Int) ≤ (m : Int) := by omega
        clear hO6 hb6 hW6 hr6 hr62 hsT6 hb6l hUNr hUN hc6 hcm6 HWR2 HR8 HR9
        go_wp2_with fail
        refine (HUN.out _).mono ?_
        rintro e w7 ⟨v7, rfl, hO7, hb7⟩
        obtain ⟨A7, c7, rfl, hc7, hcm7, hr7⟩ := Rd.of_own hO7
        have hr72 : Rd w7 A7 U.length (fun j => .bool (nthB U j)) := hr7.congr (fun j hj => by
          rw [List.getD_eq_getElem?_getD, List.getElem?_map, nthB_eq hj, List.getElem?_eq_getElem hj]; rfl)
        rw [← HUE.out.2] at hr72 ⊢
        have hulb : ul < 100000 := by
          rw [HUE.out.2, HUE.out.1]
          have h5 := offU_bd (show 4 ≤ wv by have := HCS.out; omega) ws ws.length (Nat.le_refl _)
          rw [offU_all] at h5
          have h6 : wv * ws.length ≤ 12 * 1664 := Nat.mul_le_mul (by have := HCS.out; omega) (by rw [← HM.out]; omega)
          omega
        have HSAME := Lib.hid (biSameBits (nthB U) A5 A7 ul c5 c7 (by omega) w7 (HR11.out.below hb7) hr72)
        have HR13 := Lib.hid (HR11.out.below hb7)
        have HR14 := Lib.hid (HR10.out.below hb7)
        have HB7 := Lib.hid (HB6.out.trans (hb7.mono HB6.out.size))
        clear hO7 hb7 hr7 hr72 hc7 hcm7 HUN HR10 HR11
        go_wp2_with fail
        refine HSAME.out.mono ?_
        rintro e w8 ⟨rfl, hb8⟩
        have hb6U : b6 ≤ ul ∧ (∀ j, j < b6 → nthB U j = nthB bits6 j) ∧ (∀ j, b6 ≤ j → j < ul → nthB U j = true) := by
          obtain ⟨kk, hst, hk1, hk2⟩ := HS.out.stuff
          rw [← HW.out.1] at hst
          have h5 := hst.all (by have := HCS.out; omega) hk1
          rw [← HUE.out.1] at h5
          have h6 : ul = bits6.length + (kk - bits6.length) := by rw [HUE.out.2, h5]; simp
          rw [HB6L.out]
          refine ⟨by omega, fun j hj => ?_, fun j hj hj2 => ?_⟩
          · rw [h5, nthB_eq (by simp; omega), nthB_eq hj, List.getElem_append_left hj]
          · rw [h5, nthB_eq (by simp; omega), List.getElem_append_right hj]; simp
        have HBEG := Lib.hid (azBegins U bits6 A5 A6 ul b6 c5 c6 (by omega) hb6U.1 hb6U.2.1 hb6U.2.2 w8 (HR13.out.below hb8) (HR14.out.below hb8))
        have HB8 := Lib.hid (HB7.out.trans (hb8.mono HB7.out.size))
        clear hb8 hb6U HSAME
        go_wp2_with fail
        refine HBEG.out.mono ?_
        rintro e w9 ⟨rfl, hb9⟩
        have HB9 := Lib.hid (HB8.out.trans (hb9.mono HB8.out.size))
        clear hb9
        go_wp2_with fail
        go_ret
        exact ⟨rfl, HB9.out⟩
end Go.Proofs.Ytiielblnmfeapaa
