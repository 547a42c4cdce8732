/-
  findErrorLocations, walked. No condition beyond the bounds that the theorem states.
-/
import Derived.Test.YtiielblnmfeapaaRSG2
namespace Go.Proofs.Ytiielblnmfeapaa
open Go.RowKit Go.Qz Go.Qz.RS
set_option linter.unusedVariables false

theorem loc_len {F : Fld} {h : Six F} {J ls : List Nat} (hJ : ∀ j ∈ J, j < F.size - 1) (ht : tidy ls = ls) (hn : ls ≠ []) (hc : ∀ n, co ls n = (loc J : Ser F h).c n) : ls.length = J.length + 1 := by
  have h1 := loc_top (h := h) J hJ
  rw [← hc] at h1
  have h2 : J.length < ls.length := by
    rcases Nat.lt_or_ge J.length ls.length with h3 | h3
    · exact h3
    · exact absurd (co_past h3) h1
  rcases Nat.lt_or_ge (J.length + 1) ls.length with h3 | h3
  · exfalso
    have h0 : ls ≠ [0] := by intro e; rw [e] at h3; simp at h3
    have := co_top ht hn h0
    rw [hc, loc_deg J _ (by omega)] at this
    exact this rfl
  · omega
theorem loc_one {F : Fld} {h : Six F} (j : Nat) : (loc [j] : Ser F h).c 1 = ex F j := by
  show (li (ex F j) (exl h j) * on : Ser F h).c 1 = _
  rw [mul_on, li_1]
/-- The places found, as the program lays them. -/
def exs (F : Fld) (K : List Nat) : List Nat := K.map (ex F)
theorem exs_length (F : Fld) (K : List Nat) : (exs F K).length = K.length := by simp [exs]
theorem exs_nth (F : Fld) (K : List Nat) (m : Nat) (hm : m < K.length) : nth (exs F K) m = ex F (nth K m) := by
  unfold exs
  rw [nth_map _ _ _ hm]
theorem exs_set (F : Fld) (K : List Nat) (j n : Nat) (hn : K.length < n) : (exs F K ++ List.replicate (n - K.length) 0).set K.length (ex F j) = exs F (K ++ [j]) ++ List.replicate (n - (K ++ [j]).length) 0 := by
  obtain ⟨m, hm⟩ : ∃ m, n - K.length = m + 1 := ⟨n - K.length - 1, by omega⟩
  rw [hm, List.replicate_succ, List.set_append_right _ _ (by rw [exs_length]; exact Nat.le_refl _), exs_length, Nat.sub_self, List.set_cons_zero]
  have h2 : n - (K ++ [j]).length = m := by rw [List.length_append, List.length_singleton]; omega
  rw [h2]
  simp [exs]

def LocPost (F : Fld) (J : List Nat) (w : World) (e : Ending) (w' : World) : Prop :=
  ∃ K A c, e = .returned (.tuple #[.slice A K.length c, .nilIface]) ∧ K.Perm J ∧ SlQ w' (fun k => w.heap.size ≤ k) A (exs F K) c ∧ Below w.heap.size w w'

set_option maxRecDepth 100000 in
set_option maxHeartbeats 6400000 in
theorem findLocs (F : Fld) (hF : Six F) (J : List Nat) (D ps f : Nat) (ls : List Nat) (nd : J.Nodup) (hJ : ∀ j ∈ J, j < F.size - 1) (hJl : J.length ≤ 1000) (ht : tidy ls = ls) (hn : ls ≠ []) (hle : El F ls) (hc : ∀ n, co ls n = (loc J : Ser F hF).c n)
    (w : World) (hD : Arr w 111 D [.pointer (some ⟨f, 0, none⟩)]) (hp : PolyQ w (fun _ => True) ps f ls) (hg : GFQ w (fun _ => True) f F) :
    Calls Try.prog 61 #[.pointer (some ⟨D, 0, none⟩), .pointer (some ⟨ps, 0, none⟩)] w (LocPost F J w) := by
  have hs := hF.bounds
  have hll := loc_len hJ ht hn hc
  have c0 := hD.cell? 0
  simp only [List.getElem?_cons_zero] at c0
  have hDl := hD.lt
  have HD := Lib.hid hD
  have HP := Lib.hid hp
  have HG := Lib.hid hg
  have HJ := Lib.hid hJ
  have HND := Lib.hid nd
  have HC := Lib.hid hc
  have HDE := Lib.hid (polyDegree (fun _ => True) ps f ls w hp (by omega))
  rw [hll, Nat.add_sub_cancel] at HDE
  obtain ⟨ν, hν⟩ : ∃ ν, ν = J.length := ⟨_, rfl⟩
  rw [← hν] at HDE hll hJl
  have HN := Lib.hid hν
  by_cases h1 : ν = 1
  · obtain ⟨j, hj⟩ : ∃ j, J = [j] := List.length_eq_one_iff.1 (by omega)
    have hcj : nth ls (ls.length - 1 - 1) = ex F j := by
      have e1 : co ls 1 = nth ls (ls.length - 1 - 1) := by unfold co; rw [if_pos (by omega)]
      rw [← e1, hc, hj, loc_one]
    have HCo := Lib.hid (polyCoef (fun _ => True) ps f ls 1 1 rfl (ex F j) hcj (by omega) w hp (by omega))
    have HJJ := Lib.hid hj
    obtain ⟨x, hx⟩ : ∃ x, x = ex F j := ⟨_, rfl⟩
    rw [← hx] at HCo
    have HX := Lib.hid hx
    subst h1
    rw [show ((1 : Nat) : Int) = 1 from rfl] at HDE
    clear hD hp hg hJ nd hc hν hcj hj hx
    go_enter Try.func61, Try.ntmps61
    go_wp2_with fail
    refine HDE.out.mono ?_
    rintro e w1 ⟨rfl, rfl⟩
    go_wp2_with fail
    refine HCo.out.mono ?_
    rintro e w1 ⟨rfl, n1, rfl⟩
    have HB := Lib.hid ((below_drewN (Below.refl w.heap.size w) n1).alloc (Nat.le_refl _) (.cells #[.int .i64 (x : Nat)] 3))
    have HSL : Hid (SlQ ((w.drewN n1).alloc (.cells #[.int .i64 (x : Nat)] 3)) (fun k => w.heap.size ≤ k) (some ⟨w.heap.size, 0, none⟩) [x] 1) := Lib.hid (SlQ.lit x _ rfl (Nat.le_refl _))
    go_wp2_with fail
    go_ret2
    refine ⟨[j], _, 1, rfl, by rw [HJJ.out], ?_, HB.out⟩
    have : exs F [j] = [x] := by rw [HX.out]; rfl
    rw [this]
    exact HSL.out
  · have h11 : ((ν : Int) == 1) = false := by simp; omega
    have hmk := fun W => run_make1 (P := Try.prog) 25 3 (.int .i64 0) 8 Try.underlying25 Try.infoInt rfl (by decide) ν (by omega) .i64 .i64 (ν : Int) rfl W
    have hI := IA.zeros w 3 ν
    have hb0 : Below w.heap.size w (w.alloc (.cells (zeros ν (.int .i64 0)) 3)) := (Below.refl _ _).alloc (Nat.le_refl _) _
    have HLE := Lib.hid hle
    have HF0 := Lib.hid (RS.Found.start hF hJ)
    clear hD hp hg hJ nd hc hν h1 hle
    go_enter Try.func61, Try.ntmps61
    go_wp2_with fail
    refine HDE.out.mono ?_
    rintro e w1 ⟨rfl, rfl⟩
    go_wp2_with fail
    obtain ⟨W3, hW3⟩ : ∃ W3, W3 = w.alloc (.cells (zeros ν (.int .i64 0)) 3) := ⟨_, rfl⟩
    rw [← hW3] at hI hb0 ⊢
    obtain ⟨R, hR⟩ : ∃ R, R = w.heap.size := ⟨_, rfl⟩
    rw [← hR] at hI hb0 hDl ⊢
    have HRR := Lib.hid hR
    clear hW3 hR hmk c0 HDE
    go_loopw [8, 9] (fun c i wr => ∃ (x m : Nat) (K : List Nat), 1 ≤ x ∧ x ≤ F.size ∧ i = .int .i64 x ∧ c = .int .i64 m ∧ Hid (m = K.length) ∧ m ≤ ν ∧ Hid (RS.Found F J K x) ∧ Hid (IA wr 3 R (exs F K ++ List.replicate (ν - K.length) 0)) ∧ Hid (Below R w wr)) (fun _ i _ => F.size - (intOf i).toNat)
    case atStart => exact ⟨1, 0, [], by omega, by omega, rfl, rfl, Lib.hid rfl, by omega, HF0, Lib.hid (by simpa [exs] using hI), Lib.hid hb0⟩
    case round =>
      obtain ⟨x, m, K, hx1, hx2, rfl, rfl, HM, hmν, HFD, HIA, HB⟩ := hrel
      clear hI hb0 HF0
      have HBW : Hid (Below w.heap.size w wr) := Lib.hid (by rw [← HRR.out]; exact HB.out)
      have c0 : wr.cell? ⟨D, 0, none⟩ = some (.pointer (some ⟨f, 0, none⟩)) := by
        have := (HB.out.cell (p := ⟨D, 0, none⟩) hDl).trans (HD.out.cell? 0)
        simpa using this
      have HG1 := Lib.hid (HG.out.below HBW.out)
      have HP1 := Lib.hid (HP.out.below HBW.out)
      have HSZ := Lib.hid (gfSize (fun _ => True) F f wr HG1.out)
      by_cases hxl : x < F.size
      · have hxl1 : (x : Int) < (F.size : Int) := by omega
        by_cases hml : m < ν
        · have hml1 : (m : Int) < (ν : Int) := by omega
          have hm0 : (0 : Int) ≤ (m : Int) := by omega
          have hev : ev F ls x = lev F x J := by
            rw [ev_ser (h := hF) HC.out (loc_deg J) x, loc_at hxl]
          have HAT := polyAt (fun _ => True) F hF ps f x (x : Int) rfl ls hxl (by omega) HLE.out (by omega) wr HP1.out HG1.out
          rw [hev] at HAT
          have HAT := Lib.hid HAT
          clear hev
          by_cases hz : lev F x J = 0
          · obtain ⟨j, hj, hej, hfd⟩ := RS.Found.hit hF HJ.out hxl (by omega) hz HFD.out
            rw [hz, show ((0 : Nat) : Int) = 0 from rfl] at HAT
            have HFD2 := Lib.hid hfd
            have HINV := Lib.hid (fun W hW => gfInv (fun _ => True) F hF f x hxl (by omega) W hW)
            rw [← hej] at HINV
            have hlen : (exs F K ++ List.replicate (ν - K.length) 0).length = ν := by rw [List.length_append, exs_length, List.length_replicate]; have := HM.out; omega
            have HSET : Hid ((exs F K ++ List.replicate (ν - K.length) 0).set m (ex F j) = exs F (K ++ [j]) ++ List.replicate (ν - (K ++ [j]).length) 0) := Lib.hid (by rw [HM.out]; exact exs_set F K j ν (by have := HM.out; omega))
            obtain ⟨old, hold⟩ : ∃ old, old = nth (exs F K ++ List.replicate (ν - K.length) 0) m := ⟨_, rfl⟩
            have hcell := HIA.out.cell (j := m) (by omega)
            rw [← hold] at hcell
            have hfree := HIA.out.free m
            have hex := exl hF j
            have HML : Hid (m + 1 = (K ++ [j]).length) := Lib.hid (by rw [List.length_append, List.length_singleton, HM.out])
            obtain ⟨v, hv⟩ : ∃ v, v = ex F j := ⟨_, rfl⟩
            rw [← hv] at HINV HSET
            have hneq2 : ∀ W, (binOp .neq 52 .nilIface .nilIface).run Try.prog W = .ok (.bool false) W := fun W => rfl
            clear hz hj hej hfd hlen hold hv HFD
            go_wp2_with fail
            refine HSZ.out.mono ?_
            rintro e w1 ⟨rfl, rfl⟩
            go_wp2_with fail
            refine HAT.out.mono ?_
            rintro e w1 ⟨rfl, n1, rfl⟩
            have b0 : (wr.drewN n1).cell? ⟨D, 0, none⟩ = some (.pointer (some ⟨f, 0, none⟩)) := c0
            go_wp2_with fail
            refine (HINV.out _ (HG1.out.drewN n1)).mono ?_
            rintro e w1 ⟨rfl, n2, rfl⟩
            have HB2 : Hid (Below R w (((wr.drewN n1).drewN n2).setCell ⟨R, m, none⟩ (.int .i64 (v : Nat)))) := Lib.hid ((below_drewN (below_drewN HB.out n1) n2).setCell (p := ⟨R, m, none⟩) (Nat.le_refl _) _)
            have HIA2 : Hid (IA (((wr.drewN n1).drewN n2).setCell ⟨R, m, none⟩ (.int .i64 (v : Nat))) 3 R (exs F (K ++ [j]) ++ List.replicate (ν - (K ++ [j]).length) 0)) := Lib.hid (by
              have h1 : IA ((wr.drewN n1).drewN n2) 3 R (exs F K ++ List.replicate (ν - K.length) 0) := HIA.out
              have := h1.set_ m v
              rw [HSET.out] at this
              exact this)
            have d1 : ((wr.drewN n1).drewN n2).cell? ⟨R, m, none⟩ = some (.int .i64 (old : Nat)) := hcell
            have d2 : ((wr.drewN n1).drewN n2).frozen? ⟨R, m, none⟩ = false := hfree
            clear hcell hfree c0 b0 HSZ HAT HINV HG1 HP1 HBW HIA HB
            obtain ⟨W5, hW5⟩ : ∃ W5, W5 = (wr.drewN n1).drewN n2 := ⟨_, rfl⟩
            rw [← hW5] at HB2 HIA2 d1 d2 ⊢
            clear hW5
            go_wp2_with fail
            go_roundw
            case rel => exact ⟨x + 1, m + 1, K ++ [j], by omega, by omega, by go_num, by go_num, HML, by omega, HFD2, HIA2, HB2⟩
            case measure => simp [intOf]; omega
          · have HFD2 := Lib.hid (RS.Found.skip hF HJ.out hxl hz HFD.out)
            have hzz : (((lev F x J : Nat) : Int) == 0) = false := by simpa using hz
            have hlv := lev_lt hF x J
            obtain ⟨v, hv⟩ : ∃ v, v = lev F x J := ⟨_, rfl⟩
            rw [← hv] at HAT hzz
            clear hz hv HFD hlv
            go_wp2_with fail
            refine HSZ.out.mono ?_
            rintro e w1 ⟨rfl, rfl⟩
            go_wp2_with fail
            refine HAT.out.mono ?_
            rintro e w1 ⟨rfl, n1, rfl⟩
            have HB2 : Hid (Below R w (wr.drewN n1)) := Lib.hid (below_drewN HB.out n1)
            have HIA2 : Hid (IA (wr.drewN n1) 3 R (exs F K ++ List.replicate (ν - K.length) 0)) := Lib.hid HIA.out
            clear HIA HB c0 HSZ HAT HG1 HP1 HBW
            go_wp2_with fail
            go_roundw
            case rel => exact ⟨x + 1, m, K, by omega, by omega, by go_num, rfl, HM, hmν, HFD2, HIA2, HB2⟩
            case measure => simp [intOf]; omega
        · obtain rfl : m = ν := by omega
          have hml1 : ((m : Int) < (m : Int)) = False := by simp
          have hne : ((m : Int) != (m : Int)) = false := by simp
          have HPM := Lib.hid (HFD.out.full HND.out (by have := HM.out; have := HN.out; omega))
          have HSL : Hid (SlQ wr (fun k => w.heap.size ≤ k) (some ⟨R, 0, none⟩) (exs F K) m) := Lib.hid (by
            have e : exs F K ++ List.replicate (m - K.length) 0 = exs F K := by rw [HM.out, Nat.sub_self]; simp
            have h2 := HIA.out
            rw [e] at h2
            exact ⟨by rw [exs_length]; have := HM.out; omega, fun _ => ⟨R, 0, rfl, by rw [HRR.out]; exact Nat.le_refl _, h2.lt, fun j hj => by rw [Nat.zero_add]; exact h2.cell hj⟩⟩)
          clear hml
          go_wp2_with fail
          refine HSZ.out.mono ?_
          rintro e w1 ⟨rfl, rfl⟩
          go_wp2_with fail
          go_ret2
          exact ⟨K, _, m, by rw [← HM.out]; rfl, HPM.out, HSL.out, HBW.out⟩
      · obtain rfl : x = F.size := by omega
        have hxl1 : ((F.size : Int) < (F.size : Int)) = False := by simp
        have HPM := Lib.hid (HFD.out.all hF HND.out)
        have hmm : m = ν := by have := HPM.out.length_eq; have := HM.out; have := HN.out; omega
        subst hmm
        have hne : ((m : Int) != (m : Int)) = false := by simp
        have HSL : Hid (SlQ wr (fun k => w.heap.size ≤ k) (some ⟨R, 0, none⟩) (exs F K) m) := Lib.hid (by
          have e : exs F K ++ List.replicate (m - K.length) 0 = exs F K := by rw [HM.out, Nat.sub_self]; simp
          have h2 := HIA.out
          rw [e] at h2
          exact ⟨by rw [exs_length]; have := HM.out; omega, fun _ => ⟨R, 0, rfl, by rw [HRR.out]; exact Nat.le_refl _, h2.lt, fun j hj => by rw [Nat.zero_add]; exact h2.cell hj⟩⟩)
        clear hxl
        go_wp2_with fail
        refine HSZ.out.mono ?_
        rintro e w1 ⟨rfl, rfl⟩
        go_wp2_with fail
        go_ret2
        exact ⟨K, _, m, by rw [← HM.out]; rfl, HPM.out, HSL.out, HBW.out⟩
end Go.Proofs.Ytiielblnmfeapaa
