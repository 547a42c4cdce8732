/-
  The reference's encoder of Reed-Solomon words, walked: RSInverse of 1, RSShifted, RSRest, RSGenerator, RSEncode. No condition beyond the bounds that each theorem states.
-/
import Derived.Test.YtiielblnmfeapaaGreatDoorRSD6
import Derived.Test.YtiielblnmfeapaaGreatDoorGFH
import Derived.Test.YtiielblnmfeapaaGreatDoorAPZ
import Derived.Test.YtiielblnmfeapaaGreatDoorRSE4
import Derived.Test.YtiielblnmfeapaaGreatDoorRSD5
import Derived.Deep.RegionHeld3
import Derived.StillTailTactics
import Derived.Outline
namespace Go.Qz
open Go.RowKit
theorem run_appendz0 {P : Program} (w : World) (base : Nat) (t ty e tk : TypeId) (k : IntKind) (i : TypeInfo) (z : Value) (ht : P.underlying t = some (.slice e)) (hk : P.underlying tk = some (.int k)) (hi : P.info? e = some i) (hz : i.zero = some z) (hzs : z.cells = #[z])
    (v : Value) (n : Nat) (xs : List Value) (hown : w.ownsRow base e 1 v n xs) :
    (Builtin.append_ #[t, tk] ty #[v, .int .i64 0]).run P w = .ok v w := by
  have hwr : IntKind.i64.wrap (0 : Int) = (0 : Int) := by rw [IntKind.wrap_i64]; omega
  rcases hown.2 with ⟨rfl, rfl⟩ | ⟨g, cap, cur, rfl, hbg, hg, hnc, hcm, hcs, htake⟩
  · simp [Builtin.append_, run_underlying ht, run_underlying hk, sizeOf, typeInfo, zeroValue, hi, hz, hzs, asInt, asIntOf, hwr]
  · simp [Builtin.append_, run_underlying ht, run_underlying hk, sizeOf, typeInfo, zeroValue, hi, hz, hzs, asInt, asIntOf, hwr, hnc, zeroCells_one, storeCells]
theorem wpList_appendz0 {P : Program} {W : World} {ops : Array Oper} {rest : List Oper} {o : Oper} {a : Act} {Q : Exit → Act → World → Prop} (s x : Operand) (t tk : TypeId) (kk : IntKind)
    (base : Nat) (e : TypeId) (z : Value) (bytes : Nat) (v : Value) (n : Nat) (xs : List Value) (m : Nat)
    (hgd : o.guard = none) (ho : o.op = .call { callee := .builtin .append, args := #[s, x], argTypes := #[t, tk] })
    (hs : a.eval s = v) (hx : a.eval x = .int .i64 (m : Int))
    (ht : P.underlying t = some (.slice e)) (hk : P.underlying tk = some (.int kk)) (hi : (P.info? e).map (fun i => (i.zero, i.size, i.bytes)) = some (some z, 1, bytes)) (hzs : z.cells = #[z]) (h1 : z.oneCell' = true) (hb : bytes ≤ 64)
    (hown : W.ownsRow base e 1 v n xs) (hn : n + m < 1099511627776) (hbase : base ≤ W.heap.size)
    (h : ∀ v' w', w'.ownsRow base e 1 v' (n + m) (xs ++ List.replicate m z) → W.grownBy w' v.ownBlock → Below base W w' → wpList P ops Q rest (a.put o.dst v') w') :
    wpList P ops Q (o :: rest) a W := by
  rcases Nat.eq_zero_or_pos m with h0 | h0
  · subst h0
    obtain ⟨i0, hi, hz0, hz1, hz2⟩ := info_parts hi
    have hr := run_appendz0 (P := P) W base t o.type e tk kk i0 z ht hk hi hz0 hzs v n xs hown
    have hx : a.eval x = .int .i64 0 := hx
    refine wpList_plain hgd fun K hK => ?_
    unfold Oper.wp execOp
    simp only [ho, resolve, invoke, builtin, Sem.run_bind, Sem.run_pure, Result.andThen_ok, List.map_toArray, List.map_cons, List.map_nil, hs, hx, hr]
    exact hK _ _ (h v W (by simpa using hown) (World.grownBy.refl W _) (Below.refl _ _))
  · exact wpList_appendz s x t tk kk base e z bytes v n xs m hgd ho hs hx ht hk hi hzs h1 hb hown h0 hn hbase h
end Go.Qz
namespace Go.Proofs.YtiielblnmfeapaaGreatDoor
open Go.RowKit Go.Qz Go.Qz.RS
set_option linter.unusedVariables false

set_option maxRecDepth 100000 in
set_option maxHeartbeats 1600000 in
theorem rsInverse1 (F : Fld) (hF : Six F) (w : World) :
    Calls Tryz.prog 76 #[fv F, .int .i64 1] w fun e w' => e = .returned (.int .i64 1) ∧ Below w.heap.size w w' := by
  have hs := hF.bounds
  have H1 := Lib.hid (fun W => rsTimes F hF 1 1 1 rfl (by omega) (by omega) W)
  have h11 : mul F 1 1 = 1 := mul_one hF (by omega)
  rw [h11] at H1
  unfold fv at *
  go_enter Tryz.func76, Tryz.ntmps76
  go_wp2_with fail
  have hI := Arr.new w 71 [.int .i64 F.prim, .int .i64 F.size, .int .i64 F.base]
  have hb0 : Below w.heap.size w (w.alloc (.cells #[.int .i64 F.prim, .int .i64 F.size, .int .i64 F.base] 71)) := (Below.refl _ _).alloc (Nat.le_refl _) _
  have hI2 : Arr (w.alloc (.cells #[.int .i64 F.prim, .int .i64 F.size, .int .i64 F.base] 71)) 71 w.heap.size [.int .i64 F.prim, .int .i64 F.size, .int .i64 F.base] := hI
  obtain ⟨W0, hW0⟩ : ∃ W0, W0 = w.alloc (.cells #[.int .i64 F.prim, .int .i64 F.size, .int .i64 F.base] 71) := ⟨_, rfl⟩
  rw [← hW0] at hI2 hb0 ⊢
  clear hI hW0
  obtain ⟨c0, c1, c2⟩ := fcells hI2
  have hsz : (1 : Int) < (F.size : Int) := by omega
  have HB := Lib.hid hb0
  clear hI2 hb0
  go_loopw [5] (fun i wr => i = .int .i64 1 ∧ W0 = wr) (fun _ _ => 0)
  case atStart => exact ⟨rfl, rfl⟩
  case round =>
    obtain ⟨rfl, rfl⟩ := hrel
    go_wp2_with fail
    refine (H1.out _).mono ?_
    rintro e w2 ⟨rfl, hb2⟩
    have HB2 := Lib.hid (HB.out.trans (hb2.mono HB.out.size))
    clear hb2
    go_wp2_with fail
    go_ret
    exact ⟨rfl, HB2.out⟩

/-- A row of the call's own that holds these numbers. -/
def OwnI (w : World) (base : Nat) (v : Value) (l : List Nat) : Prop := w.ownsRow base 3 1 v l.length (ints l)
theorem OwnI.rd {w : World} {base : Nat} {v : Value} {l : List Nat} (h : OwnI w base v l) : ∃ A c, v = .slice A l.length c ∧ l.length ≤ c ∧ Rd w A l.length (fun j => .int .i64 (nth l j : Nat)) := by
  obtain ⟨A, c, rfl, h1, h2, h3⟩ := Rd.of_own h
  refine ⟨A, c, rfl, h1, h3.congr fun j hj => ?_⟩
  rw [List.getD_eq_getElem?_getD, ints_get _ _ hj]; rfl
theorem OwnI.below {w w' : World} {base : Nat} {v : Value} {l : List Nat} (h : OwnI w base v l) (hb : Below w.heap.size w w') : OwnI w' base v l := own_below h hb
def OwnPost (l : List Nat) (w : World) (e : Ending) (w' : World) : Prop := ∃ v, e = .returned v ∧ OwnI w' w.heap.size v l ∧ Below w.heap.size w w'
theorem OwnI.lower {w : World} {base B : Nat} {v : Value} {l : List Nat} (h : OwnI w base v l) (hb : B ≤ base) : OwnI w B v l := own_mono h hb

set_option maxRecDepth 100000 in
set_option maxHeartbeats 1600000 in
theorem rsShifted (l : List Nat) (hl : l ≠ []) (hn : l.length < 100000) (k : Nat) (hk : k < 100000) (A : Option Addr) (c : Nat) (w : World) (h : Rd w A l.length (fun j => .int .i64 (nth l j : Nat))) :
    Calls Tryz.prog 49 #[.slice A l.length c, .int .i64 k] w (OwnPost (tidy (l ++ List.replicate k 0)) w) := by
  have hb0 : Below w.heap.size w (w.alloc (.cells #[] 3)) := (Below.refl _ _).alloc (Nat.le_refl _) _
  have hown := World.ownsRow_lit (e := 3) (size := 1) w #[] 0 (Nat.le_refl w.heap.size) (by unfold maxLen; omega) rfl
  have hrd := h.alloc (.cells #[] 3)
  have HRN := Lib.hid (range_nth l)
  have HL := Lib.hid hl
  clear h hl
  go_enter Tryz.func49, Tryz.ntmps49
  go_wp2_with (at_builtin; refine wpList_copyTo _ _ 24 w.heap.size 3 (.int .i64 0) 8 _ 0 [] _ _ _ _ rfl rfl rfl rfl Tryz.underlying24 Tryz.infoInt rfl (fun j _ => rfl) (by decide) hown hrd (by omega) hb0.size ?_)
  intro v1 w1 hown1 hg1 hb1
  rw [HRN.out] at hown1
  have HO1 : Hid (OwnI w1 w.heap.size v1 l) := Lib.hid (by simpa [OwnI, ints] using hown1)
  have HB1 := Lib.hid (hb0.trans hb1)
  clear hown1 hg1 hb1 hown hrd hb0
  go_wp2_with (at_builtin; refine wpList_appendz0 _ _ 24 3 .i64 w.heap.size 3 (.int .i64 0) 8 v1 l.length (ints l) k rfl rfl rfl rfl Tryz.underlying24 (by kernel_rfl) Tryz.infoInt rfl rfl (by decide) HO1.out (by omega) HB1.out.size ?_)
  intro v2 w2 hown2 hg2 hb2
  have hz : List.replicate k (Value.int .i64 0) = ints (List.replicate k 0) := by simp [ints]
  rw [hz, ← ints_append] at hown2
  have hlen : (l ++ List.replicate k 0).length = l.length + k := by simp
  have hO2 : OwnI w2 w.heap.size v2 (l ++ List.replicate k 0) := by unfold OwnI; rw [hlen]; exact hown2
  obtain ⟨A2, c2, rfl, hc2, hr2⟩ := hO2.rd
  have HB2 := Lib.hid (HB1.out.trans hb2)
  have HT := Lib.hid (rsTidy (l ++ List.replicate k 0) (by simp [HL.out]) (by rw [hlen]; omega) A2 c2 hc2 w2 hr2)
  rw [hlen] at HT ⊢
  clear hown2 hg2 hb2 hz hlen hO2 hr2 hc2 HO1 HB1
  go_wp2_with fail
  refine HT.out.mono ?_
  rintro e w3 ⟨v3, rfl, hown3, hb3⟩
  have HO3 := Lib.hid hown3
  have HB3 := Lib.hid (HB2.out.trans (hb3.mono HB2.out.size))
  have HS := Lib.hid HB2.out.size
  clear hown3 hb3
  go_wp2_with fail
  go_ret
  exact ⟨v3, rfl, (show OwnI w3 w2.heap.size v3 _ from HO3.out).lower HS.out, HB3.out⟩

def RestPost (F : Fld) (P G : List Nat) (ec : Nat) (w : World) (e : Ending) (w' : World) : Prop := ∃ v q r, e = .returned v ∧ OwnI w' w.heap.size v r ∧ Dv F P G q r ∧ r.length ≤ ec ∧ Below w.heap.size w w'
set_option maxRecDepth 100000 in
set_option maxHeartbeats 6400000 in
theorem rsRest (F : Fld) (hF : Six F) (P : List Nat) (ec : Nat) (hec : 1 ≤ ec) (hecl : ec < 3000) (hP : P ≠ []) (hPl : P.length < 3000) (hPt : tidy P = P) (hPe : El F P) (A B : Option Addr) (c d : Nat) (hc : P.length ≤ c) (hd : (gen F ec).length ≤ d) (w : World)
    (hA : Rd w A P.length (fun j => .int .i64 (nth P j : Nat))) (hB : Rd w B (gen F ec).length (fun j => .int .i64 (nth (gen F ec) j : Nat))) :
    Calls Tryz.prog 48 #[fv F, .slice A P.length c, .slice B (gen F ec).length d] w (RestPost F P (gen F ec) ec w) := by
  have hs := hF.bounds
  have hG1 := gen_head hF ec
  have hGl := (gen_top hF ec).1
  have hGt := gen_tidy F ec
  have hGe := gen_el hF ec
  have hGn := gen_ne F ec
  obtain ⟨G, hG⟩ : ∃ G, G = gen F ec := ⟨_, rfl⟩
  have hG0 : G ≠ [0] := fun e => by rw [← hG, e] at hGl; simp at hGl; omega
  rw [← hG] at hG1 hGl hGt hGe hGn hd hB ⊢
  have hDv := Dv.start hF hPt hP hPe hGe
  have HSTEP := Lib.hid (fun q r (v : Dv F P G q r) h1 h2 => Dv.step hF hGt hGn hGe hG0 v h1 h2)
  have HSC : Hid (∀ r, El F r → scale F G r = nth r 0) := Lib.hid (fun r hr => by rw [hG]; exact scale_gen hF ec hr)
  have HT1 := Lib.hid (rsTidy P hP (by omega) A c hc)
  have HT2 := Lib.hid (rsTidy G hGn (by omega) B d hd)
  have HINV := Lib.hid (fun W => rsInverse1 F hF W)
  have HA := Lib.hid hA
  have HB := Lib.hid hB
  have HG1 := Lib.hid hG1
  have HGE := Lib.hid hGe
  have HGN := Lib.hid hGn
  have HDV := Lib.hid hDv
  have HGL := Lib.hid hGl
  have HPT := Lib.hid hPt
  have HGT := Lib.hid hGt
  obtain ⟨gl, hgl⟩ : ∃ gl, gl = G.length := ⟨_, rfl⟩
  have HGL1 : Hid (gl = ec + 1) := Lib.hid (by rw [hgl]; exact hGl)
  have hgl2 : 2 ≤ gl := by have := HGL1.out; omega
  have hgl3 : gl ≤ 3000 := by have := HGL1.out; omega
  have HGLE := Lib.hid hgl
  have hAr : Arr (w.alloc (.cells #[.int .i64 F.prim, .int .i64 F.size, .int .i64 F.base] 71)) 71 w.heap.size [.int .i64 F.prim, .int .i64 F.size, .int .i64 F.base] := Arr.new _ _ _
  have hb0 : Below w.heap.size w (w.alloc (.cells #[.int .i64 F.prim, .int .i64 F.size, .int .i64 F.base] 71)) := (Below.refl _ _).alloc (Nat.le_refl _) _
  unfold fv at *
  clear hA hB hG1 hGl hGt hGe hGn hG0 hDv hG hPt hPe
  rw [← hgl] at HT2 HB ⊢
  clear hgl hd
  go_enter Tryz.func48, Tryz.ntmps48
  go_wp2_with fail
  obtain ⟨W0, hW0⟩ : ∃ W0, W0 = w.alloc (.cells #[.int .i64 F.prim, .int .i64 F.size, .int .i64 F.base] 71) := ⟨_, rfl⟩
  obtain ⟨H, hH⟩ : ∃ H, H = w.heap.size := ⟨_, rfl⟩
  rw [← hW0, ← hH] at hAr
  rw [← hW0] at hb0
  rw [← hW0, ← hH]
  have HH := Lib.hid hH
  have HAR := Lib.hid hAr
  have HB0 : Hid (Below H w W0) := Lib.hid (by rw [hH]; exact hb0)
  have HHl := Lib.hid hAr.lt
  clear hW0 hH hAr hb0
  refine (HT1.out W0 (HA.out.below (by rw [← HH.out]; exact HB0.out))).mono ?_
  rintro e w1 ⟨v1, rfl, hown1, hb1⟩
  rw [HPT.out] at hown1
  have HO1 : Hid (OwnI w1 H v1 P) := Lib.hid ((show OwnI w1 W0.heap.size v1 P from hown1).lower (Nat.le_of_lt HHl.out))
  have HB1 : Hid (Below H w w1) := Lib.hid (HB0.out.trans (hb1.mono (Nat.le_of_lt HHl.out)))
  have HAR1 := Lib.hid (HAR.out.below hb1 HHl.out)
  clear hown1 hb1 HT1 HAR
  go_wp2_with fail
  refine (HT2.out w1 (HB.out.below (by rw [← HH.out]; exact HB1.out))).mono ?_
  rintro e w2 ⟨v2, rfl, hown2, hb2⟩
  rw [HGT.out] at hown2
  obtain ⟨A2, c2, rfl, hc2, hr2⟩ := OwnI.rd (show OwnI w2 w1.heap.size v2 G from hown2)
  rw [← HGLE.out] at hr2 hc2 ⊢
  have HR2 := Lib.hid hr2
  have HO2 := Lib.hid (HO1.out.below hb2)
  have HB2 : Hid (Below H w w2) := Lib.hid (HB1.out.trans (hb2.mono (Nat.le_of_lt HAR1.out.lt)))
  have HAR2 := Lib.hid (HAR1.out.below hb2 HAR1.out.lt)
  obtain ⟨gb, go, rfl, hgb, hgc⟩ := hr2 (by omega)
  have g0 := hgc 0 (by omega)
  rw [Nat.add_zero] at g0
  dsimp only at g0
  rw [HG1.out] at g0
  have hgl0 : (0 : Int) < (gl : Int) := by omega
  have hgl0n : 0 < gl := by omega
  obtain ⟨f0, f1, f2⟩ := fcells HAR2.out
  clear hown2 hr2 hb2 HT2 HO1 HB1 HAR1 hgc hc2
  go_wp2_with fail
  go_still_tail 4, (by kernel_rfl)
  repeat still_step
  try refine wpStill_nil ?_
  change wpList _ _ _ _ _ w2.drew
  obtain ⟨W2, hW2⟩ : ∃ W2, W2 = w2.drew := ⟨_, rfl⟩
  have HO3 : Hid (OwnI W2 H v1 P) := Lib.hid (by rw [hW2]; exact HO2.out)
  have HR3 : Hid (Rd W2 (some ⟨gb, go, none⟩) gl (fun j => .int .i64 (nth G j : Nat))) := Lib.hid (by rw [hW2]; exact HR2.out)
  have HB3 : Hid (Below H w W2) := Lib.hid (by rw [hW2]; exact HB2.out.drew)
  have HAR3 : Hid (Arr W2 71 H [.int .i64 F.prim, .int .i64 F.size, .int .i64 F.base]) := Lib.hid (by rw [hW2]; exact HAR2.out)
  rw [← hW2]
  clear hW2 g0 f0 f1 f2 HO2 HR2 HB2 HAR2 hgb
  go_wp2_with fail
  refine (HINV.out W2).mono ?_
  rintro e w3 ⟨rfl, hb3⟩
  have HO4 := Lib.hid (HO3.out.below hb3)
  have HR4 := Lib.hid (HR3.out.below hb3)
  have HB4 : Hid (Below H w w3) := Lib.hid (HB3.out.trans (hb3.mono (Nat.le_of_lt HAR3.out.lt)))
  have HAR4 := Lib.hid (HAR3.out.below hb3 HAR3.out.lt)
  have HH3 : Hid (H ≤ w3.heap.size) := Lib.hid (Nat.le_of_lt HAR4.out.lt)
  clear hb3 HO3 HR3 HB3 HAR3 HINV
  go_wp2_with fail
  go_loopg [7] (P.length + 1) (fun gk u wr => ∃ q r, Hid (OwnI wr H u r) ∧ Hid (Dv F P G q r) ∧ Hid (Arr wr 71 H [.int .i64 F.prim, .int .i64 F.size, .int .i64 F.base]) ∧ Hid (Below w3.heap.size w3 wr) ∧ Hid (r = [0] ∨ r.length + 1 ≤ gk))
  case atStart => exact ⟨[0], P, HO4, HDV, HAR4, Lib.hid (Below.refl _ _), Lib.hid (.inr (Nat.le_refl _))⟩
  case round =>
    obtain ⟨q, r, HO, HV, HAR, HBB, HK⟩ := hrel
    clear HO4 HDV HAR4
    obtain ⟨wi, hwi⟩ : ∃ wi, wi = wr := ⟨_, rfl⟩
    rw [← hwi] at HO HAR HBB ⊢
    clear hwi
    have hrl := HV.out.rl
    have hrp := List.length_pos_iff.2 HV.out.rn
    obtain ⟨Ar, cr, hv, hcr, hrd⟩ := HO.out.rd
    subst hv
    have HRD := Lib.hid hrd
    obtain ⟨rl, hrle⟩ : ∃ rl, rl = r.length := ⟨_, rfl⟩
    have HRL := Lib.hid hrle
    rw [← hrle] at hrl hrp hcr HRD ⊢
    clear hrd hrle
    by_cases hge : gl ≤ rl
    · have hge1 : (gl : Int) ≤ (rl : Int) := by omega
      have hr0 : r ≠ [0] := fun e => by have h5 := HRL.out; rw [e] at h5; simp at h5; omega
      have HZ := Lib.hid (rsZero r HV.out.rn (by rw [← HRL.out]; omega) Ar cr false (by simpa using hr0) wi (by rw [← HRL.out]; exact HRD.out))
      rw [← HRL.out] at HZ
      have HST := Lib.hid (HSTEP.out q r HV.out (by rw [← HGLE.out, ← HRL.out]; exact hge) hr0)
      rw [HSC.out r HV.out.re, ← HGLE.out, ← HRL.out] at HST
      have HKK := Lib.hid (show rl + 1 ≤ gk by rcases HK.out with h | h; exact absurd h hr0; rw [HRL.out]; exact h)
      have hgk : 2 ≤ gk := by have := HKK.out; omega
      obtain ⟨rb, ro, rfl, hrb, hrc⟩ := HRD.out hrp
      have r0 := hrc 0 hrp
      rw [Nat.add_zero] at r0
      obtain ⟨y0, hy0⟩ : ∃ y0, y0 = nth r 0 := ⟨_, rfl⟩
      rw [← hy0] at HST
      have hy0l : y0 < F.size := by rw [hy0]; exact HV.out.re 0
      dsimp only at r0
      rw [← hy0] at r0
      have HTM := Lib.hid (fun W => rsTimes F hF y0 1 1 rfl hy0l (by omega) W)
      rw [mul_one hF hy0l] at HTM
      obtain ⟨kd, hkd⟩ : ∃ kd, kd = rl - gl := ⟨_, rfl⟩
      rw [← hkd] at HST
      have ekd : (rl : Int) - (gl : Int) = (kd : Int) := by omega
      have hkd1 : kd < 3000 := by omega
      obtain ⟨f0, f1, f2⟩ := fcells HAR.out
      have hrp0 : (0 : Int) < (rl : Int) := by omega
      unfold fv at HTM
      have HRE := Lib.hid HV.out.re
      clear hy0 hr0 HK hkd hrc hrb
      go_wp2_with fail
      refine HZ.out.mono ?_
      rintro e w4 ⟨rfl, rfl⟩
      go_wp2_with fail
      go_still_tail 5, (by kernel_rfl)
      repeat still_step
      try refine wpStill_nil ?_
      change wpList _ _ _ _ _ wi.drew
      obtain ⟨W4, hW4⟩ : ∃ W4, W4 = wi.drew := ⟨_, rfl⟩
      have HRD5 : Hid (Rd W4 (some ⟨rb, ro, none⟩) rl (fun j => .int .i64 (nth r j : Nat))) := Lib.hid (by rw [hW4]; exact HRD.out)
      have HBB5 : Hid (Below w3.heap.size w3 W4) := Lib.hid (by rw [hW4]; exact HBB.out.drew)
      have HAR5 : Hid (Arr W4 71 H [.int .i64 F.prim, .int .i64 F.size, .int .i64 F.base]) := Lib.hid (by rw [hW4]; exact HAR.out)
      rw [← hW4]
      clear hW4 r0 f0 f1 f2 HO HRD HBB HAR HZ
      go_wp2_with fail
      refine (HTM.out W4).mono ?_
      rintro e w5 ⟨rfl, hb5⟩
      have HRD6 := Lib.hid (HRD5.out.below hb5)
      have HBB6 := Lib.hid (HBB5.out.trans (hb5.mono HBB5.out.size))
      have HAR6 := Lib.hid (HAR5.out.below hb5 HAR5.out.lt)
      clear hb5 HRD5 HBB5 HAR5 HTM
      obtain ⟨f0, f1, f2⟩ := fcells HAR6.out
      go_wp2_with fail
      have hb7 : Below w5.heap.size w5 (w5.alloc (.cells #[.int .i64 (y0 : Nat)] 3)) := (Below.refl _ _).alloc (Nat.le_refl _) _
      have HY := Lib.hid (Arr.new w5 3 [.int .i64 (y0 : Nat)])
      have HRD7 := Lib.hid (HRD6.out.below hb7)
      have HBB7 := Lib.hid (HBB6.out.trans (hb7.mono HBB6.out.size))
      have HAR7 := Lib.hid (HAR6.out.below hb7 HAR6.out.lt)
      have HPR := rsProduct F hF G [y0] HGN.out (by simp) (by rw [← HGLE.out]; omega) (by simp) HGE.out (fun j => by rw [nth_cons]; split; exact hy0l; rw [nth_past (by simp)]; omega) (some ⟨gb, go, none⟩) (some ⟨w5.heap.size, 0, none⟩) c2 1 (w5.alloc (.cells #[.int .i64 (y0 : Nat)] 3)) (by rw [← HGLE.out]; exact (HR4.out.below HBB7.out)) (HY.out.rd _ (fun j hj => by
        obtain rfl : j = 0 := by simpa using hj
        rfl))
      unfold fv at HPR
      rw [← HGLE.out] at HPR
      have HPR := Lib.hid HPR
      obtain ⟨W7, hW7⟩ : ∃ W7, W7 = w5.alloc (.cells #[.int .i64 (y0 : Nat)] 3) := ⟨_, rfl⟩
      rw [← hW7] at HRD7 HBB7 HAR7 HPR ⊢
      clear hb7 HY hW7 HRD6 HBB6 HAR6 f0 f1 f2
      refine HPR.out.mono ?_
      rintro e w8 ⟨v8, rfl, hown8, hb8⟩
      have hO8 : OwnI w8 W7.heap.size v8 (prod F G [y0]) := hown8
      obtain ⟨A8, c8, rfl, hc8, hr8⟩ := hO8.rd
      have hpl := prod_length F G [y0]
      have HRD8 := Lib.hid (HRD7.out.below hb8)
      have HBB8 := Lib.hid (HBB7.out.trans (hb8.mono HBB7.out.size))
      have HAR8 := Lib.hid (HAR7.out.below hb8 HAR7.out.lt)
      have hpl2 : (prod F G [y0]).length ≤ 3001 := by have := HGLE.out; simp at hpl; omega
      have HSH := Lib.hid (rsShifted (prod F G [y0]) (prod_ne HGN.out (by simp)) (by omega) kd (by omega) A8 c8 w8 hr8)
      rw [shifted_prod hF HGE.out HGN.out hy0l kd] at HSH
      clear hown8 hO8 hr8 hc8 hb8 hpl HPR HRD7 HBB7 HAR7
      go_wp2_with fail
      refine HSH.out.mono ?_
      rintro e w9 ⟨v9, rfl, hO9, hb9⟩
      obtain ⟨A9, c9, rfl, hc9, hr9⟩ := hO9.rd
      have hsl := shfL_length F HGN.out kd y0
      have HRD9 := Lib.hid (HRD8.out.below hb9)
      have HBB9 := Lib.hid (HBB8.out.trans (hb9.mono HBB8.out.size))
      have HAR9 := Lib.hid (HAR8.out.below hb9 HAR8.out.lt)
      have HPL := rsPlus r (shfL F G kd y0) HV.out.rn (by rw [← HRL.out]; omega) (by have := HGLE.out; omega) (fun j => by have := HRE.out j; omega) (fun j => by have := shfL_el hF HGE.out kd y0 j; omega) (some ⟨rb, ro, none⟩) A9 cr c9 w9 (by rw [← HRL.out]; exact HRD9.out) hr9
      rw [← HRL.out] at HPL
      have HPL := Lib.hid HPL
      clear hO9 hr9 hc9 hb9 hsl HSH HRD8 HBB8 HAR8
      go_wp2_with fail
      refine HPL.out.mono ?_
      rintro e w10 ⟨v10, rfl, hown10, hb10⟩
      have HO10 : Hid (OwnI w10 H v10 (plus r (shfL F G kd y0))) := Lib.hid ((show OwnI w10 w9.heap.size v10 _ from hown10).lower (Nat.le_of_lt HAR9.out.lt))
      have HBB10 := Lib.hid (HBB9.out.trans (hb10.mono HBB9.out.size))
      have HAR10 := Lib.hid (HAR9.out.below hb10 HAR9.out.lt)
      obtain ⟨r', hr'⟩ : ∃ r', r' = plus r (shfL F G kd y0) := ⟨_, rfl⟩
      obtain ⟨q', hq'⟩ : ∃ q', q' = plus q (monL kd y0) := ⟨_, rfl⟩
      rw [← hr'] at HO10 HST
      rw [← hq'] at HST
      clear hown10 hb10 hr' hq' HPL HRD9 HBB9 HAR9
      go_wp2_with fail
      go_roundg (gk - 1)
      case measure => omega
      case rel => exact ⟨q', r', HO10, Lib.hid HST.out.1, HAR10, HBB10, Lib.hid (by have := HKK.out; rcases HST.out.2 with h | h; exact .inr (by have := HRL.out; omega); exact .inl h)⟩
    · have hge1 : ((gl : Int) ≤ (rl : Int)) = False := by simp; omega
      have hge2 : decide (gl ≤ rl) = false := by simp; omega
      have HBW : Hid (Below w.heap.size w wi) := Lib.hid (by
        have h5 := HB4.out.trans (HBB.out.mono HH3.out)
        rw [HH.out] at h5; exact h5)
      go_wp2_with fail
      go_ret
      refine ⟨.slice Ar rl cr, q, r, rfl, ?_, HV.out, by have := HRL.out; have := HGL1.out; omega, HBW.out⟩
      have h5 := HO.out
      rw [HH.out] at h5
      rw [HRL.out]
      exact h5

set_option maxRecDepth 100000 in
set_option maxHeartbeats 3200000 in
theorem rsGenerator (F : Fld) (hF : Six F) (ec : Nat) (hecl : ec < 3000) (w : World) :
    Calls Tryz.prog 50 #[fv F, .int .i64 ec] w (OwnPost (gen F ec) w) := by
  have hs := hF.bounds
  have HPW := Lib.hid (fun W => rsPower F hF F.base (by omega) W)
  have HTM := Lib.hid (fun x hx W => rsTimes F hF x 2 2 rfl hx (by omega) W)
  have HGE := Lib.hid (gen_el hF)
  have HGN := Lib.hid (gen_ne F)
  have HGL := Lib.hid (fun k => (gen_top hF k).1)
  have HPR := Lib.hid (fun (a : List Nat) (e : Nat) (h1 : a ≠ []) (h2 : a.length < 5000) (h3 : El F a) (h4 : e < F.size) A B c d W hA hB => rsProduct F hF a [1, e] h1 (by simp) h2 (by simp) h3 (lin_el hF h4) A B c d W hA hB)
  have hAr : Arr (w.alloc (.cells #[.int .i64 F.prim, .int .i64 F.size, .int .i64 F.base] 71)) 71 w.heap.size [.int .i64 F.prim, .int .i64 F.size, .int .i64 F.base] := Arr.new _ _ _
  have hb0 : Below w.heap.size w (w.alloc (.cells #[.int .i64 F.prim, .int .i64 F.size, .int .i64 F.base] 71)) := (Below.refl _ _).alloc (Nat.le_refl _) _
  have HOL := Lib.hid (World.ownsRow_lit (e := 3) (size := 1) (w.alloc (.cells #[.int .i64 F.prim, .int .i64 F.size, .int .i64 F.base] 71)) #[.int .i64 1] 1 (Nat.le_refl _) (by unfold maxLen; omega) rfl)
  unfold fv at *
  go_enter Tryz.func50, Tryz.ntmps50
  go_upto_region 2 with (fail)
  obtain ⟨W0, hW0⟩ : ∃ W0, W0 = (w.alloc (.cells #[.int .i64 F.prim, .int .i64 F.size, .int .i64 F.base] 71)).alloc (.cells #[.int .i64 1] 3) := ⟨_, rfl⟩
  obtain ⟨H, hH⟩ : ∃ H, H = w.heap.size := ⟨_, rfl⟩
  have HAR : Hid (Arr W0 71 H [.int .i64 F.prim, .int .i64 F.size, .int .i64 F.base]) := Lib.hid (by rw [hW0, hH]; exact hAr.below ((Below.refl _ _).alloc (Nat.le_refl _) _) (by simp))
  have HB0 : Hid (Below H w W0) := Lib.hid (by rw [hW0, hH]; exact hb0.alloc (by simp) _)
  have HO0 : Hid (OwnI W0 (H + 1) (.slice (some ⟨H + 1, 0, none⟩) 1 1) (gen F 0)) := Lib.hid (by
    rw [hW0, hH]
    have h5 := HOL.out
    simp only [World.size_alloc] at h5
    exact h5)
  rw [← hW0, ← hH]
  have HH := Lib.hid hH
  obtain ⟨f0, f1, f2⟩ := fcells HAR.out
  clear hW0 hH hAr hb0 HOL
  go_wp2_with fail
  refine (HPW.out _).mono ?_
  rintro e w1 ⟨rfl, hb1⟩
  have HAR1 := Lib.hid (HAR.out.below hb1 HAR.out.lt)
  have HB1 : Hid (Below H w w1) := Lib.hid (HB0.out.trans (hb1.mono (Nat.le_of_lt HAR.out.lt)))
  have HO1 := Lib.hid (HO0.out.below hb1)
  obtain ⟨x0, hx0⟩ : ∃ x0, x0 = ex F F.base := ⟨_, rfl⟩
  have HX0 : Hid (x0 = ex F (0 + F.base)) := Lib.hid (by rw [hx0, Nat.zero_add])
  rw [← hx0]
  clear hb1 HAR HB0 HO0 HPW f0 f1 f2 hx0
  go_wp2_with fail
  go_loopw [5, 6, 7] (fun u x i wr => ∃ k y : Nat, k ≤ ec ∧ i = .int .i64 k ∧ x = .int .i64 y ∧ Hid (y = ex F (k + F.base)) ∧ Hid (OwnI wr (H + 1) u (gen F k)) ∧ Hid (Arr wr 71 H [.int .i64 F.prim, .int .i64 F.size, .int .i64 F.base]) ∧ Hid (Below H w wr)) (fun _ _ i _ => ec - (intOf i).toNat)
  case atStart => exact ⟨0, x0, by omega, rfl, rfl, HX0, HO1, HAR1, HB1⟩
  case round =>
    obtain ⟨k, y, hk, rfl, rfl, HY, HO, HAR, HB⟩ := hrel
    clear HX0 HO1 HAR1 HB1
    obtain ⟨wi, hwi⟩ : ∃ wi, wi = wr := ⟨_, rfl⟩
    rw [← hwi] at HO HAR HB ⊢
    clear hwi
    by_cases hlt : k < ec
    · have hk1 : (k : Int) < (ec : Int) := by omega
      obtain ⟨A, c, hv, hc, hrd⟩ := HO.out.rd
      subst hv
      have hyl : y < F.size := by rw [HY.out]; exact ex_lt F (by omega) _
      have hb2 : Below wi.heap.size wi (wi.alloc (.cells #[.int .i64 1, .int .i64 (y : Nat)] 3)) := (Below.refl _ _).alloc (Nat.le_refl _) _
      have HP := Lib.hid (HPR.out (gen F k) y (HGN.out k) (by rw [HGL.out]; omega) (HGE.out k) hyl A (some ⟨wi.heap.size, 0, none⟩) c 2 (wi.alloc (.cells #[.int .i64 1, .int .i64 (y : Nat)] 3)) (hrd.below hb2) ((Arr.new wi 3 [.int .i64 1, .int .i64 (y : Nat)]).rd _ (fun j hj => by
        have : j = 0 ∨ j = 1 := by simp at hj; omega
        rcases this with rfl | rfl <;> rfl)))
      have HAR2 := Lib.hid (HAR.out.below hb2 HAR.out.lt)
      have HB2 : Hid (Below H w (wi.alloc (.cells #[.int .i64 1, .int .i64 (y : Nat)] 3))) := Lib.hid (HB.out.trans (hb2.mono (Nat.le_of_lt HAR.out.lt)))
      have HT := Lib.hid (HTM.out y hyl)
      obtain ⟨f0, f1, f2⟩ := fcells HAR.out
      obtain ⟨gl, hgl⟩ : ∃ gl, gl = (gen F k).length := ⟨_, rfl⟩
      rw [← hgl] at HP ⊢
      clear hrd hb2 hgl hc HO HB
      go_wp2_with fail
      obtain ⟨W2, hW2⟩ : ∃ W2, W2 = wi.alloc (.cells #[.int .i64 1, .int .i64 (y : Nat)] 3) := ⟨_, rfl⟩
      rw [← hW2] at HP HAR2 HB2 ⊢
      clear hW2 f0 f1 f2 HAR
      refine HP.out.mono ?_
      rintro e w3 ⟨v3, rfl, hown3, hb3⟩
      have HO3 : Hid (OwnI w3 (H + 1) v3 (prod F (gen F k) [1, y])) := Lib.hid ((show OwnI w3 W2.heap.size v3 _ from hown3).lower HAR2.out.lt)
      have HAR3 := Lib.hid (HAR2.out.below hb3 HAR2.out.lt)
      have HB3 : Hid (Below H w w3) := Lib.hid (HB2.out.trans (hb3.mono (Nat.le_of_lt HAR2.out.lt)))
      clear hown3 hb3 HP HAR2 HB2
      obtain ⟨f0, f1, f2⟩ := fcells HAR3.out
      go_wp2_with fail
      refine (HT.out _).mono ?_
      rintro e w4 ⟨rfl, hb4⟩
      have HO4 : Hid (OwnI w4 (H + 1) v3 (gen F (k + 1))) := Lib.hid (by
        have h5 := HO3.out.below hb4
        rw [HY.out] at h5; exact h5)
      have HAR4 := Lib.hid (HAR3.out.below hb4 HAR3.out.lt)
      have HB4 : Hid (Below H w w4) := Lib.hid (HB3.out.trans (hb4.mono (Nat.le_of_lt HAR3.out.lt)))
      have HY4 : Hid (mul F y 2 = ex F (k + 1 + F.base)) := Lib.hid (by
        rw [mul_two hF hyl, HY.out, show k + 1 + F.base = (k + F.base) + 1 by omega]; rfl)
      obtain ⟨y2, hy2⟩ : ∃ y2, y2 = mul F y 2 := ⟨_, rfl⟩
      rw [← hy2] at HY4 ⊢
      clear hb4 HO3 HAR3 HB3 HT hy2 f0 f1 f2
      go_wp2_with fail
      go_roundw
      case rel => exact ⟨k + 1, y2, by omega, by go_num, rfl, HY4, HO4, HAR4, HB4⟩
      case measure => simp [intOf]; omega
    · obtain rfl : k = ec := by omega
      have hk1 : ((k : Int) < (k : Int)) = False := by simp
      go_wp2_with fail
      go_ret
      refine ⟨_, rfl, ?_, by rw [← HH.out]; exact HB.out⟩
      exact HO.out.lower (by rw [HH.out]; omega)

/-- Data with words behind it that make the whole zero at each root. -/
structure Code (F : Fld) (data : List Nat) (ec : Nat) (L : List Nat) : Prop where
  len : L.length = data.length + ec
  el : El F L
  root : ∀ i, i < ec → ev F L (ex F (i + F.base)) = 0
  pre : L.take data.length = data
def CodeS (F : Fld) (data : List Nat) (ec : Nat) (w : World) (e : Ending) (w' : World) : Prop := ∃ v L, e = .returned v ∧ OwnI w' w.heap.size v L ∧ Code F data ec L ∧ Below w.heap.size w w'
theorem coded_take (data r : List Nat) (ec : Nat) : (coded data r ec).take data.length = data := by
  unfold coded
  rw [List.append_assoc, List.take_append_of_le_length (Nat.le_refl _), List.take_length]

set_option maxRecDepth 100000 in
set_option maxHeartbeats 6400000 in
theorem rsEncodeS (F : Fld) (hF : Six F) (data : List Nat) (ec : Nat) (h1 : 1 ≤ ec) (hd0 : data ≠ []) (hdl : data.length + ec < 2500) (hde : El F data) (A : Option Addr) (c : Nat) (hc : data.length ≤ c) (w : World) (h : Rd w A data.length (fun j => .int .i64 (nth data j : Nat))) :
    Calls Tryz.prog 25 #[fv F, .slice A data.length c, .int .i64 ec] w (CodeS F data ec w) := by
  have hs := hF.bounds
  have hdp := List.length_pos_iff.2 hd0
  have hb0 : Below w.heap.size w (w.alloc (.cells #[.int .i64 F.prim, .int .i64 F.size, .int .i64 F.base] 71)) := (Below.refl _ _).alloc (Nat.le_refl _) _
  have hAr : Arr (w.alloc (.cells #[.int .i64 F.prim, .int .i64 F.size, .int .i64 F.base] 71)) 71 w.heap.size [.int .i64 F.prim, .int .i64 F.size, .int .i64 F.base] := Arr.new _ _ _
  obtain ⟨W0, hW0⟩ : ∃ W0, W0 = w.alloc (.cells #[.int .i64 F.prim, .int .i64 F.size, .int .i64 F.base] 71) := ⟨_, rfl⟩
  obtain ⟨H, hH⟩ : ∃ H, H = w.heap.size := ⟨_, rfl⟩
  have hrd := h.below hb0
  rw [← hW0, ← hH] at hAr hb0
  rw [← hW0] at hrd
  have HAR := Lib.hid hAr
  have HB0 : Hid (Below H w W0) := Lib.hid (by rw [hH] at hb0 ⊢; exact hb0)
  have HW0 := Lib.hid hW0
  have HH := Lib.hid hH
  have HRD := Lib.hid hrd
  -- the pieces
  obtain ⟨P, hP⟩ : ∃ P, P = tidy (data ++ List.replicate ec 0) := ⟨_, rfl⟩
  have hPl : P.length ≤ data.length + ec := by
    have h5 := tidy_length (data ++ List.replicate ec 0)
    rw [← hP] at h5
    simpa using h5
  have hPn : P ≠ [] := by rw [hP]; exact tidy_ne _ (by simp [hd0])
  have hPt : tidy P = P := by rw [hP]; exact tidy_tidy _
  have hPe : El F P := by
    rw [hP]
    refine El.tidy (fun j => ?_)
    rw [nth_append]
    split
    · exact hde _
    · rw [nth_replicate]; split <;> omega
  obtain ⟨G, hG⟩ : ∃ G, G = gen F ec := ⟨_, rfl⟩
  have keep : ∀ W W' : World, (W.cell? ⟨H, 0, none⟩ = some (.int .i64 F.prim) ∧ W.cell? ⟨H, 1, none⟩ = some (.int .i64 F.size) ∧ W.cell? ⟨H, 2, none⟩ = some (.int .i64 F.base) ∧ Hid (Below W0.heap.size W0 W)) → Below W.heap.size W W' → (W'.cell? ⟨H, 0, none⟩ = some (.int .i64 F.prim) ∧ W'.cell? ⟨H, 1, none⟩ = some (.int .i64 F.size) ∧ W'.cell? ⟨H, 2, none⟩ = some (.int .i64 F.base) ∧ Hid (Below W0.heap.size W0 W')) := fun W W' hW hb => by
    have hB : Below W0.heap.size W0 W' := hW.2.2.2.out.trans (hb.mono hW.2.2.2.out.size)
    obtain ⟨f0, f1, f2⟩ := fcells (HAR.out.below hB HAR.out.lt)
    exact ⟨f0, f1, f2, Lib.hid hB⟩
  have HX := fun (W : World) (hW : (W.cell? ⟨H, 0, none⟩ = some (.int .i64 F.prim) ∧ W.cell? ⟨H, 1, none⟩ = some (.int .i64 F.size) ∧ W.cell? ⟨H, 2, none⟩ = some (.int .i64 F.base) ∧ Hid (Below W0.heap.size W0 W))) =>
    (rsShifted data hd0 (by omega) ec (by omega) A c W (HRD.out.below hW.2.2.2.out)).mono (R' := fun e w' => ∃ (A1 : Option Addr) (c1 : Nat), e = .returned (.slice A1 P.length c1) ∧ Hid (P.length ≤ c1 ∧ Rd w' A1 P.length (fun j => .int .i64 (nth P j : Nat))) ∧ (w'.cell? ⟨H, 0, none⟩ = some (.int .i64 F.prim) ∧ w'.cell? ⟨H, 1, none⟩ = some (.int .i64 F.size) ∧ w'.cell? ⟨H, 2, none⟩ = some (.int .i64 F.base) ∧ Hid (Below W0.heap.size W0 w'))) (by
      rintro e w' ⟨v, rfl, hO, hb⟩
      rw [← hP] at hO
      obtain ⟨A1, c1, rfl, hc1, hr1⟩ := hO.rd
      exact ⟨A1, c1, rfl, Lib.hid ⟨hc1, hr1⟩, keep W w' hW hb⟩)
  have HY := fun (W : World) (hW : (W.cell? ⟨H, 0, none⟩ = some (.int .i64 F.prim) ∧ W.cell? ⟨H, 1, none⟩ = some (.int .i64 F.size) ∧ W.cell? ⟨H, 2, none⟩ = some (.int .i64 F.base) ∧ Hid (Below W0.heap.size W0 W))) =>
    (rsGenerator F hF ec (by omega) W).mono (R' := fun e w' => ∃ (A2 : Option Addr) (c2 : Nat), e = .returned (.slice A2 G.length c2) ∧ Hid (G.length ≤ c2 ∧ Rd w' A2 G.length (fun j => .int .i64 (nth G j : Nat))) ∧ Hid (Below W.heap.size W w') ∧ (w'.cell? ⟨H, 0, none⟩ = some (.int .i64 F.prim) ∧ w'.cell? ⟨H, 1, none⟩ = some (.int .i64 F.size) ∧ w'.cell? ⟨H, 2, none⟩ = some (.int .i64 F.base) ∧ Hid (Below W0.heap.size W0 w'))) (by
      rintro e w' ⟨v, rfl, hO, hb⟩
      rw [← hG] at hO
      obtain ⟨A2, c2, rfl, hc2, hr2⟩ := hO.rd
      exact ⟨A2, c2, rfl, Lib.hid ⟨hc2, hr2⟩, Lib.hid hb, keep W w' hW hb⟩)
  have HZ := fun (W : World) (hW : (W.cell? ⟨H, 0, none⟩ = some (.int .i64 F.prim) ∧ W.cell? ⟨H, 1, none⟩ = some (.int .i64 F.size) ∧ W.cell? ⟨H, 2, none⟩ = some (.int .i64 F.base) ∧ Hid (Below W0.heap.size W0 W))) (A1 A2 : Option Addr) (c1 c2 : Nat) (hp1 : P.length ≤ c1 ∧ Rd W A1 P.length (fun j => .int .i64 (nth P j : Nat))) (hp2 : G.length ≤ c2 ∧ Rd W A2 G.length (fun j => .int .i64 (nth G j : Nat))) =>
    (rsRest F hF P ec h1 (by omega) hPn (by omega) hPt hPe A1 A2 c1 c2 hp1.1 (by rw [← hG]; exact hp2.1) W hp1.2 (by rw [← hG]; exact hp2.2)).mono (R' := fun e w' => ∃ (A3 : Option Addr) (c3 : Nat) (r : List Nat), e = .returned (.slice A3 r.length c3) ∧ Hid (r.length ≤ c3 ∧ Rd w' A3 r.length (fun j => .int .i64 (nth r j : Nat)) ∧ r.length ≤ ec ∧ Code F data ec (coded data r ec) ∧ El F r) ∧ (w'.cell? ⟨H, 0, none⟩ = some (.int .i64 F.prim) ∧ w'.cell? ⟨H, 1, none⟩ = some (.int .i64 F.size) ∧ w'.cell? ⟨H, 2, none⟩ = some (.int .i64 F.base) ∧ Hid (Below W0.heap.size W0 w'))) (by
      rintro e w' ⟨v, q, r, rfl, hO, hv, hrl, hb⟩
      obtain ⟨A3, c3, rfl, hc3, hr3⟩ := hO.rd
      rw [hP] at hv
      exact ⟨A3, c3, r, rfl, Lib.hid ⟨hc3, hr3, hrl, ⟨coded_length hrl, coded_el hF hde hv.re, rest_coded hF hde hd0 hv hrl, coded_take data r ec⟩, hv.re⟩, keep W w' hW hb⟩)
  rw [← hG] at HZ
  obtain ⟨pl, hpl⟩ : ∃ pl, pl = P.length := ⟨_, rfl⟩
  obtain ⟨gl, hgl⟩ : ∃ gl, gl = G.length := ⟨_, rfl⟩
  rw [← hpl] at HX HZ
  rw [← hgl] at HY HZ
  unfold fv at HY HZ ⊢
  have HX := Lib.hid HX
  have HY := Lib.hid HY
  have HZ := Lib.hid HZ
  obtain ⟨f0, f1, f2⟩ := fcells HAR.out
  have hs0 := keep W0 W0.drew ⟨f0, f1, f2, Lib.hid (Below.refl _ _)⟩ (Below.refl _ _).drew
  clear hs hb0 hAr hW0 hH hrd hP hPl hPn hPt hPe hG keep hpl hgl h hde hd0
  go_enter Tryz.func25, Tryz.ntmps25
  go_wp2_with fail
  rw [← HW0.out, ← HH.out]
  go_region_held3 (fun w' => w'.cell? ⟨H, 0, none⟩ = some (.int .i64 F.prim) ∧ w'.cell? ⟨H, 1, none⟩ = some (.int .i64 F.size) ∧ w'.cell? ⟨H, 2, none⟩ = some (.int .i64 F.base) ∧ Hid (Below W0.heap.size W0 w'))
    (first | exact hs0 | exact hs3 | exact hs4 | exact hs5)
    (first | (go_at_call 49; refine (HX.out _ (by assumption)).mono ?_; rintro e w3 ⟨A1, c1, rfl, hp1, hs3⟩) | (go_at_call 50; refine (HY.out _ (by assumption)).mono ?_; rintro e w4 ⟨A2, c2, rfl, hp2, hb34, hs4⟩) | (go_at_call 48; refine (HZ.out _ (by assumption) A1 A2 c1 c2 ⟨hp1.out.1, hp1.out.2.below hb34.out⟩ hp2.out).mono ?_; rintro e w5 ⟨A3, c3, r, rfl, hp3, hs5⟩))
  obtain ⟨hc3, hr3, hrl3, hcode, hre⟩ := hp3.out
  have HBW5 := Lib.hid hs5.2.2.2.out
  have HCODE := Lib.hid hcode
  have HR3 := Lib.hid hr3
  have HRD5 := Lib.hid (HRD.out.below HBW5.out)
  have HBA : Hid (Below w.heap.size w w5) := Lib.hid (by
    have h5 := HB0.out.trans (HBW5.out.mono (Nat.le_of_lt HAR.out.lt))
    rw [HH.out] at h5; exact h5)
  have hb6 : Below w5.heap.size w5 (w5.alloc (.cells #[] 3)) := (Below.refl _ _).alloc (Nat.le_refl _) _
  have hown := World.ownsRow_lit (e := 3) (size := 1) w5 #[] 0 (Nat.le_refl w5.heap.size) (by unfold maxLen; omega) rfl
  have hrd6 := HRD5.out.alloc (.cells #[] 3)
  have HRN := Lib.hid (range_nth data)
  obtain ⟨rl, hrl⟩ : ∃ rl, rl = r.length := ⟨_, rfl⟩
  have HRL := Lib.hid hrl
  rw [← hrl] at hc3 HR3 hrl3 ⊢
  clear hs0 hs3 hs4 hs5 hp1 hp2 hp3 hr3 hcode hre hb34 HX HY HZ f0 f1 f2 hrl
  go_wp2_with (at_builtin; refine wpList_copyTo _ _ 24 w5.heap.size 3 (.int .i64 0) 8 _ 0 [] _ _ _ _ rfl rfl rfl rfl Tryz.underlying24 Tryz.infoInt rfl (fun j _ => rfl) (by decide) hown hrd6 (by omega) hb6.size ?_)
  intro v6 w6 hown6 hg6 hb7
  rw [HRN.out] at hown6
  have HO6 : Hid (OwnI w6 w5.heap.size v6 (data ++ List.replicate (rl - rl) 0)) := Lib.hid (by
    rw [Nat.sub_self, List.replicate_zero, List.append_nil]
    simpa [OwnI, ints] using hown6)
  have HB6 : Hid (Below w5.heap.size w5 w6) := Lib.hid (hb6.trans hb7)
  clear hown6 hg6 hb7 hown hrd6 hb6
  go_wp2_with fail
  go_loopw [8, 9] (fun u i wr => ∃ k : Nat, rl ≤ k ∧ k ≤ ec ∧ i = .int .i64 k ∧ Hid (OwnI wr w5.heap.size u (data ++ List.replicate (k - rl) 0)) ∧ Hid (Below w5.heap.size w5 wr)) (fun _ i _ => ec - (intOf i).toNat)
  case atStart => exact ⟨rl, Nat.le_refl _, hrl3, rfl, HO6, HB6⟩
  case round =>
    obtain ⟨k, hk0, hk, rfl, HO, HB⟩ := hrel
    clear HO6 HB6
    by_cases hlt : k < ec
    · have hk1 : (k : Int) < (ec : Int) := by omega
      have hlen : (data ++ List.replicate (k - rl) 0).length = data.length + (k - rl) := by simp
      have hO := HO.out
      unfold OwnI at hO
      rw [hlen] at hO
      have HO2 := Lib.hid hO
      have HSZ := Lib.hid HB.out.size
      have hll : data.length + (k - rl) < 5000 := by omega
      obtain ⟨nl, hnl⟩ : ∃ nl, nl = data.length + (k - rl) := ⟨_, rfl⟩
      rw [← hnl] at HO2 hll
      have HNL := Lib.hid hnl
      clear hO hlen HO hnl
      go_wp2_with (at_builtin; refine wpList_push _ _ 24 w5.heap.size 3 (.int .i64 0) 8 _ nl _ (.int .i64 0) rfl rfl rfl rfl Tryz.underlying24 Tryz.infoInt rfl rfl (by decide) HO2.out (by omega) HSZ.out ?_)
      intro v' w' hown' hg' hb'
      have HO3 : Hid (OwnI w' w5.heap.size v' (data ++ List.replicate (k + 1 - rl) 0)) := Lib.hid (by
        unfold OwnI
        have e : data ++ List.replicate (k + 1 - rl) 0 = (data ++ List.replicate (k - rl) 0) ++ [0] := by
          rw [show k + 1 - rl = (k - rl) + 1 by omega, List.replicate_succ', List.append_assoc]
        rw [e, ints_append]
        have el : (data ++ List.replicate (k - rl) 0 ++ [0]).length = nl + 1 := by rw [HNL.out]; simp; omega
        rw [el]
        exact hown')
      have HB3 := Lib.hid (HB.out.trans hb')
      clear hown' hg' hb' HO2 HB
      go_wp2_with fail
      go_roundw
      case rel => exact ⟨k + 1, by omega, by omega, by go_num, HO3, HB3⟩
      case measure => simp [intOf]; omega
    · obtain rfl : k = ec := by omega
      have hk1 : ((k : Int) < (k : Int)) = False := by simp
      have hmx : (if (0 : Int) < (rl : Int) - (k : Int) then (rl : Int) - (k : Int) else 0) = 0 := by rw [if_neg (by omega)]
      have hmx2 : max 0 ((rl : Int) - (k : Int)) = 0 := by omega
      have hneg : ((0 : Int) < (rl : Int) - (k : Int)) = False := by simp; omega
      have hlen : (data ++ List.replicate (k - rl) 0).length = data.length + (k - rl) := by simp
      have hO := HO.out
      unfold OwnI at hO
      rw [hlen] at hO
      have HO2 := Lib.hid hO
      have HSZ := Lib.hid HB.out.size
      have HR9 := Lib.hid (HR3.out.below HB.out)
      have HRN3 := Lib.hid (range_nth r)
      clear hO hlen HO
      go_wp2_with (at_builtin; refine wpList_copyTo _ _ 24 w5.heap.size 3 (.int .i64 0) 8 _ _ _ A3 rl c3 (fun j => .int .i64 (nth r j : Nat)) rfl rfl rfl rfl Tryz.underlying24 Tryz.infoInt rfl (fun j _ => rfl) (by decide) HO2.out HR9.out (by omega) HSZ.out ?_)
      intro v' w' hown' hg' hb'
      have HO3 : Hid (OwnI w' w5.heap.size v' (coded data r k)) := Lib.hid (by
        unfold OwnI
        have e1 : (coded data r k).length = data.length + (k - rl) + rl := by have := HRL.out; unfold coded; simp only [List.length_append, List.length_replicate]; omega
        rw [e1]
        have e2 : (List.range rl).map (fun j => Value.int .i64 (nth r j : Nat)) = ints r := by rw [HRL.out]; exact HRN3.out
        rw [e2, ← ints_append] at hown'
        unfold coded
        rw [HRL.out] at hown' ⊢
        exact hown')
      have HBF : Hid (Below w.heap.size w w') := Lib.hid (HBA.out.trans ((HB.out.trans hb').mono HBA.out.size))
      have HSF := Lib.hid HBA.out.size
      clear hown' hg' hb' HO2
      go_wp2_with fail
      go_ret
      exact ⟨v', coded data r k, rfl, HO3.out.lower HSF.out, HCODE.out, HBF.out⟩
end Go.Proofs.YtiielblnmfeapaaGreatDoor
