/-
  FnODRuns, the rest: ODRuns of the reference, impl.ODRuns, and the law. No condition.
-/
import Derived.Test.YtpgkbhlgechpmaaODR
import Derived.Test.YtpgkbhlgechpmaaRSame
import Derived.Test.YtpgkbhlgechpmaaBIB
namespace Go.Proofs.Ytpgkbhlgechpmaa
open Go.RowKit Go.Qz
set_option linter.unusedVariables false

theorem Try.infoInt : (Try.prog.info? 3).map (fun i => (i.zero, i.size, i.bytes)) = some (some (.int .i64 0), 1, 8) := by kernel_rfl

theorem runF_length (r : Nat → Bool) (many : Nat) : ∀ f i p cur l, (runF r many f i p cur l).1.length = l.length
  | 0, _, _, _, _ => rfl
  | f + 1, i, p, cur, l => by
    unfold runF
    split
    · rw [runF_length]; simp
    · split
      · rfl
      · rw [runF_length]; simp
theorem errIface : Try.prog.underlying 62 = some (.interface (Try.prog.methodsAt 62)) := by kernel_rfl

/-- Runs are returned, and whether all was well. -/
def SpecRuns (w : World) (many : Nat) (R : List Nat × Bool) (e : Ending) (w' : World) : Prop :=
  ∃ (b : Nat) (l : List Nat) (f : Bool), e = .returned (.tuple #[.slice (some ⟨b, 0, none⟩) many many, .bool f]) ∧ IA w' 3 b l ∧ l.length = many ∧ Below w.heap.size w w' ∧ (l, f) = R

set_option maxRecDepth 100000 in
set_option maxHeartbeats 1600000 in
theorem specRuns (r : Nat → Bool) (many start n c : Nat) (A : Option Addr) (S M : Int) (hS : S = start) (hM : M = many) (w : World) (hr : Rd w A n (fun j => .bool (r j))) (hn : n ≤ 200) (hst : start < n) (hm1 : 1 ≤ many) (hm : many ≤ 12) :
    Calls Try.prog 27 #[.slice A n c, .int .i64 S, .int .i64 M] w fun e w' => SpecRuns w many (runF r many (n - start) start 0 (r start) (List.replicate many 0)) e w' := by
  subst hS hM
  obtain ⟨R, hR⟩ : ∃ R, R = runF r many (n - start) start 0 (r start) (List.replicate many 0) := ⟨_, rfl⟩
  rw [← hR]
  have HR := Lib.hid hR.symm
  clear hR
  have hmk := fun W => run_make1 (P := Try.prog) 28 3 (.int .i64 0) 8 Try.underlying28 Try.infoInt rfl (by decide) many (by omega) .i64 .i64 many rfl W
  have hr1 := hr.alloc (.cells (zeros many (.int .i64 0)) 3)
  have hb1 : Below w.heap.size w (w.alloc (.cells (zeros many (.int .i64 0)) 3)) := (Below.refl _ _).alloc (Nat.le_refl _) _
  have hia := IA.zeros w 3 many
  obtain ⟨b0, off, rfl, hb0, hc⟩ := hr1 (by omega)
  have hcs := hc start hst; dsimp only at hcs
  have hsn : ¬ ((n : Int) ≤ start) := by omega
  have HC := Lib.hid hc
  have hbw : b0 < w.heap.size := by
    rcases hr (by omega) with ⟨b, o, e, h, _⟩
    rw [Option.some.injEq, Addr.mk.injEq] at e
    omega
  clear hc hr hr1
  go_enter Try.func27, Try.ntmps27
  go_wp2_with fail
  have hsz : w.heap.size ≤ w.heap.size := Nat.le_refl _
  go_loopw [9, 10, 11] (fun q a j wr2 => ∃ (i pos : Nat) (cur : Bool) (l : List Nat), start ≤ i ∧ i ≤ n ∧ pos < many ∧ nth l pos ≤ i ∧ a = .bool cur ∧ q = .int .i64 pos ∧ j = .int .i64 i ∧ IA wr2 3 w.heap.size l ∧ Hid (l.length = many) ∧ Below w.heap.size w wr2 ∧ Rd wr2 (some ⟨b0, off, none⟩) n (fun j => .bool (r j)) ∧ Hid (∀ x, pos < x → nth l x = 0) ∧ b0 < w.heap.size ∧ Hid (runF r many (n - i) i pos cur l = R)) (fun _ _ j _ => n - (intOf j).toNat)
  case atStart => exact ⟨start, 0, r start, _, by omega, by omega, by omega, by rw [nth_replicate]; split <;> omega, rfl, rfl, rfl, hia, Lib.hid (by simp), hb1, fun _ => ⟨b0, off, rfl, hb0, HC.out⟩, Lib.hid (fun x _ => by rw [nth_replicate]; split <;> rfl), hbw, HR⟩
  case round =>
    obtain ⟨i, pos, cur, l, hi1, hi2, hpos, hcnt, rfl, rfl, rfl, hia2, hll, hmod2, hrd, hzero, _, hrun⟩ := hrel
    have hlp : pos < l.length := by have := hll.out; omega
    by_cases hlt : i < n
    · have hrun2 : Hid ((if r i = cur then runF r many (n - (i + 1)) (i + 1) pos cur (l.set pos (nth l pos + 1)) else if pos + 1 = many then (l, true) else runF r many (n - (i + 1)) (i + 1) (pos + 1) (!cur) (l.set (pos + 1) 1)) = R) := Lib.hid (by
        have := hrun.out
        rw [show n - i = (n - (i + 1)) + 1 by omega] at this
        exact this)
      obtain ⟨b3, off3, e3, hb3, hc3⟩ := hrd (by omega)
      have hci := hc3 i hlt; dsimp only at hci
      rw [Option.some.injEq, Addr.mk.injEq] at e3
      obtain ⟨rfl, rfl, _⟩ := e3
      clear hc3 hia hb1
      by_cases hri : r i = cur
      · have hc := hia2.cell hlp
        have hf := hia2.free pos
        have HS := Lib.hid (hia2.set_ pos (nth l pos + 1))
        have HM := Lib.hid (hmod2.setCell (p := ⟨w.heap.size, pos, none⟩) (Nat.le_refl _) (.int .i64 ((nth l pos + 1 : Nat) : Int)))
        have HRD : Hid (Rd (wr.setCell ⟨w.heap.size, pos, none⟩ (.int .i64 ((nth l pos + 1 : Nat) : Int))) (some ⟨b0, off, none⟩) n (fun j => .bool (r j))) := Lib.hid (Mod.rd (S := (· = w.heap.size)) hrd (Mod.set1 _ _ _ _) (fun a ha _ => by rw [Option.some.injEq] at ha; rw [← ha]; dsimp only; omega))
        have hr3 : Hid (runF r many (n - (i + 1)) (i + 1) pos cur (l.set pos (nth l pos + 1)) = R) := Lib.hid (by have := hrun2.out; rwa [if_pos hri] at this)
        have hl3 : Hid ((l.set pos (nth l pos + 1)).length = many) := Lib.hid (by rw [List.length_set]; exact hll.out)
        have hn3 : nth (l.set pos (nth l pos + 1)) pos ≤ i + 1 := by rw [nth_set hlp, if_pos rfl]; omega
        have hz3 : Hid (∀ x, pos < x → nth (l.set pos (nth l pos + 1)) x = 0) := Lib.hid (fun x hx => by rw [nth_set hlp, if_neg (by omega)]; exact hzero.out x hx)
        generalize l.set pos (nth l pos + 1) = l3 at *
        rw [hri] at hci
        clear hia2 hmod2 hrd hri
        cases cur
        all_goals
          go_wp2_with fail
          go_roundw
          case rel => exact ⟨i + 1, pos, _, l3, by omega, by omega, hpos, hn3, rfl, rfl, by go_num, HS.out, hl3, HM.out, HRD.out, hz3, hbw, hr3⟩
          case measure => simp [intOf]; omega
      · have hri2 : r i = !cur := by cases h1 : r i <;> cases cur <;> simp_all
        rw [hri2] at hci
        by_cases hend : pos + 1 = many
        · have hRR : Hid ((l, true) = R) := Lib.hid (by have := hrun2.out; rwa [if_neg hri, if_pos hend] at this)
          have hE := Lib.hid hend
          have hbe : (((pos : Int) + 1) == (many : Int)) = true := by rw [beq_iff_eq]; omega
          clear hend hri hri2 hrd
          cases cur
          all_goals
            go_wp2_with fail
            go_ret2
            exact ⟨_, l, true, rfl, hia2, hll.out, hmod2, hRR.out⟩
        · have hpk : pos + 1 < many := by omega
          have hlp2 : pos + 1 < l.length := by have := hll.out; omega
          have hc := hia2.cell hlp2
          rw [hzero.out (pos + 1) (by omega)] at hc
          have hf := hia2.free (pos + 1)
          have HS := Lib.hid (hia2.set_ (pos + 1) 1)
          have HM := Lib.hid (hmod2.setCell (p := ⟨w.heap.size, pos + 1, none⟩) (Nat.le_refl _) (.int .i64 ((1 : Nat) : Int)))
          have HRD : Hid (Rd (wr.setCell ⟨w.heap.size, pos + 1, none⟩ (.int .i64 ((1 : Nat) : Int))) (some ⟨b0, off, none⟩) n (fun j => .bool (r j))) := Lib.hid (Mod.rd (S := (· = w.heap.size)) hrd (Mod.set1 _ _ _ _) (fun a ha _ => by rw [Option.some.injEq] at ha; rw [← ha]; dsimp only; omega))
          have hr3 : Hid (runF r many (n - (i + 1)) (i + 1) (pos + 1) (!cur) (l.set (pos + 1) 1) = R) := Lib.hid (by have := hrun2.out; rwa [if_neg hri, if_neg hend] at this)
          have hl3 : Hid ((l.set (pos + 1) 1).length = many) := Lib.hid (by rw [List.length_set]; exact hll.out)
          have hn3 : nth (l.set (pos + 1) 1) (pos + 1) ≤ i + 1 := by rw [nth_set hlp2, if_pos rfl]; omega
          have hz3 : Hid (∀ x, pos + 1 < x → nth (l.set (pos + 1) 1) x = 0) := Lib.hid (fun x hx => by rw [nth_set hlp2, if_neg (by omega)]; exact hzero.out x (by omega))
          have hbe : (((pos : Int) + 1) == (many : Int)) = false := by rw [beq_eq_false_iff_ne]; omega
          generalize l.set (pos + 1) 1 = l3 at *
          clear hia2 hmod2 hrd hend hri hri2
          cases cur
          all_goals
            go_wp2_with fail
            go_roundw
            case rel => exact ⟨i + 1, pos + 1, _, l3, by omega, by omega, by omega, hn3, rfl, by go_num, by go_num, HS.out, hl3, HM.out, HRD.out, hz3, hbw, hr3⟩
            case measure => simp [intOf]; omega
    · obtain rfl : i = n := by omega
      have hRR : Hid ((l, decide (pos + 1 = many)) = R) := Lib.hid (by
        have := hrun.out
        rwa [show i - i = 0 by omega] at this)
      clear hia hb1
      by_cases hend : pos + 1 = many
      · have hbe : ((pos : Int) == (many : Int) - 1) = true := by rw [beq_iff_eq]; omega
        have hRR2 : Hid ((l, true) = R) := Lib.hid (by have := hRR.out; rwa [decide_eq_true hend] at this)
        clear hend hlt hrd
        go_wp2_with fail
        go_ret2
        exact ⟨_, l, true, rfl, hia2, hll.out, hmod2, hRR2.out⟩
      · have hbe : ((pos : Int) == (many : Int) - 1) = false := by rw [beq_eq_false_iff_ne]; omega
        have hRR2 : Hid ((l, false) = R) := Lib.hid (by have := hRR.out; rwa [decide_eq_false hend] at this)
        clear hend hlt hrd
        go_wp2_with fail
        go_ret2
        exact ⟨_, l, false, rfl, hia2, hll.out, hmod2, hRR2.out⟩

set_option maxRecDepth 100000 in
set_option maxHeartbeats 1600000 in
theorem implRuns (r : Nat → Bool) (many start n c : Nat) (A : Option Addr) (S M : Int) (hS : S = start) (hM : M = many) (w : World) (hr : Rd w A n (fun j => .bool (r j))) (hn : n ≤ 200) (hst : start < n) (hm1 : 1 ≤ many) (hm : many ≤ 12) :
    Calls Try.prog 26 #[.slice A n c, .int .i64 S, .int .i64 M, .bool false] w fun e w' => ∃ (v : Value) (l : List Nat) (f : Bool),
      e = .returned (.tuple #[v, .bool f]) ∧ (l, f) = runF r many (n - start) start 0 (r start) (List.replicate many 0) ∧ Below w.heap.size w w' ∧ (f = true → ∃ b, v = .slice (some ⟨b, 0, none⟩) many many ∧ IA w' 3 b l ∧ l.length = many) ∧ (f = false → v = .slice none 0 0) := by
  subst hS hM
  obtain ⟨R, hR⟩ : ∃ R, R = runF r many (n - start) start 0 (r start) (List.replicate many 0) := ⟨_, rfl⟩
  have hRl : R.1.length = many := by rw [hR, runF_length]; simp
  rw [← hR]
  have HR := Lib.hid hR.symm
  have HRL := Lib.hid hRl
  clear hR hRl
  have hmk := fun W => run_make1 (P := Try.prog) 28 3 (.int .i64 0) 8 Try.underlying28 Try.infoInt rfl (by decide) many (by omega) .i64 .i64 many rfl W
  have hr1 := hr.alloc (.cells (zeros many (.int .i64 0)) 3)
  have hb1 : Below w.heap.size w (w.alloc (.cells (zeros many (.int .i64 0)) 3)) := (Below.refl _ _).alloc (Nat.le_refl _) _
  have hia := IA.zeros w 3 many
  have hmx : (0 : Int) < many := by omega
  go_enter Try.func26, Try.ntmps26
  go_wp2_with fail
  refine (ba_array A n c r _ (by omega) hr1).mono ?_
  rintro e w1 ⟨p, g, ws, rfl, hba, hl, hbit, hb2, hp, hg⟩
  have hia2 := hia.mod (Mod.of_below (S := fun _ => False) hb2) (fun h => h)
  have hne1 : w.heap.size ≠ p := by simp at hp; omega
  have hne2 : w.heap.size ≠ g := by simp at hg; omega
  have hRP := recordPattern r many start p g n w.heap.size c _ rfl ws (List.replicate many 0) w1 hba hn hl (fun i hi => by rw [hbit]; simp [hi]) hst hm1 hm (by simp) hia2 hne1 hne2
  rw [HR.out] at hRP
  have HP := Lib.hid hRP
  have hB2 := Lib.hid hb2
  clear hRP hia2 hia hb2 hbit hl hba hr hr1
  go_wp2_with fail
  refine HP.out.mono ?_
  rintro e w2 ⟨v, l, f, rfl, hia3, hmod, hRR, hft, hff⟩
  have hbb : Below w.heap.size w1 w2 := hmod.below (by have := hB2.out.size; simp at this; omega) (fun k hk => by rw [hk]; exact Nat.le_refl _)
  have hb3 : Below w.heap.size w w2 := (hb1.trans (hB2.out.mono (by simp))).trans hbb
  have hll : l.length = many := by have := HRL.out; rw [← hRR] at this; exact this
  cases f
  · obtain ⟨x, rfl⟩ := hff rfl
    clear hft hff
    have hneq : ∀ W, (binOp .neq 62 (.iface 104 x) .nilIface).run Try.prog W = .ok (.bool true) W := fun W => run_neq_held_nil W _ _ _ errIface
    go_wp2_with fail
    go_ret2
    exact ⟨_, l, false, rfl, hRR, hb3, (fun h => by cases h), fun _ => rfl⟩
  · obtain rfl := hft rfl
    clear hft hff
    go_wp2_with fail
    go_ret2
    exact ⟨_, l, true, rfl, hRR, hb3, fun _ => ⟨_, rfl, hia3, hll⟩, fun h => by cases h⟩

set_option maxRecDepth 100000 in
set_option maxHeartbeats 1600000 in
theorem fnODRuns_walk (w : World) (A : Option Addr) (n c : Nat) (z : Nat → Bool) (hc : n ≤ c) (_ : c ≤ maxLen) (h : Rd w A n (fun j => .bool (z j)))
    (S : Int) (hS : (Lit.int .u8 S).wf = true) (M : Int) (hM : (Lit.int .u8 M).wf = true) :
    Calls Try.prog 8 #[.slice A n c, .int .u8 S, .int .u8 M] w fun e w' => e = .returned (.bool true) ∧ Below w.heap.size w w' := by
  obtain ⟨hS1, hS2⟩ := bd_u8 hS
  obtain ⟨hM1, hM2⟩ := bd_u8 hM
  by_cases hbig : 2147483647 < n
  · go_enter Try.func8, Try.ntmps8
    go_wp2_with fail
    go_ret
    exact ⟨rfl, Below.refl _ _⟩
  · go_enter Try.func8, Try.ntmps8
    go_wp2_with fail
    refine (biBits A n c 200 z _ (by omega) hc (by omega) h).mono ?_
    rintro e w1 ⟨x, rfl, hown, hb⟩
    obtain ⟨A', c', rfl, hc', _, hr⟩ := Rd.of_own hown
    have hr : Rd w1 A' (min n 200) (fun j => .bool (z j)) := hr.congr fun j hj => by
      rw [List.getD_eq_getElem?_getD, List.getElem?_map, List.getElem?_range hj]; rfl
    obtain ⟨N, hN, hNl⟩ : ∃ N, N = min n 200 ∧ N ≤ 200 := ⟨_, rfl, by omega⟩
    rw [← hN] at hr hc' ⊢
    clear hown h hN
    have HR := Lib.hid hr
    clear hr
    by_cases h0 : N = 0
    · subst h0
      go_wp2_with fail
      go_ret
      exact ⟨rfl, hb⟩
    · have hne : ((N : Int) == 0) = false := by simpa using (by omega : (N : Int) ≠ 0)
      obtain ⟨q, hq⟩ : ∃ q : Int, q = S % (N : Int) := ⟨_, rfl⟩
      have hq0 : 0 ≤ q := by rw [hq]; exact Int.emod_nonneg _ (by omega)
      have hq1 : q < N := by rw [hq]; exact Int.emod_lt_of_pos _ (by omega)
      go_wp2_with fail
      rw [← hq]
      refine (implRuns z (1 + M % 12).toNat q.toNat N c' A' _ _ (by omega) (by omega) _ HR.out hNl (by omega) (by omega) (by omega)).mono ?_
      rintro e w2 ⟨v, l, f, rfl, hR, hb2, hft, hff⟩
      have HRR := Lib.hid hR
      have HFT := Lib.hid hft
      have HFF := Lib.hid hff
      clear hR hft hff
      go_wp2_with fail
      rw [← hq]
      refine (specRuns z (1 + M % 12).toNat q.toNat N c' A' _ _ (by omega) (by omega) _ (HR.out.below hb2) hNl (by omega) (by omega) (by omega)).mono ?_
      rintro e w3 ⟨b, l2, f2, rfl, hia, hll, hb3, hR2⟩
      rw [← HRR.out] at hR2
      obtain ⟨rfl, rfl⟩ := Prod.mk.inj hR2
      have hbb := hb.trans ((hb2.mono hb.size).trans (hb3.mono (Nat.le_trans hb.size hb2.size)))
      cases f2
      · obtain rfl := HFF.out rfl
        go_wp2_with fail
        go_ret
        exact ⟨rfl, hbb⟩
      · obtain ⟨b2, rfl, hia2, _⟩ := HFT.out rfl
        have hia3 := hia2.mod (Mod.of_below (S := fun _ => False) hb3) (fun h => h)
        have hcall := rsSame (some ⟨b2, 0, none⟩) (some ⟨b, 0, none⟩) l2.length l2.length l2.length l2.length (fun j => (nth l2 j : Nat)) (fun j => (nth l2 j : Nat)) w3 (by omega) (by omega) hia3.rd hia.rd
        rw [hll] at hcall
        have HC := Lib.hid hcall
        clear hcall
        go_wp2_with fail
        refine HC.out.mono ?_
        rintro e w4 ⟨r, rfl, hr4, hb4⟩
        obtain rfl := hr4.2 ⟨rfl, fun _ _ => rfl⟩
        go_wp2_with fail
        go_ret
        exact ⟨rfl, hbb.trans (hb4.mono (Nat.le_trans hb.size (Nat.le_trans hb2.size hb3.size)))⟩
end Go.Proofs.Ytpgkbhlgechpmaa
