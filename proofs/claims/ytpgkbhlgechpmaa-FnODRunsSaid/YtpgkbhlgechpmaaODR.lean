/-
  FnODRuns: runs of a row. The walks of RecordPattern, ODRuns and RSSame, and the law. No condition.
-/
import Derived.Test.YtpgkbhlgechpmaaBA
import Derived.WideLaws
import Derived.Deep.QuietTactic
import Derived.BigQuiet
namespace Go.Proofs.Ytpgkbhlgechpmaa
open Go.RowKit Go.Qz
set_option linter.unusedVariables false

/-- What is left of reading runs: at pixel i, in run p, whose colour is cur; the runs, and whether all was well. -/
def runF (r : Nat → Bool) (many : Nat) : Nat → Nat → Nat → Bool → List Nat → List Nat × Bool
  | 0, _, p, _, l => (l, decide (p + 1 = many))
  | f + 1, i, p, cur, l => if r i = cur then runF r many f (i + 1) p cur (l.set p (nth l p + 1)) else if p + 1 = many then (l, true) else runF r many f (i + 1) (p + 1) (!cur) (l.set (p + 1) 1)

set_option maxRecDepth 100000 in
theorem exc_new (s : ByteArray) (A : Option Addr) (n c : Nat) (w : World) :
    Calls Try.prog 61 #[.string s, .slice A n c] w fun e w' => e = .returned (.agg #[.string s, .nilIface]) ∧ Below w.heap.size w w' := by
  go_enter Try.func61, Try.ntmps61
  go_wp2_with fail
  exact bodyPost_ret (v := .agg #[.string s, .nilIface]) (by simp [results, Try.results61, go_sem]) rfl ⟨rfl, (Below.refl _ _).alloc (Nat.le_refl _) _⟩

set_option maxRecDepth 100000 in
theorem notFound_new (A : Option Addr) (n c : Nat) (w : World) :
    Calls Try.prog 49 #[.slice A n c] w fun e w' => ∃ v, e = .returned (.iface 104 v) ∧ Below w.heap.size w w' := by
  go_enter Try.func49, Try.ntmps49
  go_wp2_with fail
  refine (exc_new _ _ _ _ _).mono ?_
  rintro e w' ⟨rfl, hb⟩
  go_wp2_with fail
  go_ret
  exact ⟨_, rfl, hb⟩

set_option maxRecDepth 100000 in
set_option maxHeartbeats 1600000 in
theorem recordPattern (r : Nat → Bool) (many start : Nat) (p g n b c : Nat) (S : Int) (hS : S = start) (ws l0 : List Nat) (w : World) (hba : BA w p g ws n) (hn : n ≤ 200) (hl : ws.length = (n + 31) / 32) (hr : ∀ i, i < n → bit ws i = r i)
    (hst : start < n) (hm1 : 1 ≤ many) (hm : many ≤ 12) (hl0 : l0.length = many) (hia : IA w 3 b l0) (hbp : b ≠ p) (hbg : b ≠ g) :
    Calls Try.prog 41 #[.pointer (some ⟨p, 0, none⟩), .int .i64 S, .slice (some ⟨b, 0, none⟩) many many] w fun e w' => ∃ (v : Value) (l : List Nat) (f : Bool),
      e = .returned v ∧ IA w' 3 b l ∧ Mod (· = b) w w' ∧ (l, f) = runF r many (n - start) start 0 (r start) (List.replicate many 0) ∧ (f = true → v = .nilIface) ∧ (f = false → ∃ x, v = .iface 104 x) := by
  subst hS
  obtain ⟨R, hR⟩ : ∃ R, R = runF r many (n - start) start 0 (r start) (List.replicate many 0) := ⟨_, rfl⟩
  rw [← hR]
  have HR := Lib.hid hR.symm
  clear hR
  go_enter Try.func41, Try.ntmps41
  go_wp2_with fail
  go_loopw [17] (fun i wr => ∃ k : Nat, k ≤ many ∧ i = .int .i64 k ∧ Mod (· = b) w wr ∧ IA wr 3 b (List.replicate k 0 ++ l0.drop k)) (fun i _ => many - (intOf i).toNat)
  case atStart => exact ⟨0, by omega, rfl, Mod.refl _, hia⟩
  case round =>
    obtain ⟨k, hk, rfl, hmod, hi⟩ := hrel
    by_cases hlt : k < many
    · have hlen : (List.replicate k 0 ++ l0.drop k).length = many := by simp; omega
      have hc := hi.cell (j := k) (by omega)
      have hf := hi.free k
      have hs := hi.set_ k 0
      have e : (List.replicate k 0 ++ l0.drop k).set k 0 = List.replicate (k + 1) 0 ++ l0.drop (k + 1) := by
        apply List.ext_getElem?
        intro i
        rw [List.getElem?_set, List.getElem?_append, List.getElem?_append]
        by_cases h1 : i = k
        · subst h1; simp [hlen, hlt]
        · rw [if_neg (Ne.symm h1)]
          by_cases h2 : i < k
          · simp [h2, show i < k + 1 by omega]
          · have : ¬ i < k + 1 := by omega
            simp [h2, this]
            congr 1; omega
      rw [e] at hs
      have hmod2 := hmod.setCell (p := ⟨b, k, none⟩) (.inl rfl) (.int .i64 (0 : Nat))
      have HS := Lib.hid hs
      have HM := Lib.hid hmod2
      clear hs hmod2 e hlen hi hmod
      go_wp2_with fail
      go_roundw
      case rel => exact ⟨k + 1, by omega, by go_num, HM.out, HS.out⟩
      case measure => simp [intOf]; omega
    · obtain rfl : k = many := by omega
      rw [show l0.drop k = [] from List.drop_of_length_le (by omega), List.append_nil] at hi
      have hba2 : BA wr p g ws n := hba.keep (hmod.block _ hba.plt (by simpa using Ne.symm hbp)) (hmod.block _ hba.glt (by simpa using Ne.symm hbg))
      clear hba hia hlt
      go_wp2_with fail
      refine (ba_size p g n ws _ hba2).mono ?_
      rintro e w' ⟨rfl, rfl⟩
      have hsn : (start : Int) < n := by omega
      go_wp2_with fail
      refine (ba_get _ start rfl p g n ws _ hba2 (by omega) (by omega)).mono ?_
      rintro e w' ⟨rfl, rfl⟩
      rw [hr start hst]
      go_wp2_with fail
      go_loopw [10, 11, 12] (fun a q j wr2 => ∃ (i pos : Nat) (cur : Bool) (l : List Nat), start ≤ i ∧ i ≤ n ∧ pos < k ∧ nth l pos ≤ i ∧ a = .bool (!cur) ∧ q = .int .i64 pos ∧ j = .int .i64 i ∧ IA wr2 3 b l ∧ Hid (l.length = k) ∧ Mod (· = b) w wr2 ∧ BA wr2 p g ws n ∧ Hid (runF r k (n - i) i pos cur l = R)) (fun _ _ j _ => n - (intOf j).toNat)
      case atStart => exact ⟨start, 0, r start, _, by omega, by omega, by omega, by rw [nth_replicate]; split <;> omega, rfl, rfl, rfl, hi, Lib.hid (by simp), hmod, hba2, HR⟩
      case round =>
        obtain ⟨i, pos, cur, l, hi1, hi2, hpos, hcnt, rfl, rfl, rfl, hia2, hll, hmod2, hba3, hrun⟩ := hrel
        clear hi hmod hba2
        by_cases hlt : i < n
        · have hrun2 : Hid ((if r i = cur then runF r k (n - (i + 1)) (i + 1) pos cur (l.set pos (nth l pos + 1)) else if pos + 1 = k then (l, true) else runF r k (n - (i + 1)) (i + 1) (pos + 1) (!cur) (l.set (pos + 1) 1)) = R) := Lib.hid (by
            have := hrun.out
            rw [show n - i = (n - (i + 1)) + 1 by omega] at this
            exact this)
          have hget := ba_get _ i rfl p g n ws _ hba3 (by omega) (by omega)
          rw [hr i hlt] at hget
          have HG := Lib.hid hget
          have hlp : pos < l.length := by have := hll.out; omega
          by_cases hri : r i = cur
          · have hc := hia2.cell hlp
            have hf := hia2.free pos
            have HS := Lib.hid (hia2.set_ pos (nth l pos + 1))
            have HM := Lib.hid (hmod2.setCell (p := ⟨b, pos, none⟩) (.inl rfl) (.int .i64 ((nth l pos + 1 : Nat) : Int)))
            have hb4 := (hba3.keep (w' := wr.setCell ⟨b, pos, none⟩ (.int .i64 ((nth l pos + 1 : Nat) : Int))) (Below.heap_setCell _ _ _ _ (Ne.symm hbp)) (Below.heap_setCell _ _ _ _ (Ne.symm hbg)))
            have HB := Lib.hid hb4
            have hr3 : Hid (runF r k (n - (i + 1)) (i + 1) pos cur (l.set pos (nth l pos + 1)) = R) := Lib.hid (by have := hrun2.out; rwa [if_pos hri] at this)
            have hl3 : Hid ((l.set pos (nth l pos + 1)).length = k) := Lib.hid (by rw [List.length_set]; exact hll.out)
            have hn3 : nth (l.set pos (nth l pos + 1)) pos ≤ i + 1 := by rw [nth_set hlp, if_pos rfl]; omega
            rw [hri] at HG
            generalize l.set pos (nth l pos + 1) = l3 at *
            clear hia2 hmod2 hba3 hb4 hr hri
            cases cur
            all_goals
              go_wp2_with fail
              refine HG.out.mono ?_
              rintro e w' ⟨rfl, rfl⟩
              go_wp2_with fail
              go_roundw
              case rel => exact ⟨i + 1, pos, _, l3, by omega, by omega, hpos, hn3, rfl, rfl, by go_num, HS.out, hl3, HM.out, HB.out, hr3⟩
              case measure => simp [intOf]; omega
          · have hri2 : r i = !cur := by cases h1 : r i <;> cases cur <;> simp_all
            rw [hri2] at HG
            by_cases hend : pos + 1 = k
            · have hRR : Hid ((l, true) = R) := Lib.hid (by have := hrun2.out; rwa [if_neg hri, if_pos hend] at this)
              have hE := Lib.hid hend
              have hbe : (((pos : Int) + 1) == (k : Int)) = true := by rw [beq_iff_eq]; omega
              clear hend hr hri hri2
              cases cur
              all_goals
                go_wp2_with fail
                refine HG.out.mono ?_
                rintro e w' ⟨rfl, rfl⟩
                go_wp2_with fail
                go_ret
                exact ⟨_, l, true, rfl, hia2, hmod2, hRR.out, fun _ => rfl, fun h => by cases h⟩
            · have hlp2 : pos + 1 < l.length := by have := hll.out; omega
              have hpk : pos + 1 < k := by omega
              have hc := hia2.cell hlp2
              have hf := hia2.free (pos + 1)
              have HS := Lib.hid (hia2.set_ (pos + 1) 1)
              have HM := Lib.hid (hmod2.setCell (p := ⟨b, pos + 1, none⟩) (.inl rfl) (.int .i64 ((1 : Nat) : Int)))
              have HB := Lib.hid (hba3.keep (w' := wr.setCell ⟨b, pos + 1, none⟩ (.int .i64 ((1 : Nat) : Int))) (Below.heap_setCell _ _ _ _ (Ne.symm hbp)) (Below.heap_setCell _ _ _ _ (Ne.symm hbg)))
              have hr3 : Hid (runF r k (n - (i + 1)) (i + 1) (pos + 1) (!cur) (l.set (pos + 1) 1) = R) := Lib.hid (by have := hrun2.out; rwa [if_neg hri, if_neg hend] at this)
              have hl3 : Hid ((l.set (pos + 1) 1).length = k) := Lib.hid (by rw [List.length_set]; exact hll.out)
              have hn3 : nth (l.set (pos + 1) 1) (pos + 1) ≤ i + 1 := by rw [nth_set hlp2, if_pos rfl]; omega
              have hbe : (((pos : Int) + 1) == (k : Int)) = false := by rw [beq_eq_false_iff_ne]; omega
              generalize l.set (pos + 1) 1 = l3 at *
              clear hia2 hmod2 hba3 hend hr hri hri2
              cases cur
              all_goals
                go_wp2_with fail
                refine HG.out.mono ?_
                rintro e w' ⟨rfl, rfl⟩
                go_wp2_with fail
                go_roundw
                case rel => exact ⟨i + 1, pos + 1, _, l3, by omega, by omega, by omega, hn3, rfl, by go_num, by go_num, HS.out, hl3, HM.out, HB.out, hr3⟩
                case measure => simp [intOf]; omega
        · obtain rfl : i = n := by omega
          have hRR : Hid ((l, decide (pos + 1 = k)) = R) := Lib.hid (by
            have := hrun.out
            rwa [show i - i = 0 by omega] at this)
          have hb0 : ((pos : Int) == (k : Int)) = false := by rw [beq_eq_false_iff_ne]; omega
          by_cases hend : pos + 1 = k
          · have hbe : ((pos : Int) == (k : Int) - 1) = true := by rw [beq_iff_eq]; omega
            have hRR2 : Hid ((l, true) = R) := Lib.hid (by have := hRR.out; rwa [decide_eq_true hend] at this)
            clear hend hr hlt
            go_wp2_with fail
            go_ret
            exact ⟨_, l, true, rfl, hia2, hmod2, hRR2.out, fun _ => rfl, fun h => by cases h⟩
          · have hbe : ((pos : Int) == (k : Int) - 1) = false := by rw [beq_eq_false_iff_ne]; omega
            have hRR2 : Hid ((l, false) = R) := Lib.hid (by have := hRR.out; rwa [decide_eq_false hend] at this)
            clear hend hr hlt
            go_wp2_with fail
            refine (notFound_new _ _ _ _).mono ?_
            rintro e w' ⟨v, rfl, hb9⟩
            have hia9 := hia2.mod (Mod.of_below (S := fun _ => False) hb9) (fun h => h)
            have hm9 := hmod2.trans (Mod.of_below hb9)
            go_wp2_with fail
            go_ret
            exact ⟨_, l, false, rfl, hia9, hm9, hRR2.out, (fun h => by cases h), fun _ => ⟨_, rfl⟩⟩
end Go.Proofs.Ytpgkbhlgechpmaa
