/-
  Several texts of this claim in one. No condition beyond the bounds that each theorem states.
-/
import Derived.Test.YtiielblnmfeapaaAZI
import Derived.Test.YtiielblnmfeapaaAZV
import Derived.BigQuiet
import Derived.Test.YtiielblnmfeapaaRSG7
import Derived.Test.YtiielblnmfeapaaRSM
import Derived.Test.YtiielblnmfeapaaAZD
namespace Go.Proofs.Ytiielblnmfeapaa
open Go.RowKit Go.Qz Go.Qz.RS
set_option linter.unusedVariables false

theorem Try.infoBoolK : (Try.prog.info? 4).map (fun i => (i.zero, i.size, i.bytes)) = some (some (.bool false), 1, 1) := by kernel_rfl
theorem rem_runK (a b c : Int) (h0 : ¬ b = 0) (h : a.tmod b = c) (W : World) : (binOp .rem 3 (.int .i64 a) (.int .i64 b)).run Try.prog W = .ok (.int .i64 c) W := by
  rw [← h]
  show Sem.run _ _ _ = _
  simp [binOp, go_sem, h0]
def BitsPost (l : List Bool) (w : World) (e : Ending) (w' : World) : Prop := ∃ v, e = .returned v ∧ w'.ownsRow w.heap.size 4 1 v l.length (l.map Value.bool) ∧ Below w.heap.size w w'
theorem flat_len (l : List Nat) (m : Nat) : (l.flatMap (bitsOf · m)).length = m * l.length := by
  induction l with
  | nil => simp
  | cons a l ih => simp only [List.flatMap_cons, List.length_append, ih, bitsOf_len, List.length_cons, Nat.mul_add]; omega
theorem take_nthK {l : List Nat} {k : Nat} (h : k < l.length) : l.take (k + 1) = l.take k ++ [nth l k] := by
  rw [List.take_succ_eq_append_getElem h, nth_eq h]

set_option maxRecDepth 100000 in
set_option maxHeartbeats 6400000 in
theorem azWordBits (cm : Bool) (l : Nat) (hl : l ≤ 32) (ws : List Nat) (hx : ∀ j, nth ws j < 100000) (hwl : ws.length < 5000) (A : Option Addr) (c : Nat) (w : World) (h : Rd w A ws.length (fun j => .int .i64 (nth ws j : Nat))) :
    Calls Try.prog 9 #[.slice A ws.length c, .bool cm, .int .i64 l] w (BitsPost (List.replicate (bitsIn cm l % wOf l) false ++ ws.flatMap (bitsOf · (wOf l))) w) := by
  have HAW := Lib.hid (fun W => azWidth l (by omega) W)
  have HAB := Lib.hid (fun W => azBits cm l hl W)
  have hcs := wOf_cases l
  have hbi := bitsIn_le cm l hl
  obtain ⟨bi, hbi2⟩ : ∃ bi, bi = bitsIn cm l := ⟨_, rfl⟩
  obtain ⟨wv, hwv⟩ : ∃ wv, wv = wOf l := ⟨_, rfl⟩
  rw [← hbi2] at hbi HAB ⊢
  rw [← hwv] at HAW hcs ⊢
  have hcs2 : Hid (wv = 6 ∨ wv = 8 ∨ wv = 10 ∨ wv = 12) := Lib.hid hcs
  have hw12 : wv ≤ 12 := by omega
  have hw0 : ¬ (wv : Int) = 0 := by omega
  have hw00 : ¬ wv = 0 := by omega
  obtain ⟨r, hr⟩ : ∃ r, r = bi % wv := ⟨_, rfl⟩
  have hrl : r < 12 := by rw [hr]; have := Nat.mod_lt bi (show 0 < wv by omega); omega
  have er : (bi : Int).tmod (wv : Int) = (r : Int) := by rw [Int.tmod_eq_emod_of_nonneg (by omega), hr]; simp
  have er2 := fun W => rem_runK (bi : Int) (wv : Int) (r : Int) hw0 er W
  rw [← hr]
  have hmk := fun W => run_make1 (P := Try.prog) 33 4 (.bool false) 1 Try.underlying33 Try.infoBoolK rfl (by decide) r (by omega) .i64 .i64 (r : Int) rfl W
  have HR := Lib.hid h
  have HX := Lib.hid hx
  obtain ⟨n, hn⟩ : ∃ n, n = ws.length := ⟨_, rfl⟩
  have HN := Lib.hid hn
  rw [← hn] at HR hwl ⊢
  clear hbi2 hwv hcs hr h hx hn
  go_enter Try.func9, Try.ntmps9
  go_wp2_with fail
  refine (HAW.out _).mono ?_
  rintro e w1 ⟨rfl, rfl⟩
  go_wp2_with fail
  refine (HAB.out _).mono ?_
  rintro e w1 ⟨rfl, rfl⟩
  go_wp2_with fail
  have hO := World.ownsRow_lit (e := 4) (size := 1) w (zeros r (.bool false)) r (Nat.le_refl w.heap.size) (by unfold maxLen; omega) (by simp [zeros])
  obtain ⟨W1, hW1⟩ : ∃ W1, W1 = w.alloc (.cells (zeros r (.bool false)) 4) := ⟨_, rfl⟩
  have hB1 : Below w.heap.size w W1 := by rw [hW1]; exact (Below.refl _ _).alloc (Nat.le_refl _) _
  have hs1 : W1.heap.size = w.heap.size + 1 := by rw [hW1]; simp
  rw [← hW1] at hO ⊢
  clear hW1 hmk er er2
  obtain ⟨E, hE⟩ : ∃ E, E = w.heap.size := ⟨_, rfl⟩
  rw [← hE] at hO hB1 hs1 ⊢
  obtain ⟨pw, hpw1⟩ : ∃ pw, pw = E + 1 := ⟨_, rfl⟩
  have hpw : pw = W1.heap.size := by omega
  rw [← hpw1]
  have hWr : Wr (W1.alloc (.cells #[.slice (some ⟨E, 0, none⟩) r r, .string ⟨#[]⟩, .int .i64 0] 49)) E pw (.slice (some ⟨E, 0, none⟩) r r) (List.replicate r false) ⟨#[]⟩ 0 := by
    refine ⟨by rw [hpw]; exact Arr.new _ _ _, ?_⟩
    have h5 := own_below hO ((Below.refl W1.heap.size W1).alloc (Nat.le_refl _) (.cells #[.slice (some ⟨E, 0, none⟩) r r, .string ⟨#[]⟩, .int .i64 0] 49))
    simpa [zeros] using h5
  have hB2 : Below E w (W1.alloc (.cells #[.slice (some ⟨E, 0, none⟩) r r, .string ⟨#[]⟩, .int .i64 0] 49)) := hB1.alloc (by omega) _
  have hpE : E ≤ pw := by omega
  obtain ⟨W2, hW2⟩ : ∃ W2, W2 = W1.alloc (.cells #[.slice (some ⟨E, 0, none⟩) r r, .string ⟨#[]⟩, .int .i64 0] 49) := ⟨_, rfl⟩
  rw [← hW2] at hWr hB2 ⊢
  have HWR := Lib.hid hWr
  have HB2 := Lib.hid hB2
  have HE := Lib.hid hE
  clear hWr hB2 hW2 hpw hpw1 hO hB1 hs1 hE
  go_loopw [9] (fun i wr => ∃ (k : Nat) (v : Value), k ≤ n ∧ i = .int .i64 k ∧ Hid (Wr wr E pw v (List.replicate r false ++ (ws.take k).flatMap (bitsOf · wv)) ⟨#[]⟩ 0) ∧ Hid (Below E w wr)) (fun i _ => n - (intOf i).toNat)
  case atStart => exact ⟨0, _, Nat.zero_le _, rfl, Lib.hid (by simpa using HWR.out), HB2⟩
  case round =>
    obtain ⟨k, v, hk, rfl, HW, HB⟩ := hrel
    clear HWR HB2
    obtain ⟨wi, hwi⟩ : ∃ wi, wi = wr := ⟨_, rfl⟩
    rw [← hwi] at HW HB ⊢
    clear hwi
    by_cases hlt : k < n
    · have hk1 : (k : Int) < (n : Int) := by omega
      have hk0 : (0 : Int) ≤ (k : Int) := by omega
      obtain ⟨bb, bo, rfl, hbb, hbc⟩ := (HR.out.below (by rw [← HE.out]; exact HB.out) : Rd wi A n _) (by omega)
      have hcell := hbc k hlt
      dsimp only at hcell
      have hxb := HX.out k
      have HTK := Lib.hid (take_nthK (l := ws) (k := k) (by rw [← HN.out]; exact hlt))
      obtain ⟨x, hxx⟩ : ∃ x, x = nth ws k := ⟨_, rfl⟩
      rw [← hxx] at hcell hxb HTK
      have hfl : (List.replicate r false ++ (ws.take k).flatMap (bitsOf · wv)).length < 10000000 := by
        rw [List.length_append, flat_len, List.length_replicate, List.length_take]
        have : wv * min k ws.length ≤ 12 * 5000 := Nat.mul_le_mul hw12 (by rw [← HN.out]; omega)
        omega
      have hEs := HB.out.size
      have hEi : E ≤ wi.heap.size := by have := HW.out.ar.lt; omega
      have HPUT := Lib.hid (put E pw v _ ⟨#[]⟩ 0 x wv hxb hw12 hfl wi hEi HW.out)
      clear hxx hfl hbc hbb
      go_wp2_with fail
      refine HPUT.out.mono ?_
      rintro e w3 ⟨rfl, v3, hW3, hM3, hV3⟩
      have HW3 : Hid (Wr w3 E pw v3 (List.replicate r false ++ (ws.take (k + 1)).flatMap (bitsOf · wv)) ⟨#[]⟩ 0) := Lib.hid (by
        rw [HTK.out, List.flatMap_append, ← List.append_assoc]
        simpa using hW3)
      have HB3 : Hid (Below E w w3) := Lib.hid (wb_below HB.out HW.out hpE hEi hM3)
      clear hW3 hM3 hV3 HPUT HW HB
      go_wp2_with fail
      go_roundw
      case rel => exact ⟨k + 1, v3, by omega, by go_num, HW3, HB3⟩
      case measure => simp [intOf]; omega
    · obtain rfl : k = n := by omega
      have hkk : ((k : Int) < (k : Int)) = False := by simp
      have htk : ws.take k = ws := by rw [HN.out, List.take_length]
      rw [htk] at HW
      obtain ⟨c0, c1, c2⟩ := HW.out.cells
      clear c1 c2 htk
      go_wp2_with fail
      go_ret
      exact ⟨v, rfl, by rw [← HE.out]; exact HW.out.own, by rw [← HE.out]; exact HB.out⟩

set_option maxRecDepth 100000 in
set_option maxHeartbeats 6400000 in
theorem azUnstuffed (wv : Nat) (hv : wv = 6 ∨ wv = 8 ∨ wv = 10 ∨ wv = 12) (ws : List Nat) (hx : ∀ j, nth ws j < 100000) (hwl : ws.length < 5000) (A : Option Addr) (c : Nat) (w : World) (h : Rd w A ws.length (fun j => .int .i64 (nth ws j : Nat))) :
    Calls Try.prog 14 #[.slice A ws.length c, .int .i64 wv] w (BitsPost (unst wv ws) w) := by
  have hcs2 : Hid (wv = 6 ∨ wv = 8 ∨ wv = 10 ∨ wv = 12) := Lib.hid hv
  have hw12 : wv ≤ 12 := by omega
  obtain ⟨d, hd⟩ : ∃ d, d = wv - 1 := ⟨_, rfl⟩
  have hd1 : (wv : Int) - 1 = (d : Int) := by omega
  have hd12 : d ≤ 12 := by omega
  have hw64 : wv < 64 := by omega
  obtain ⟨P, hP⟩ : ∃ P, P = 2 ^ wv := ⟨_, rfl⟩
  have hP1 : 32 ≤ P ∧ P ≤ 4096 := by
    have h1 : 2 ^ 5 ≤ 2 ^ wv := Nat.pow_le_pow_right (by omega) (by omega)
    have h2 : 2 ^ wv ≤ 2 ^ 12 := Nat.pow_le_pow_right (by omega) (by omega)
    rw [← hP] at h1 h2
    omega
  have hP2 : (2 : Int) ^ wv = (P : Int) := by rw [hP]; simp
  obtain ⟨P2, hPP⟩ : ∃ P2, P2 = P - 2 := ⟨_, rfl⟩
  have hP3 : (P : Int) - 2 = (P2 : Int) := by omega
  have HUN : Hid (∀ x, ((x = 1 ∨ x = P2) → unW wv x = bitsOf (x / 2) d) ∧ (¬ (x = 1 ∨ x = P2) → unW wv x = bitsOf x wv)) := Lib.hid (fun x => by
    unfold unW
    rw [← hP, ← hd, ← hPP]
    exact ⟨fun h => if_pos h, fun h => if_neg h⟩)
  have HR := Lib.hid h
  have HX := Lib.hid hx
  obtain ⟨n, hn⟩ : ∃ n, n = ws.length := ⟨_, rfl⟩
  have HN := Lib.hid hn
  have HUL : Hid (∀ k, (unst wv (ws.take k)).length ≤ 12 * 5000) := Lib.hid (fun k => by
    have h1 : ∀ l : List Nat, (unst wv l).length ≤ 12 * l.length := fun l => by
      induction l with
      | nil => simp [unst]
      | cons a l ih =>
        have h2 : (unW wv a).length ≤ 12 := by unfold unW; split <;> rw [bitsOf_len] <;> omega
        unfold unst at ih ⊢
        rw [List.flatMap_cons, List.length_append, List.length_cons]
        omega
    have h3 := h1 (ws.take k)
    rw [List.length_take] at h3
    omega)
  rw [← hn] at HR hwl ⊢
  clear hv hd hP hPP h hx hn
  go_enter Try.func14, Try.ntmps14
  go_wp2_with fail
  obtain ⟨E, hE⟩ : ∃ E, E = w.heap.size := ⟨_, rfl⟩
  have hWr : Wr (w.alloc (.cells #[.slice none 0 0, .string ⟨#[]⟩, .int .i64 0] 49)) E E (.slice none 0 0) [] ⟨#[]⟩ 0 := ⟨by rw [hE]; exact Arr.new _ _ _, World.ownsRow_nil _ _ _ _⟩
  have hB2 : Below E w (w.alloc (.cells #[.slice none 0 0, .string ⟨#[]⟩, .int .i64 0] 49)) := by rw [hE]; exact (Below.refl _ _).alloc (Nat.le_refl _) _
  rw [← hE]
  obtain ⟨W2, hW2⟩ : ∃ W2, W2 = w.alloc (.cells #[.slice none 0 0, .string ⟨#[]⟩, .int .i64 0] 49) := ⟨_, rfl⟩
  rw [← hW2] at hWr hB2 ⊢
  have HWR := Lib.hid hWr
  have HB2 := Lib.hid hB2
  have HE := Lib.hid hE
  clear hWr hB2 hW2 hE
  go_loopw [6] (fun i wr => ∃ (k : Nat) (v : Value), k ≤ n ∧ i = .int .i64 k ∧ Hid (Wr wr E E v (unst wv (ws.take k)) ⟨#[]⟩ 0) ∧ Hid (Below E w wr)) (fun i _ => n - (intOf i).toNat)
  case atStart => exact ⟨0, _, Nat.zero_le _, rfl, Lib.hid (by simpa [unst] using HWR.out), HB2⟩
  case round =>
    obtain ⟨k, v, hk, rfl, HW, HB⟩ := hrel
    clear HWR HB2
    obtain ⟨wi, hwi⟩ : ∃ wi, wi = wr := ⟨_, rfl⟩
    rw [← hwi] at HW HB ⊢
    clear hwi
    by_cases hlt : k < n
    · have hk1 : (k : Int) < (n : Int) := by omega
      have hk0 : (0 : Int) ≤ (k : Int) := by omega
      obtain ⟨bb, bo, rfl, hbb, hbc⟩ := (HR.out.below (by rw [← HE.out]; exact HB.out) : Rd wi A n _) (by omega)
      have hcell := hbc k hlt
      dsimp only at hcell
      have hxb := HX.out k
      have HTK := Lib.hid (take_nthK (l := ws) (k := k) (by rw [← HN.out]; exact hlt))
      obtain ⟨x, hxx⟩ : ∃ x, x = nth ws k := ⟨_, rfl⟩
      rw [← hxx] at hcell hxb HTK
      have hfl : (unst wv (ws.take k)).length < 10000000 := by have := HUL.out k; omega
      have hEi : E ≤ wi.heap.size := by have := HW.out.ar.lt; omega
      have HPUTA := Lib.hid (put E E v _ ⟨#[]⟩ 0 (x / 2) d (by omega) hd12 hfl wi hEi HW.out)
      have HPUTB := Lib.hid (put E E v _ ⟨#[]⟩ 0 x wv hxb hw12 hfl wi hEi HW.out)
      obtain ⟨h2, hh2⟩ : ∃ h2, h2 = x / 2 := ⟨_, rfl⟩
      rw [← hh2] at HPUTA
      have hx2 : (x : Int) / 2 = (h2 : Int) := by omega
      have hx3 : (x : Int).tdiv 2 = (h2 : Int) := by rw [Int.tdiv_eq_ediv_of_nonneg (by omega)]; omega
      have HH2 := Lib.hid hh2
      have HFL := Lib.hid hfl
      clear hxx hfl hbc hbb hh2
      by_cases h1 : x = 1
      · have HP0 : Hid (Calls Try.prog 18 #[.pointer (some ⟨E, 0, none⟩), .int .i64 0, .int .i64 d] wi (PutPost E E v (unst wv (ws.take k) ++ bitsOf 0 d) ⟨#[]⟩ 0 wi)) := Lib.hid (put E E v _ ⟨#[]⟩ 0 0 d (by omega) hd12 HFL.out wi hEi HW.out)
        have hcell1 : wi.cell? ⟨bb, bo + k, none⟩ = some (.int .i64 1) := by rw [hcell, h1]; rfl
        have HX1 := Lib.hid h1
        clear HPUTA HPUTB hcell h1 hx2 hx3 hxb
        go_wp2_with fail
        refine HP0.out.mono ?_
        rintro e w3 ⟨rfl, v3, hW3, hM3, hV3⟩
        have HW3 : Hid (Wr w3 E E v3 (unst wv (ws.take (k + 1))) ⟨#[]⟩ 0) := Lib.hid (by
          unfold unst at hW3 ⊢
          rw [HTK.out, List.flatMap_append, show List.flatMap (unW wv) [x] = unW wv x by simp, HX1.out, (HUN.out 1).1 (.inl rfl)]
          exact hW3)
        have HB3 : Hid (Below E w w3) := Lib.hid (wb_below HB.out HW.out (Nat.le_refl E) hEi hM3)
        clear hW3 hM3 hV3 HP0 HW HB
        go_wp2_with fail
        go_roundw
        case rel => exact ⟨k + 1, v3, by omega, by go_num, HW3, HB3⟩
        case measure => simp [intOf]; omega
      · have h11 : ((x : Int) == 1) = false := by simp; omega
        by_cases h2' : x = P2
        · subst h2'
          clear HPUTB
          go_wp2_with fail
          refine HPUTA.out.mono ?_
          rintro e w3 ⟨rfl, v3, hW3, hM3, hV3⟩
          have HW3 : Hid (Wr w3 E E v3 (unst wv (ws.take (k + 1))) ⟨#[]⟩ 0) := Lib.hid (by
            unfold unst at hW3 ⊢
            rw [HTK.out, List.flatMap_append, show List.flatMap (unW wv) [x] = unW wv x by simp, (HUN.out x).1 (.inr rfl), ← HH2.out]
            exact hW3)
          have HB3 : Hid (Below E w w3) := Lib.hid (wb_below HB.out HW.out (Nat.le_refl E) hEi hM3)
          clear hW3 hM3 hV3 HPUTA HW HB
          go_wp2_with fail
          go_roundw
          case rel => exact ⟨k + 1, v3, by omega, by go_num, HW3, HB3⟩
          case measure => simp [intOf]; omega
        · have h12 : ((x : Int) == (P2 : Int)) = false := by simp; omega
          clear HPUTA
          go_wp2_with fail
          refine HPUTB.out.mono ?_
          rintro e w3 ⟨rfl, v3, hW3, hM3, hV3⟩
          have HW3 : Hid (Wr w3 E E v3 (unst wv (ws.take (k + 1))) ⟨#[]⟩ 0) := Lib.hid (by
            unfold unst at hW3 ⊢
            rw [HTK.out, List.flatMap_append, show List.flatMap (unW wv) [x] = unW wv x by simp, (HUN.out x).2 (by omega)]
            exact hW3)
          have HB3 : Hid (Below E w w3) := Lib.hid (wb_below HB.out HW.out (Nat.le_refl E) hEi hM3)
          clear hW3 hM3 hV3 HPUTB HW HB
          go_wp2_with fail
          go_roundw
          case rel => exact ⟨k + 1, v3, by omega, by go_num, HW3, HB3⟩
          case measure => simp [intOf]; omega
    · obtain rfl : k = n := by omega
      have hkk : ((k : Int) < (k : Int)) = False := by simp
      have htk : ws.take k = ws := by rw [HN.out, List.take_length]
      rw [htk] at HW
      obtain ⟨c0, c1, c2⟩ := HW.out.cells
      clear c1 c2 htk
      go_wp2_with fail
      go_ret
      exact ⟨v, rfl, by rw [← HE.out]; exact HW.out.own, by rw [← HE.out]; exact HB.out⟩
end Go.Proofs.Ytiielblnmfeapaa
namespace Go.Proofs.Ytiielblnmfeapaa
open Go.RowKit Go.Qz Go.Qz.RS
set_option linter.unusedVariables false

/-- A word of a row of words, read as bits. -/
theorem vl_word (X : List Bool) (ws : List Nat) (wv : Nat) (hx : ∀ j, nth ws j < 2 ^ wv) (i : Nat) (hi : i < ws.length) : vl (X ++ ws.flatMap (bitsOf · wv)) (X.length + i * wv) wv = nth ws i := by
  have key : ∀ (l : List Nat) (i : Nat), i < l.length → (l.flatMap (bitsOf · wv)).drop (i * wv) = bitsOf (nth l i) wv ++ (l.drop (i + 1)).flatMap (bitsOf · wv) := by
    intro l
    induction l with
    | nil => intro i h; simp at h
    | cons a l ih =>
      intro i h
      cases i with
      | zero => simp [nth]
      | succ i =>
        have h2 := ih i (by simpa using h)
        rw [List.flatMap_cons, show (i + 1) * wv = (bitsOf a wv).length + i * wv by rw [bitsOf_len, Nat.add_mul]; omega, List.drop_append, List.drop_succ_cons]
        simp only [Nat.add_sub_cancel_left]
        rw [h2, List.drop_eq_nil_of_le (by omega)]
        rfl
  refine vl_bits _ _ _ _ ((ws.drop (i + 1)).flatMap (bitsOf · wv)) ?_ (hx i)
  rw [List.drop_append, Nat.add_sub_cancel_left, List.drop_eq_nil_of_le (by omega), List.nil_append]
  exact key ws i hi
/-- The first q of a row's elements, then zeros. -/
def fillTo (U : List Bool) (q : Nat) : List Bool := U.take q ++ List.replicate (U.length - q) false
theorem fillTo_len (U : List Bool) (q : Nat) (hq : q ≤ U.length) : (fillTo U q).length = U.length := by
  unfold fillTo; simp; omega
theorem fillTo_set (U : List Bool) (q : Nat) (hq : q < U.length) : (fillTo U q).set q (nthB U q) = fillTo U (q + 1) := by
  unfold fillTo
  rw [List.set_append, List.length_take, if_neg (by omega), show q - min q U.length = 0 by omega, show U.length - q = (U.length - (q + 1)) + 1 by omega, List.replicate_succ, List.set_cons_zero, List.take_succ_eq_append_getElem hq, nthB_eq hq, List.append_assoc]
  rfl
theorem fillTo_zero (U : List Bool) : fillTo U 0 = List.replicate U.length false := by unfold fillTo; simp
theorem fillTo_all (U : List Bool) : fillTo U U.length = U := by unfold fillTo; simp
theorem bitsOf_zero (d : Nat) : bitsOf 0 d = List.replicate d false := by
  unfold bitsOf
  apply List.ext_getElem <;> simp
theorem bitsOf_ones (d : Nat) : bitsOf (2 ^ d - 1) d = List.replicate d true := by
  unfold bitsOf
  apply List.ext_getElem
  · simp
  · intro j h1 h2
    simp only [List.getElem_map, List.getElem_range, List.getElem_replicate]
    rw [Nat.testBit_two_pow_sub_one]
    simp at h1 ⊢
    omega
theorem unst_append (wv : Nat) (a b : List Nat) : unst wv (a ++ b) = unst wv a ++ unst wv b := by unfold unst; rw [List.flatMap_append]
/-- Where the bits of a word stand. -/
def offU (wv : Nat) (ws : List Nat) (i : Nat) : Nat := (unst wv (ws.take i)).length
theorem offU_zero (wv : Nat) (ws : List Nat) : offU wv ws 0 = 0 := by unfold offU unst; simp
theorem offU_all (wv : Nat) (ws : List Nat) : offU wv ws ws.length = (unst wv ws).length := by unfold offU; rw [List.take_length]
theorem offU_succ (wv : Nat) (ws : List Nat) (i : Nat) (hi : i < ws.length) : offU wv ws (i + 1) = offU wv ws i + (unW wv (nth ws i)).length := by
  unfold offU
  rw [take_nthK hi, unst_append, List.length_append]
  congr 1
  simp [unst]
theorem offU_le (wv : Nat) (ws : List Nat) (i : Nat) : offU wv ws i ≤ (unst wv ws).length := by
  unfold offU
  have h := congrArg List.length (unst_append wv (ws.take i) (ws.drop i))
  rw [List.take_append_drop, List.length_append] at h
  omega
theorem unst_at (wv : Nat) (ws : List Nat) (i j : Nat) (hi : i < ws.length) (hj : j < (unW wv (nth ws i)).length) : offU wv ws i + j < (unst wv ws).length ∧ nthB (unst wv ws) (offU wv ws i + j) = nthB (unW wv (nth ws i)) j := by
  have e : unst wv ws = unst wv (ws.take i) ++ (unW wv (nth ws i) ++ unst wv (ws.drop (i + 1))) := by
    have h := unst_append wv (ws.take (i + 1)) (ws.drop (i + 1))
    rw [List.take_append_drop, take_nthK hi, unst_append, List.append_assoc] at h
    rw [h]
    congr 2
    simp [unst]
  refine ⟨?_, ?_⟩
  · rw [e]; unfold offU; simp only [List.length_append]; omega
  · rw [e]
    unfold offU
    exact nthB_drop (M := unW wv (nth ws i)) (rest := unst wv (ws.drop (i + 1))) (by rw [List.drop_append, Nat.sub_self, List.drop_length]; rfl) hj
/-- How many of the first words have a bit that is left out. -/
def cntS (wv : Nat) (ws : List Nat) (i : Nat) : Nat := wv * min i ws.length - offU wv ws i
theorem unW_len {wv : Nat} (hw : 4 ≤ wv) (x : Nat) : ((x = 1 ∨ x = 2 ^ wv - 2) → (unW wv x).length = wv - 1) ∧ (¬ (x = 1 ∨ x = 2 ^ wv - 2) → (unW wv x).length = wv) := by
  unfold unW
  exact ⟨fun h => by rw [if_pos h, bitsOf_len], fun h => by rw [if_neg h, bitsOf_len]⟩
theorem offU_bd {wv : Nat} (hw : 4 ≤ wv) (ws : List Nat) : ∀ i, i ≤ ws.length → offU wv ws i ≤ wv * i
  | 0, _ => by rw [offU_zero]; omega
  | i + 1, h => by
    have ih := offU_bd hw ws i (by omega)
    rw [offU_succ wv ws i (by omega), Nat.mul_add]
    have h2 := unW_len hw (nth ws i)
    by_cases hx : nth ws i = 1 ∨ nth ws i = 2 ^ wv - 2
    · rw [h2.1 hx]; omega
    · rw [h2.2 hx]; omega
theorem cntS_succ {wv : Nat} (hw : 4 ≤ wv) (ws : List Nat) (i : Nat) (hi : i < ws.length) : ((nth ws i = 1 ∨ nth ws i = 2 ^ wv - 2) → cntS wv ws (i + 1) = cntS wv ws i + 1) ∧ (¬ (nth ws i = 1 ∨ nth ws i = 2 ^ wv - 2) → cntS wv ws (i + 1) = cntS wv ws i) := by
  unfold cntS
  have h1 := offU_bd hw ws i (by omega)
  have h2 := unW_len hw (nth ws i)
  rw [offU_succ wv ws i hi, show min (i + 1) ws.length = i + 1 by omega, show min i ws.length = i by omega, Nat.mul_add]
  exact ⟨fun h => by rw [h2.1 h]; omega, fun h => by rw [h2.2 h]; omega⟩
theorem cntS_zero (wv : Nat) (ws : List Nat) : cntS wv ws 0 = 0 := by unfold cntS; simp
theorem cntS_all {wv : Nat} (hw : 4 ≤ wv) (ws : List Nat) : wv * ws.length - cntS wv ws ws.length = (unst wv ws).length ∧ cntS wv ws ws.length ≤ wv * ws.length := by
  unfold cntS
  have h1 := offU_bd hw ws ws.length (Nat.le_refl _)
  rw [offU_all] at h1 ⊢
  rw [show min ws.length ws.length = ws.length by omega]
  omega
/-- The bits of a word with a bit left out are all alike. -/
theorem unW_same {wv : Nat} (hw : 4 ≤ wv) {x : Nat} (h : x = 1 ∨ x = 2 ^ wv - 2) {j : Nat} (hj : j < wv - 1) : nthB (unW wv x) j = decide (1 < x) := by
  have hp : 2 ^ wv = 2 * 2 ^ (wv - 1) := by
    have := Nat.pow_succ 2 (wv - 1)
    rw [show (wv - 1).succ = wv by omega] at this; omega
  have hp2 : 8 ≤ 2 ^ (wv - 1) := by
    have : 2 ^ 3 ≤ 2 ^ (wv - 1) := Nat.pow_le_pow_right (by omega) (by omega)
    omega
  unfold unW
  rw [if_pos h]
  rcases h with rfl | rfl
  · rw [show 1 / 2 = 0 by rfl, bitsOf_zero, nthB_eq (by simpa using hj)]; simp
  · rw [show (2 ^ wv - 2) / 2 = 2 ^ (wv - 1) - 1 by omega, bitsOf_ones, nthB_eq (by simpa using hj)]; simp; omega
theorem unW_bit {wv x j : Nat} (h : ¬ (x = 1 ∨ x = 2 ^ wv - 2)) (hj : j < wv) : nthB (unW wv x) j = x.testBit (wv - 1 - j) := by
  unfold unW
  rw [if_neg h, bitsOf_at _ _ _ hj]
theorem and_pow (x b : Nat) : x &&& 2 ^ b = if x.testBit b then 2 ^ b else 0 := by
  apply Nat.eq_of_testBit_eq
  intro i
  rw [Nat.testBit_and, Nat.testBit_two_pow]
  by_cases h : b = i
  · subst h
    cases hx : x.testBit b <;> simp
  · cases hx : x.testBit b <;> simp [h]

theorem PolyQ.low {w : World} {Q : Nat → Prop} {p f : Nat} {cs : List Nat} (h : PolyQ w Q p f cs) : PolyQ w (fun k => k < w.heap.size) p f cs := by
  have h0 := h.lt
  obtain ⟨⟨cb, off, cap, h1, h2, h3, h4, h5⟩, hp, hne⟩ := h
  exact ⟨⟨cb, off, cap, h1, h3, h3, h4, h5⟩, h0, hne⟩
theorem GFQ.low {w : World} {Q : Nat → Prop} {f : Nat} {F : Fld} (h : GFQ w Q f F) : GFQ w (fun k => k < w.heap.size) f F := by
  obtain ⟨⟨eb, lb, z, o, h1, h2, h3, h4, h5, h6, h7⟩, h8⟩ := h
  exact ⟨⟨eb, lb, z, o, h1, h2, h2.lt, h4, h4.lt, h6.low, h7.low⟩, (Array.getElem?_eq_some_iff.1 h1).1⟩
def GfPost (F : Fld) (w : World) (e : Ending) (w' : World) : Prop := ∃ f, e = .returned (.pointer (some ⟨f, 0, none⟩)) ∧ GFQ w' (fun k => k < w'.heap.size) f F ∧ Below w.heap.size w w'
set_option maxRecDepth 100000 in
theorem gfDM (w : World) : Calls Try.prog 52 #[] w (GfPost (six 2) w) := by
  go_enter Try.func52, Try.ntmps52
  go_wp2_with fail
  refine (gf_new (fun _ => True) (six 2) _ _ _ rfl rfl rfl (by decide) (by decide) (by decide) (by decide) w (fun _ _ => trivial)).mono ?_
  rintro e w1 ⟨f, rfl, hg, hb, _⟩
  go_wp2_with fail
  go_ret
  exact ⟨f, rfl, hg.low, hb⟩
set_option maxRecDepth 100000 in
theorem detNew (v : Option Addr) (w : World) :
    Calls Try.prog 31 #[.pointer v, .slice none 0 0] w fun e w' => ∃ d, e = .returned (.pointer d) ∧ Below w.heap.size w w' := by
  go_enter Try.func31, Try.ntmps31
  go_wp2_with fail
  go_ret
  exact ⟨_, rfl, (Below.refl _ _).alloc (Nat.le_refl _) _⟩
set_option maxRecDepth 100000 in
theorem gfData6 (w : World) : Calls Try.prog 33 #[] w (GfPost (six 1) w) := by
  go_enter Try.func33, Try.ntmps33
  go_wp2_with fail
  refine (gf_new (fun _ => True) (six 1) _ _ _ rfl rfl rfl (by decide) (by decide) (by decide) (by decide) w (fun _ _ => trivial)).mono ?_
  rintro e w1 ⟨f, rfl, hg, hb, _⟩
  go_wp2_with fail
  go_ret
  exact ⟨f, rfl, hg.low, hb⟩
set_option maxRecDepth 100000 in
theorem gfData8 (w : World) : Calls Try.prog 34 #[] w (GfPost (six 2) w) := by
  go_enter Try.func34, Try.ntmps34
  go_wp2_with fail
  refine (gfDM w).mono ?_
  rintro e w1 ⟨f, rfl, hg, hb⟩
  go_wp2_with fail
  go_ret
  exact ⟨f, rfl, hg, hb⟩
set_option maxRecDepth 100000 in
theorem gfData10 (w : World) : Calls Try.prog 35 #[] w (GfPost (six 4) w) := by
  go_enter Try.func35, Try.ntmps35
  go_wp2_with fail
  refine (gf_new (fun _ => True) (six 4) _ _ _ rfl rfl rfl (by decide) (by decide) (by decide) (by decide) w (fun _ _ => trivial)).mono ?_
  rintro e w1 ⟨f, rfl, hg, hb, _⟩
  go_wp2_with fail
  go_ret
  exact ⟨f, rfl, hg.low, hb⟩
set_option maxRecDepth 100000 in
theorem gfData12 (w : World) : Calls Try.prog 36 #[] w (GfPost (six 5) w) := by
  go_enter Try.func36, Try.ntmps36
  go_wp2_with fail
  refine (gf_new (fun _ => True) (six 5) _ _ _ rfl rfl rfl (by decide) (by decide) (by decide) (by decide) w (fun _ _ => trivial)).mono ?_
  rintro e w1 ⟨f, rfl, hg, hb, _⟩
  go_wp2_with fail
  go_ret
  exact ⟨f, rfl, hg.low, hb⟩
set_option maxRecDepth 100000 in
theorem nbLayers (R : Nat) (a0 a1 a2 a3 : Value) (w : World) (h : Arr w 82 R [a0, a1, a2, a3]) :
    Calls Try.prog 32 #[.pointer (some ⟨R, 0, none⟩)] w fun e w' => e = .returned a3 ∧ w = w' := by
  have c := h.cell? 3
  simp only [List.getElem?_cons_zero, List.getElem?_cons_succ] at c
  go_enter Try.func32, Try.ntmps32
  go_wp2_with fail
  go_ret
  exact ⟨rfl, rfl⟩
set_option maxRecDepth 100000 in
theorem nbData (R : Nat) (a0 a1 a2 a3 : Value) (w : World) (h : Arr w 82 R [a0, a1, a2, a3]) :
    Calls Try.prog 37 #[.pointer (some ⟨R, 0, none⟩)] w fun e w' => e = .returned a2 ∧ w = w' := by
  have c := h.cell? 2
  simp only [List.getElem?_cons_zero, List.getElem?_cons_succ] at c
  go_enter Try.func37, Try.ntmps37
  go_wp2_with fail
  go_ret
  exact ⟨rfl, rfl⟩
set_option maxRecDepth 100000 in
theorem azDet (v : Option Addr) (cm : Bool) (n l : Nat) (w : World) :
    Calls Try.prog 25 #[.pointer v, .slice none 0 0, .bool cm, .int .i64 n, .int .i64 l] w fun e w' => ∃ R d, e = .returned (.pointer (some ⟨R, 0, none⟩)) ∧ Arr w' 82 R [.pointer d, .bool cm, .int .i64 n, .int .i64 l] ∧ Below w.heap.size w w' := by
  go_enter Try.func25, Try.ntmps25
  go_wp2_with fail
  have H := Lib.hid (detNew v w)
  refine H.out.mono ?_
  rintro e w1 ⟨d, rfl, hb⟩
  go_wp2_with fail
  go_ret
  exact ⟨_, d, rfl, Arr.new _ _ _, hb.alloc hb.size _⟩
set_option maxRecDepth 100000 in
theorem dec_newA (f : Nat) (w : World) :
    Calls Try.prog 40 #[.pointer (some ⟨f, 0, none⟩)] w fun e w' => ∃ D, e = .returned (.pointer (some ⟨D, 0, none⟩)) ∧ Arr w' 111 D [.pointer (some ⟨f, 0, none⟩)] ∧ Below w.heap.size w w' ∧ w.heap.size ≤ D := by
  go_enter Try.func40, Try.ntmps40
  go_wp2_with fail
  go_ret
  exact ⟨w.heap.size, rfl, Arr.new w _ [.pointer (some ⟨f, 0, none⟩)], (Below.refl _ _).alloc (Nat.le_refl _) _, Nat.le_refl _⟩
end Go.Proofs.Ytiielblnmfeapaa
