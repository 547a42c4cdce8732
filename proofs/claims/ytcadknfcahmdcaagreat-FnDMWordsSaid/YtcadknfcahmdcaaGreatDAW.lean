/-
  Several texts of this claim in one. No condition beyond the bounds that each theorem states.
-/
import Derived.Test.YtcadknfcahmdcaaGreatBase
import Derived.Test.YtcadknfcahmdcaaGreatSTR
import Derived.Test.YtcadknfcahmdcaaGreatRows
import Derived.BigQuiet
import Derived.Deep.RegionLaw
namespace Go.Qz.DW
open Go.Qz
set_option linter.unusedVariables false

def dig (c : Nat) : Bool := decide (48 ≤ c) && decide (c ≤ 57)
/-- Words of a text in ASCII. -/
def asc : List Nat → List Nat
  | [] => []
  | [c] => [c + 1]
  | c :: d :: r => if dig c && dig d then (130 + 10 * (c - 48) + (d - 48)) :: asc r else (c + 1) :: asc (d :: r)
theorem asc_one {c : Nat} {r : List Nat} (h : ∀ d s, r = d :: s → (dig c && dig d) = false) : asc (c :: r) = (c + 1) :: asc r := by
  cases r with
  | nil => rfl
  | cons d s => rw [asc, h d s rfl]; rfl
theorem asc_two {c d : Nat} {r : List Nat} (h : (dig c && dig d) = true) : asc (c :: d :: r) = (130 + 10 * (c - 48) + (d - 48)) :: asc r := by
  rw [asc, h]; rfl
theorem asc_dropTwo {L : List Nat} {i : Nat} (h : i + 1 < L.length) (hd : (dig (nth L i) && dig (nth L (i + 1))) = true) :
    asc (L.drop i) = (130 + 10 * (nth L i - 48) + (nth L (i + 1) - 48)) :: asc (L.drop (i + 2)) := by
  rw [drop_nth (show i < L.length by omega), drop_nth h, asc_two hd]
theorem asc_dropOne {L : List Nat} {i : Nat} (h : i < L.length) (hd : i + 1 < L.length → (dig (nth L i) && dig (nth L (i + 1))) = false) :
    asc (L.drop i) = (nth L i + 1) :: asc (L.drop (i + 1)) := by
  rw [drop_nth h]
  refine asc_one fun d s hs => ?_
  have h1 : i + 1 < L.length := by
    rcases Nat.lt_or_ge (i + 1) L.length with h | h
    · exact h
    · rw [List.drop_eq_nil_of_le h] at hs; cases hs
  rw [drop_nth h1] at hs
  injection hs with hs _
  rw [← hs]; exact hd h1
theorem asc_len : ∀ (n : Nat) (l : List Nat), l.length ≤ n → (asc l).length ≤ l.length
  | _, [], _ => Nat.le_refl _
  | _, [c], _ => Nat.le_refl _
  | n + 1, c :: d :: r, h => by
    simp only [List.length_cons] at h
    by_cases hd : (dig c && dig d) = true
    · rw [asc_two hd]; have := asc_len n r (by omega); simp; omega
    · rw [asc, if_neg hd]; have := asc_len n (d :: r) (by simp; omega); simp at this ⊢; omega

/-- Words from a place on say a text in ASCII, up to a pad. -/
inductive Asc (W : List Nat) : Nat → List Nat → Prop where
  | pad {P : Nat} (h : P < W.length) (e : nth W P = 129) : Asc W P []
  | chr {P c : Nat} {T : List Nat} (h : P < W.length) (hc : c < 128) (e : nth W P = c + 1) (t : Asc W (P + 1) T) : Asc W P (c :: T)
  | two {P v : Nat} {T : List Nat} (h : P < W.length) (hv : v < 100) (e : nth W P = 130 + v) (t : Asc W (P + 1) T) : Asc W P ((48 + v / 10) :: (48 + v % 10) :: T)
theorem Asc.lt {W : List Nat} {P : Nat} {T : List Nat} (h : Asc W P T) : P < W.length := by cases h <;> assumption
theorem nth_at (X : List Nat) (c : Nat) (Y : List Nat) : nth (X ++ c :: Y) X.length = c := by
  unfold nth
  rw [List.getD_eq_getElem?_getD, List.getElem?_append_right (Nat.le_refl _), Nat.sub_self]
  rfl
theorem asc_says : ∀ (n : Nat) (T : List Nat), T.length ≤ n → (∀ x ∈ T, x < 128) → ∀ (X Y : List Nat), Asc (X ++ (asc T ++ 129 :: Y)) X.length T
  | _, [], _, _, X, Y => .pad (by simp [asc]) (nth_at X 129 Y)
  | n + 1, [c], _, hT, X, Y => by
    refine .chr (by simp <;> omega) (hT c (by simp)) (nth_at X (c + 1) _) ?_
    have := asc_says n [] (Nat.zero_le _) (by simp) (X ++ [c + 1]) Y
    simpa [asc] using this
  | n + 1, c :: d :: r, hn, hT, X, Y => by
    simp only [List.length_cons] at hn
    by_cases hd : (dig c && dig d) = true
    · rw [asc_two hd]
      simp only [dig, Bool.and_eq_true, decide_eq_true_eq] at hd
      have := asc_says n r (by omega) (fun x hx => hT x (by simp [hx])) (X ++ [130 + 10 * (c - 48) + (d - 48)]) Y
      have h2 := Asc.two (W := X ++ ((130 + 10 * (c - 48) + (d - 48)) :: asc r ++ 129 :: Y)) (P := X.length) (v := 10 * (c - 48) + (d - 48)) (T := r) (by simp) (by omega) (by rw [List.cons_append, nth_at]; omega) (by simpa using this)
      rwa [show 48 + (10 * (c - 48) + (d - 48)) / 10 = c by omega, show 48 + (10 * (c - 48) + (d - 48)) % 10 = d by omega] at h2
    · rw [asc, if_neg hd]
      refine .chr (by simp) (hT c (by simp)) (nth_at X (c + 1) _) ?_
      have := asc_says n (d :: r) (by simp; omega) (fun x hx => hT x (List.mem_cons_of_mem _ hx)) (X ++ [c + 1]) Y
      simpa using this

/-- The byte of a value of X12, and back. -/
def xc (v : Nat) : Nat := if v = 0 then 13 else if v = 1 then 42 else if v = 2 then 62 else if v = 3 then 32 else if v < 14 then v + 44 else v + 51
def xok (c : Nat) : Bool := c == 13 || c == 42 || c == 62 || c == 32 || dig c || (decide (65 ≤ c) && decide (c ≤ 90))
def xv (c : Nat) : Nat := if c = 13 then 0 else if c = 42 then 1 else if c = 62 then 2 else if c = 32 then 3 else if c ≤ 57 then c - 44 else c - 51
theorem xv_ok : ∀ c, c < 128 → xok c = true → xv c < 40 ∧ xc (xv c) = c := by decide
theorem xok_lt {c : Nat} (h : xok c = true) : c < 128 := by
  simp only [xok, dig, Bool.or_eq_true, Bool.and_eq_true, beq_iff_eq, decide_eq_true_eq] at h
  omega
/-- Two words of three values. -/
def tri (a b c : Nat) : Nat := 1600 * a + 40 * b + c + 1
/-- Words of threes of values. -/
def tris : List Nat → List Nat
  | a :: b :: c :: r => tri a b c / 256 :: tri a b c % 256 :: tris r
  | _ => []
/-- Words from a place on say a text in X12, then in ASCII. -/
inductive X12 (W : List Nat) : Nat → List Nat → Prop where
  | done {P : Nat} {T : List Nat} (h : P + 1 < W.length) (e : nth W P = 254) (t : Asc W (P + 1) T) : X12 W P T
  | three {P a b c : Nat} {T : List Nat} (h : P + 2 < W.length) (ha : a < 40) (hb : b < 40) (hc : c < 40) (e : nth W P * 256 + nth W (P + 1) = tri a b c) (e1 : nth W (P + 1) < 256) (t : X12 W (P + 2) T) : X12 W P (xc a :: xc b :: xc c :: T)
theorem X12.lt {W : List Nat} {P : Nat} {T : List Nat} (h : X12 W P T) : P + 1 < W.length := by cases h <;> omega
theorem x12_says (T Y : List Nat) (hT : ∀ x ∈ T, x < 128) : ∀ (n : Nat) (V : List Nat), V.length = 3 * n → (∀ x ∈ V, x < 40) → ∀ X : List Nat, X12 (X ++ (tris V ++ 254 :: (asc T ++ 129 :: Y))) X.length (V.map xc ++ T)
  | 0, V, hV, _, X => by
    obtain rfl : V = [] := List.eq_nil_of_length_eq_zero hV
    refine .done (by simp [tris] <;> omega) (nth_at X 254 _) ?_
    have := asc_says _ T (Nat.le_refl _) hT (X ++ [254]) Y
    simpa [tris] using this
  | n + 1, [], hV, _, _ => by simp at hV
  | n + 1, [_], hV, _, _ => by simp at hV; omega
  | n + 1, [_, _], hV, _, _ => by simp at hV; omega
  | n + 1, a :: b :: c :: r, hV, hl, X => by
    have ih := x12_says T Y hT n r (by simp at hV; omega) (fun x hx => hl x (by simp [hx])) (X ++ [tri a b c / 256] ++ [tri a b c % 256])
    have ha := hl a (by simp)
    have hb := hl b (by simp)
    have hc := hl c (by simp)
    have e1 : nth (X ++ (tris (a :: b :: c :: r) ++ 254 :: (asc T ++ 129 :: Y))) X.length = tri a b c / 256 := nth_at X _ _
    have e2 : nth (X ++ (tris (a :: b :: c :: r) ++ 254 :: (asc T ++ 129 :: Y))) (X.length + 1) = tri a b c % 256 := by
      have := nth_at (X ++ [tri a b c / 256]) (tri a b c % 256) (tris r ++ 254 :: (asc T ++ 129 :: Y))
      simpa [tris] using this
    refine .three (by simp [tris]; omega) ha hb hc (by rw [e1, e2]; omega) (by rw [e2]; omega) ?_
    simpa [tris] using ih
end Go.Qz.DW
namespace Go.Proofs.YtcadknfcahmdcaaGreat
open Go.RowKit Go.Qz Go.Qz.DW
set_option linter.unusedVariables false

theorem Tryz.infoU8W : (Tryz.prog.info? 5).map (fun i => (i.zero, i.size, i.bytes)) = some (some (.int .u8 0), 1, 1) := by kernel_rfl
theorem Tryz.infoIntW : (Tryz.prog.info? 3).map (fun i => (i.zero, i.size, i.bytes)) = some (some (.int .i64 0), 1, 8) := by kernel_rfl
def u8l (l : List Nat) : List Value := l.map fun x : Nat => Value.int .u8 x
def i64l (l : List Nat) : List Value := l.map fun x : Nat => Value.int .i64 x
set_option maxRecDepth 100000 in
theorem dmDigit (c : Nat) (hc : c < 256) (w : World) : Calls Tryz.prog 51 #[.int .u8 c] w fun e w' => e = .returned (.bool (dig c)) ∧ w = w' := by
  have h1 : dig c = (decide ((48 : Int) ≤ (c : Int)) && decide ((c : Int) ≤ 57)) := by
    unfold dig
    congr 1 <;> (apply Bool.eq_iff_iff.2; simp <;> omega)
  by_cases h : (48 : Int) ≤ (c : Int)
  · have h2 : decide ((48 : Int) ≤ (c : Int)) = true := by simpa using h
    rw [h2, Bool.true_and] at h1
    rw [h1]
    clear h1
    go_enter Tryz.func51, Tryz.ntmps51
    go_wp2_with fail
    go_ret
    exact ⟨rfl, rfl⟩
  · have h2 : decide ((48 : Int) ≤ (c : Int)) = false := by simpa using h
    rw [h2, Bool.false_and] at h1
    rw [h1]
    have h3 : ((48 : Int) ≤ (c : Int)) = False := by simpa using h
    clear h1 h
    go_enter Tryz.func51, Tryz.ntmps51
    go_wp2_with fail
    go_ret
    exact ⟨rfl, rfl⟩
def xval (c : Nat) : Int := if xok c then (xv c : Nat) else -1
set_option maxRecDepth 100000 in
set_option maxHeartbeats 1600000 in
theorem dmX12 (c : Nat) (hc : c < 256) (w : World) : Calls Tryz.prog 21 #[.int .u8 c] w fun e w' => e = .returned (.int .i64 (xval c)) ∧ w = w' := by
  have HD := Lib.hid (dmDigit c hc w)
  by_cases h0 : c = 13 ∨ c = 42 ∨ c = 62 ∨ c = 32
  · clear HD
    rcases h0 with rfl | rfl | rfl | rfl <;>
    · go_enter Tryz.func21, Tryz.ntmps21
      go_wp2_with fail
      go_ret
      exact ⟨rfl, rfl⟩
  have n1 : ((c : Int) == 13) = false := by simp; omega
  have n2 : ((c : Int) == 42) = false := by simp; omega
  have n3 : ((c : Int) == 62) = false := by simp; omega
  have n4 : ((c : Int) == 32) = false := by simp; omega
  by_cases h1 : dig c = true
  · have hx : xval c = ((c - 44 : Nat) : Int) := by
      have h2 := h1
      unfold dig at h2
      simp only [Bool.and_eq_true, decide_eq_true_eq] at h2
      unfold xval xok xv
      rw [h1, Bool.or_true, Bool.true_or, if_pos rfl, if_neg (by omega), if_neg (by omega), if_neg (by omega), if_neg (by omega), if_pos (by omega)]
    have h3 : 48 ≤ c ∧ c ≤ 57 := by simpa [dig] using h1
    rw [hx]
    obtain ⟨x, hx2⟩ : ∃ x, x = c - 48 := ⟨_, rfl⟩
    obtain ⟨y, hy⟩ : ∃ y, y = c - 44 := ⟨_, rfl⟩
    rw [h1] at HD
    rw [← hy]
    have e1 : (c : Int) - 48 = (x : Int) := by omega
    have e2 : (x : Int) + 4 = (y : Int) := by omega
    have hxb : x < 256 := by omega
    clear hx hx2 hy h1 h0
    go_enter Tryz.func21, Tryz.ntmps21
    go_wp2_with fail
    refine HD.out.mono ?_
    rintro e w1 ⟨rfl, rfl⟩
    go_wp2_with fail
    go_ret
    exact ⟨rfl, rfl⟩
  · rw [Bool.not_eq_true] at h1
    rw [h1] at HD
    have h5 : ¬ (48 ≤ c ∧ c ≤ 57) := by
      intro h; rw [show dig c = true by simp [dig]; omega] at h1; cases h1
    by_cases h6 : (65 : Int) ≤ (c : Int)
    · by_cases h7 : (c : Int) ≤ 90
      · have hx : xval c = ((c - 51 : Nat) : Int) := by
          have : xok c = true := by
            unfold xok
            rw [show decide (65 ≤ c) = true by simp; omega, show decide (c ≤ 90) = true by simp; omega]; simp
          unfold xval xv
          rw [this, if_pos rfl, if_neg (by omega), if_neg (by omega), if_neg (by omega), if_neg (by omega), if_neg (by omega)]
        rw [hx]
        obtain ⟨x, hx2⟩ : ∃ x, x = c - 65 := ⟨_, rfl⟩
        obtain ⟨y, hy⟩ : ∃ y, y = c - 51 := ⟨_, rfl⟩
        rw [← hy]
        have e1 : (c : Int) - 65 = (x : Int) := by omega
        have e2 : (x : Int) + 14 = (y : Int) := by omega
        have hxb : x < 256 := by omega
        clear hx hx2 hy h1 h0 h5
        go_enter Tryz.func21, Tryz.ntmps21
        go_wp2_with fail
        refine HD.out.mono ?_
        rintro e w1 ⟨rfl, rfl⟩
        go_wp2_with fail
        go_ret
        exact ⟨rfl, rfl⟩
      · have hx : xval c = -1 := by
          have : xok c = false := by
            unfold xok
            rw [h1, show decide (c ≤ 90) = false by simp; omega]; simp; omega
          unfold xval
          rw [this]; rfl
        rw [hx]
        have h8 : ((c : Int) ≤ 90) = False := by simpa using h7
        clear hx h1 h0 h5 h7
        go_enter Tryz.func21, Tryz.ntmps21
        go_wp2_with fail
        refine HD.out.mono ?_
        rintro e w1 ⟨rfl, rfl⟩
        go_wp2_with fail
        go_ret
        exact ⟨rfl, rfl⟩
    · have hx : xval c = -1 := by
        have : xok c = false := by
          unfold xok
          rw [h1, show decide (65 ≤ c) = false by simp; omega]; simp; omega
        unfold xval
        rw [this]; rfl
      rw [hx]
      have h8 : ((65 : Int) ≤ (c : Int)) = False := by simpa using h6
      clear hx h1 h0 h5 h6
      go_enter Tryz.func21, Tryz.ntmps21
      go_wp2_with fail
      refine HD.out.mono ?_
      rintro e w1 ⟨rfl, rfl⟩
      go_wp2_with fail
      go_ret
      exact ⟨rfl, rfl⟩

def ModePost (m : Nat) (s : ByteArray) (w : World) (e : Ending) (w' : World) : Prop :=
  ∃ r, e = .returned (.bool r) ∧ (r = true → ∀ j, j < s.size → nth (sb s) j < 128 ∧ (m = 3 → xok (nth (sb s) j) = true)) ∧ w = w'
def RowPost (l : List Nat) (w : World) (e : Ending) (w' : World) : Prop :=
  ∃ v, e = .returned v ∧ w'.ownsRow w.heap.size 5 1 v l.length (u8l l) ∧ Below w.heap.size w w'
theorem u8l_snoc (l : List Nat) (x : Nat) : u8l (l ++ [x]) = u8l l ++ [.int .u8 (x : Nat)] := by simp [u8l]
theorem i64l_snoc (l : List Nat) (x : Nat) : i64l (l ++ [x]) = i64l l ++ [.int .i64 (x : Nat)] := by simp [i64l]
end Go.Proofs.YtcadknfcahmdcaaGreat
