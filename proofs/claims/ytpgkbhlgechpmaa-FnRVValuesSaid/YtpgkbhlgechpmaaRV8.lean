/-
  The law FnRVValues, walked out of its parts: it returns true for every input. No condition beyond the bounds that each theorem states.
-/
import Derived.Test.YtpgkbhlgechpmaaRV6
import Derived.Test.YtpgkbhlgechpmaaRV7
namespace Go.Proofs.Ytpgkbhlgechpmaa
open Go.RowKit Go.Qz Go.Qz.RV

theorem range_nth (l : List Nat) : (List.range l.length).map (fun j => Value.int .i64 ((nth l j : Nat) : Int)) = l.map fun x : Nat => Value.int .i64 (x : Int) := by
  apply List.ext_getElem
  · simp
  · intro i h1 h2
    simp at h1
    simp [nth_eq h1]

theorem ws_of_own {w : World} {B : Nat} {v : Value} {n : Nat} {l : List Nat} (h : w.ownsRow B 3 1 v n (l.map fun x : Nat => Value.int .i64 (x : Int))) :
    ∃ A c, v = .slice A l.length c ∧ n = l.length ∧ Ws w A l := by
  obtain ⟨A, c, rfl, _, _, hr⟩ := Rd.of_own h
  have hl : n = l.length := by have := h.1; simpa using this.symm
  subst hl
  exact ⟨A, c, rfl, rfl, hr.congr fun j hj => by simp [List.getD_eq_getElem?_getD, List.getElem?_eq_getElem hj, nth_eq hj]⟩

set_option maxRecDepth 100000 in
set_option maxHeartbeats 1600000 in
theorem rssValue (l : List Nat) (m : Nat) (o : Bool) (A : Option Addr) (c : Nat) (w : World) (hm : m ≤ 9) (hl : ∀ x ∈ l, 1 ≤ x ∧ x ≤ 9) (hn : l.length ≤ 6) (hn1 : 1 ≤ l.length) (h : Ws w A l) :
    Calls Try.prog 15 #[.slice A l.length c, .int .i64 m, .bool o] w fun e w' => e = .returned (.int .i64 (goval l m o)) ∧ Below w.heap.size w w' := by
  go_enter Try.func15, Try.ntmps15
  go_wp2_with (at_builtin; refine wpList_copyTo _ _ 28 w.heap.size 3 (.int .i64 0) 8 _ 0 [] _ _ _ _ rfl rfl rfl rfl Try.underlying28 Try.info3 rfl ?_ (by decide) (World.ownsRow_nil _ _ _ _) h ?_ ?_ ?_)
  · intro j hj; rfl
  · omega
  · exact Nat.le_refl _
  · intro v' w' hown hg hb
    rw [range_nth] at hown
    obtain ⟨A', c', rfl, _, hws⟩ := ws_of_own hown
    have HO := Lib.hid hown
    clear hown h
    go_wp2_with fail
    refine (goRSS l m o A' c' _ hm hl hn hn1 hws).mono ?_
    rintro e w'' ⟨rfl, rfl⟩
    go_wp2_with fail
    go_ret
    exact ⟨rfl, hb⟩

theorem rvMost (n : Int) (h0 : 0 ≤ n) (h1 : n ≤ 255) (w : World) :
    Calls Try.prog 12 #[.int .u8 n] w fun e w' => ∃ m : Nat, 1 ≤ m ∧ m ≤ 9 ∧ e = .returned (.int .i64 m) ∧ w = w' := by
  go_enter Try.func12, Try.ntmps12
  go_wp2_with fail
  go_ret
  exact ⟨(1 + n % 9).toNat, by omega, by omega, by rw [Int.toNat_of_nonneg (by omega)]; rfl, rfl⟩

set_option maxRecDepth 100000 in
set_option maxHeartbeats 1600000 in
theorem law (l : Nat → Nat) (A : Option Addr) (n c : Nat) (m : Int) (o : Bool) (w : World) (hm0 : 0 ≤ m) (hm1 : m ≤ 255) (hl : ∀ j, j < n → l j ≤ 255)
    (h : Rd w A n (fun j => .int .u8 (l j))) :
    Calls Try.prog 4 #[.slice A n c, .int .u8 m, .bool o] w fun e w' => e = .returned (.bool true) ∧ Below w.heap.size w w' := by
  by_cases hbig : 2147483647 < n
  · go_enter Try.func4, Try.ntmps4
    go_wp2_with fail
    go_ret
    exact ⟨rfl, Below.refl _ _⟩
  · go_enter Try.func4, Try.ntmps4
    go_wp2_with fail
    refine (rvMost m hm0 hm1 _).mono ?_
    rintro e w' ⟨k, hk1, hk2, rfl, rfl⟩
    go_wp2_with fail
    refine (rvWidths l A n c k _ hk1 hk2 (by omega) hl h).mono ?_
    rintro e w1 ⟨v, rfl, hown, hb⟩
    obtain ⟨ws, hws, hwl, hwn⟩ : ∃ ws : List Nat, ws = (if n = 0 then [1] else widths l k (min n 6)) ∧ (∀ x ∈ ws, 1 ≤ x ∧ x ≤ 9) ∧ 1 ≤ ws.length ∧ ws.length ≤ 6 := by
      refine ⟨_, rfl, ?_, ?_⟩
      · split
        · simp
        · intro x hx
          obtain ⟨i, _, rfl⟩ := List.mem_map.1 hx
          have := Nat.mod_lt (l i) (show 0 < k by omega)
          omega
      · split
        · simp
        · simp [widths]; omega
    rw [← hws] at hown
    clear hws
    obtain ⟨A', c', rfl, _, hr⟩ := ws_of_own hown
    have HO := Lib.hid hown
    clear hown h
    have HR := Lib.hid hr
    clear hr
    go_wp2_with fail
    refine (rvAsked ws k o A' c' _ hk2 hwl hwn.2 HR.out).mono ?_
    rintro e w' ⟨rfl, rfl⟩
    cases has : asked ws k o
    · go_wp2_with fail
      go_ret
      exact ⟨rfl, hb⟩
    · have heq : goval ws k o = (value ws k o : Int) := by
        unfold asked at has
        simp only [Bool.and_eq_true, decide_eq_true_eq, Bool.or_eq_true, Bool.not_eq_true'] at has
        refine goval_eq k hk1 hk2 ws o (fun x hx => (hwl x hx).1) hwn.2 has.1 (fun ho => ?_)
        rcases has.2 with h | h
        · rw [h] at ho; cases ho
        · exact h
      have HE := Lib.hid heq
      clear heq has
      go_wp2_with fail
      refine (rssValue ws k o A' c' _ hk2 hwl hwn.2 hwn.1 HR.out).mono ?_
      rintro e w2 ⟨rfl, hb2⟩
      rw [HE.out]
      go_wp2_with fail
      refine (rvValue ws k o A' c' _ hk2 hwl hwn.2 (HR.out.below hb2)).mono ?_
      rintro e w' ⟨rfl, rfl⟩
      go_wp2_with fail
      go_ret
      exact ⟨rfl, hb.trans (hb2.mono hb.size)⟩

theorem fnRVValues_walk (w : World) (A : Option Addr) (n c : Nat) (z : Nat → Int) (_ : n ≤ c) (_ : c ≤ maxLen) (hz : ∀ j, j < n → (Lit.int .u8 (z j)).wf = true) (h0 : Rd w A n (fun j => .int .u8 (z j)))
    (m : Int) (hm : (Lit.int .u8 m).wf = true) (o : Bool) :
    Calls Try.prog 4 #[.slice A n c, .int .u8 m, .bool o] w fun e w' => e = .returned (.bool true) ∧ Below w.heap.size w w' :=
  law (fun j => (z j).toNat) A n c m o w (bd_u8 hm).1 (bd_u8 hm).2 (fun j hj => by have := bd_u8 (hz j hj); omega)
    (h0.congr fun j hj => by have := bd_u8 (hz j hj); rw [Int.toNat_of_nonneg this.1])
end Go.Proofs.Ytpgkbhlgechpmaa
