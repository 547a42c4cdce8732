/-
  FnBIRanges, the last part: biBits, BINext, and the law. No condition.
-/
import Derived.Test.YtcfcbcjaiplllaaBIR2
namespace Go.Proofs.Ytcfcbcjaiplllaa
open Go.RowKit Go.Qz

theorem Try.infoBool : (Try.prog.info? 4).map (fun i => (i.zero, i.size, i.bytes)) = some (some (.bool false), 1, 1) := by kernel_rfl

set_option maxRecDepth 100000 in
set_option maxHeartbeats 1600000 in
theorem biBits (A : Option Addr) (n c m : Nat) (z : Nat → Bool) (w : World) (hn : n < 4294967296) (hc : n ≤ c) (hm : m ≤ 1000) (h : Rd w A n (fun j => .bool (z j))) :
    Calls Try.prog 7 #[.slice A n c, .int .i64 m] w fun e w' => ∃ v, e = .returned v ∧ w'.ownsRow w.heap.size 4 1 v (min n m) ((List.range (min n m)).map fun j => Value.bool (z j)) ∧ Below w.heap.size w w' := by
  have hown := World.ownsRow_lit (e := 4) (size := 1) w #[] 0 (Nat.le_refl w.heap.size) (by unfold maxLen; omega) rfl
  have hb0 : Below w.heap.size w (w.alloc (.cells #[] 4)) := (Below.refl _ _).alloc (Nat.le_refl _) _
  have h2 := h.alloc (.cells #[] 4)
  by_cases hnm : (n : Int) < m
  · rw [show min n m = n by omega]
    go_enter Try.func7, Try.ntmps7
    go_wp2_with (at_builtin; refine wpList_copyTo _ _ 22 w.heap.size 4 (.bool false) 1 _ 0 [] _ _ _ _ rfl rfl rfl rfl Try.underlying22 Try.infoBool rfl ?_ (by decide) hown h2 ?_ ?_ ?_)
    · intro j hj; rfl
    · omega
    · intro v' w' hown' hg hb
      have HO := Lib.hid hown'
      clear hown' hown
      go_wp2_with fail
      go_ret
      exact ⟨_, rfl, by simpa using HO.out, hb0.trans hb⟩
  · rw [show min n m = m by omega]
    have h3 : Rd (w.alloc (.cells #[] 4)) A m (fun j => .bool (z j)) := fun h0 => by
      obtain ⟨b, off, e1, e2, e3⟩ := h2 (by omega)
      exact ⟨b, off, e1, e2, fun j hj => e3 j (by omega)⟩
    have hcc : (m : Int) ≤ c := by omega
    rcases Nat.lt_or_ge m n with hmn | hmn
    · have hmn' : (m : Int) < n := by omega
      go_enter Try.func7, Try.ntmps7
      go_wp2_with (at_builtin; refine wpList_copyTo _ _ 22 w.heap.size 4 (.bool false) 1 _ 0 [] _ m _ _ rfl rfl rfl rfl Try.underlying22 Try.infoBool rfl ?_ (by decide) hown h3 ?_ ?_ ?_)
      · intro j hj; rfl
      · omega
      · intro v' w' hown' hg hb
        have HO := Lib.hid hown'
        clear hown' hown
        go_wp2_with fail
        go_ret
        exact ⟨_, rfl, by simpa using HO.out, hb0.trans hb⟩
    · obtain rfl : m = n := by omega
      go_enter Try.func7, Try.ntmps7
      go_wp2_with (at_builtin; refine wpList_copyTo _ _ 22 w.heap.size 4 (.bool false) 1 _ 0 [] _ m _ _ rfl rfl rfl rfl Try.underlying22 Try.infoBool rfl ?_ (by decide) hown h3 ?_ ?_ ?_)
      · intro j hj; rfl
      · omega
      · intro v' w' hown' hg hb
        have HO := Lib.hid hown'
        clear hown' hown
        go_wp2_with fail
        go_ret
        exact ⟨_, rfl, by simpa using HO.out, hb0.trans hb⟩

/-- The first place from s on with v; n: none. -/
def Next (z : Nat → Bool) (s n : Nat) (v : Bool) (k : Nat) : Prop := s ≤ k ∧ k ≤ n ∧ (∀ i, s ≤ i → i < k → z i ≠ v) ∧ (k < n → z k = v)

set_option maxRecDepth 100000 in
set_option maxHeartbeats 1600000 in
theorem biNext (S : Int) (s : Nat) (hS : S = s) (v : Bool) (A : Option Addr) (n c : Nat) (z : Nat → Bool) (w : World) (hn : n < 4294967296) (hs : s ≤ n) (h : Rd w A n (fun j => .bool (z j))) :
    Calls Try.prog 9 #[.slice A n c, .int .i64 S, .bool v] w fun e w' => ∃ k, e = .returned (.int .i64 (k : Nat)) ∧ Next z s n v k ∧ w = w' := by
  subst hS
  go_enter Try.func9, Try.ntmps9
  go_wp2_with fail
  go_loop [7] (fun i => ∃ k : Nat, s ≤ k ∧ k ≤ n ∧ i = .int .i64 (k : Int) ∧ Hid (∀ i, s ≤ i → i < k → z i ≠ v)) (fun i => n - (intOf i).toNat)
  case atStart => exact ⟨s, by omega, hs, rfl, Lib.hid (by intro i _ _; omega)⟩
  case round =>
    obtain ⟨k, hk1, hk2, rfl, hall⟩ := hrel
    by_cases hlt : k < n
    · obtain ⟨b, off, rfl, hb, hc⟩ := h (by omega)
      have hck := hc k hlt; dsimp only at hck
      clear hc h
      by_cases hz : z k = v
      · rw [hz] at hck
        have HZ := Lib.hid hz
        clear hz
        go_wp2_with fail
        go_ret
        exact ⟨k, rfl, ⟨hk1, hk2, hall.out, fun _ => HZ.out⟩, rfl⟩
      · have hz2 : (z k == v) = false := by simpa using hz
        have HZ := Lib.hid hz
        clear hz
        go_wp2_with fail
        go_round
        case rel => exact ⟨k + 1, by omega, by omega, by go_num, Lib.hid (by
          intro i h1 h2
          by_cases hi : i = k
          · rw [hi]; exact HZ.out
          · exact hall.out i h1 (by omega))⟩
        case measure => simp [intOf]; omega
    · obtain rfl : k = n := by omega
      go_wp2_with fail
      go_ret
      exact ⟨k, rfl, ⟨hk1, hk2, hall.out, fun h => by omega⟩, rfl⟩
theorem next_all {z : Nat → Bool} {s n k : Nat} {v : Bool} (h : Next z s n (!v) k) : k = n ↔ ∀ i, i < n → s ≤ i → z i = v := by
  obtain ⟨h1, h2, h3, h4⟩ := h
  constructor
  · intro hk i i1 i2
    have := h3 i i2 (by omega)
    cases hz : z i <;> cases v <;> simp_all
  · intro hh
    rcases Nat.lt_or_ge k n with hlt | hge
    · have a := h4 hlt
      have b := hh k hlt h1
      rw [b] at a
      cases v <;> cases a
    · omega

theorem bd_i8 {n : Int} (h : (Lit.int .i8 n).wf = true) : -128 ≤ n ∧ n ≤ 127 := by simpa [Lit.wf, IntKind.min, IntKind.max, IntKind.signed, IntKind.bits] using h

set_option maxRecDepth 100000 in
set_option maxHeartbeats 1600000 in
theorem fnBIRanges_walk (w : World) (A : Option Addr) (n c : Nat) (z : Nat → Bool) (hc : n ≤ c) (_ : c ≤ maxLen) (h : Rd w A n (fun j => .bool (z j)))
    (S : Int) (hS : (Lit.int .i8 S).wf = true) (E : Int) (hE : (Lit.int .i8 E).wf = true) (v : Bool) :
    Calls Try.prog 3 #[.slice A n c, .int .i8 S, .int .i8 E, .bool v] w fun e w' => e = .returned (.bool true) ∧ Below w.heap.size w w' := by
  obtain ⟨hS1, hS2⟩ := bd_i8 hS
  obtain ⟨hE1, hE2⟩ := bd_i8 hE
  by_cases hbig : 2147483647 < n
  · go_enter Try.func3, Try.ntmps3
    go_wp2_with fail
    go_ret
    exact ⟨rfl, Below.refl _ _⟩
  · go_enter Try.func3, Try.ntmps3
    go_wp2_with fail
    refine (biBits A n c 200 z _ (by omega) hc (by omega) h).mono ?_
    rintro e w1 ⟨x, rfl, hown, hb⟩
    obtain ⟨A', c', rfl, hc', _, hr⟩ := Rd.of_own hown
    have hr : Rd w1 A' (min n 200) (fun j => .bool (z j)) := hr.congr fun j hj => by
      rw [List.getD_eq_getElem?_getD, List.getElem?_map, List.getElem?_range hj]; rfl
    obtain ⟨N, hN, hNl⟩ : ∃ N, N = min n 200 ∧ N ≤ 200 := ⟨_, rfl, by omega⟩
    rw [← hN] at hr hc' ⊢
    clear hown h hN
    have HR := Lib.hid hr
    clear hr
    go_wp2_with fail
    refine (arrayIsRange S E v A' N c' z _ hNl HR.out).mono ?_
    rintro e w2 ⟨b, f, rfl, hb2, hf, hbv⟩
    have HF := Lib.hid hf
    have HBV := Lib.hid hbv
    clear hf hbv
    by_cases hok : 0 ≤ S ∧ S ≤ E ∧ E ≤ N
    · obtain ⟨o1, o2, o3⟩ := hok
      have hft : f = true := by rw [HF.out]; simp; omega
      have HQ := Lib.hid (HBV.out hft)
      subst hft
      clear HF HBV
      go_wp2_with fail
      refine (biNext _ S.toNat (by omega) (!v) A' E.toNat c' z _ (by omega) (by omega) ?_).mono ?_
      · intro h0
        obtain ⟨bb, off, e1, e2, e3⟩ := (HR.out.below hb2) (by omega)
        exact ⟨bb, off, e1, e2, fun j hj => e3 j (by omega)⟩
      · rintro e w' ⟨k, rfl, hk, rfl⟩
        have hkn := next_all hk
        have hbk : ((b : Bool) == ((k : Int) == E)) = true := by
          have h1 := HQ.out
          have h2 : (k : Int) = E ↔ ∀ i : Nat, (i : Int) < E → S ≤ i → z i = v := by
            rw [show (k : Int) = E ↔ k = E.toNat from by omega, hkn]
            constructor
            · intro hh i a b; exact hh i (by omega) (by omega)
            · intro hh i a b; exact hh i (by omega) (by omega)
          rw [beq_iff_eq, Bool.eq_iff_iff, h1, ← h2, beq_iff_eq]
        clear hkn hk
        go_wp2_with fail
        go_ret
        exact ⟨rfl, hb.trans (hb2.mono hb.size)⟩
    · have hff : f = false := by rw [HF.out, decide_eq_false_iff_not]; exact hok
      subst hff
      clear HF HBV
      by_cases h1 : S < 0
      · go_wp2_with fail
        go_ret
        exact ⟨rfl, hb.trans (hb2.mono hb.size)⟩
      · by_cases h2 : E < S
        · go_wp2_with fail
          go_ret
          exact ⟨rfl, hb.trans (hb2.mono hb.size)⟩
        · have h3 : (N : Int) < E := by omega
          clear hok
          go_wp2_with fail
          go_ret
          exact ⟨rfl, hb.trans (hb2.mono hb.size)⟩
end Go.Proofs.Ytcfcbcjaiplllaa
