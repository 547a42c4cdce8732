/-
  Syndromes, and what Decode keeps; the logarithm of a power, quietly.
-/
import Derived.Test.YtiielblnmfeapaaRSG4
import Derived.Test.YtiielblnmfeapaaRSD3
import Derived.Test.YtiielblnmfeapaaRSE4
namespace Go.Qz.RS
open Go.Qz Go.Proofs.Ytiielblnmfeapaa
set_option linter.unusedVariables false
variable {F : Fld}

/-- The syndromes so far, the last one first. -/
def Syl (M : Nat) (s : Nat → Nat) (i : Nat) (X : List Nat) : Prop := X.length = M ∧ ∀ j, j < M → nth X j = if M - 1 - j < i then s (M - 1 - j) else 0
theorem Syl.start (M : Nat) (s : Nat → Nat) : Syl M s 0 (List.replicate M 0) := ⟨by simp, fun j hj => by rw [nth_replicate]; simp⟩
theorem Syl.next {M : Nat} {s : Nat → Nat} {i : Nat} {X : List Nat} (h : Syl M s i X) (hi : i < M) : Syl M s (i + 1) (X.set (M - 1 - i) (s i)) := ⟨by rw [List.length_set]; exact h.1, fun j hj => by
  rw [nth_set (by rw [h.1]; omega)]
  by_cases e : j = M - 1 - i
  · rw [if_pos e, if_pos (by omega), show M - 1 - j = i by omega]
  · rw [if_neg e, h.2 j hj]
    by_cases e2 : M - 1 - j < i
    · rw [if_pos e2, if_pos (by omega)]
    · rw [if_neg e2, if_neg (by omega)]⟩
theorem Syl.co {M : Nat} {s : Nat → Nat} {X : List Nat} (h : Syl M s M X) (n : Nat) : RS.co X n = if n < M then s n else 0 := by
  unfold RS.co
  rw [h.1]
  by_cases e : n < M
  · rw [if_pos e, if_pos e, h.2 _ (by omega), if_pos (by omega), show M - 1 - (M - 1 - n) = n by omega]
  · rw [if_neg e, if_neg e]
theorem Syl.el (hF : Six F) {M : Nat} {s : Nat → Nat} {i : Nat} {X : List Nat} (hs : ∀ i, s i < F.size) (h : Syl M s i X) : El F X := fun j => by
  have := hF.bounds
  by_cases hj : j < M
  · rw [h.2 j hj]
    split
    · exact hs _
    · omega
  · rw [nth_past (by rw [h.1]; omega)]; omega
def synS (hF : Six F) (s : Nat → Nat) (hs : ∀ i, s i < F.size) (M : Nat) : Ser F hF := ⟨fun i => if i < M then s i else 0, fun i => by
  have := hF.bounds
  show (if i < M then s i else 0) < F.size
  split
  · exact hs i
  · omega⟩
theorem Syl.eu (hF : Six F) {M : Nat} {s : Nat → Nat} {X : List Nat} (hs : ∀ i, s i < F.size) (hM : 2 ≤ M) (h : Syl M s M X) : EuInv (synS hF s hs M) M (monL M 1) (tidy X) [0] [1] := by
  have hX : X ≠ [] := by intro e; have := h.1; rw [e] at this; simp at this; omega
  refine EuInv.start (by omega) (El.tidy (h.el hF hs)) (tidy_tidy X) (tidy_ne X hX) ?_ fun n => ?_
  · have := tidy_length X
    rw [h.1] at this; exact this
  · rw [co_tidy, h.co]; rfl
theorem syl_fin (hF : Six F) {Y : Nat → Nat} {hY : ∀ j, Y j < F.size} {b : Nat} (hY0 : ∀ j, Y j ≠ 0) {J : List Nat} (nd : J.Nodup) (hJ : ∀ j ∈ J, j < F.size - 1) (hJb : ∀ j ∈ J, ex F (j * b) ≠ 0) {M : Nat} (hν : 2 * J.length ≤ M) {s : Nat → Nat} (hs : ∀ i, s i < F.size)
    (hss : ∀ i, i < M → s i = (syn Y hY b J : Ser F hF).c i) (rl rr tl tt : List Nat) (I : EuInv (synS hF s hs M) M rl rr tl tt) (he : 2 * (rr.length - 1) < M) :
    ∃ k, k < F.size ∧ k ≠ 0 ∧ (∀ i, RS.co tt i = mul F ((loc J : Ser F hF).c i) k) ∧ (∀ i, RS.co rr i = mul F ((evl Y hY b J : Ser F hF).c i) k) :=
  EuInv.final hY0 nd hJ hJb hν (fun i hi => by show (if i < M then s i else 0) = _; rw [if_pos hi, hss i hi]) (fun i hi => by show (if i < M then s i else 0) = 0; rw [if_neg (by omega)]) I he
theorem sx_syn (hF : Six F) {Y : Nat → Nat} {hY : ∀ j, Y j < F.size} {L R J : List Nat} (hL : El F L) (r : Rcv F Y L R J) (nd : J.Nodup) (hJ : ∀ j ∈ J, j < L.length) {b i : Nat} (h0 : ev F L (ex F (i + b)) = 0) : ev F R (ex F (i + b)) = (syn Y hY b J : Ser F hF).c i := by
  rw [ev_rcv hF hY hL r nd hJ, h0, Nat.zero_xor, syn_c]
theorem el_set (hF : Six F) {C : List Nat} (h : El F C) {p v : Nat} (hv : v < F.size) : El F (C.set p v) := fun i => by
  by_cases hp : p < C.length
  · rw [nth_set hp]
    split
    · exact hv
    · exact h i
  · rw [List.set_eq_of_length_le (by omega)]; exact h i
/-- What the evaluator says at the places found. -/
theorem evl_ev (hF : Six F) {Y : Nat → Nat} {hY : ∀ j, Y j < F.size} {b : Nat} {J K lo : List Nat} (p : K.Perm J) (nd : J.Nodup) (hJ : ∀ j ∈ J, j < F.size - 1) (hc : ∀ n, RS.co lo n = (evl Y hY b J : Ser F hF).c n) :
    ∀ i ∈ K, ev F lo (inv F (ex F i)) = mul F (mul F (Y i) (ex F (i * b))) (levx F (inv F (ex F i)) i K) := fun i hi => by
  have hJi := hJ i (p.mem_iff.1 hi)
  rw [ev_ser (h := hF) (p := evl Y hY b K) (fun n => by rw [hc, evl_perm p]) (evl_deg K)]
  exact evl_at hJi K (p.nodup_iff.2 nd) hi
theorem lo_len (hF : Six F) {Y : Nat → Nat} {hY : ∀ j, Y j < F.size} {b : Nat} {J lo : List Nat} (ht : tidy lo = lo) (hn : lo ≠ []) (hc : ∀ n, RS.co lo n = (evl Y hY b J : Ser F hF).c n) : lo.length ≤ J.length + 1 := by
  have := tidy_le (l := lo) (k := J.length + 1) (by omega) hn (fun n hn => by rw [hc]; exact evl_deg J n (by omega))
  rwa [ht] at this
end Go.Qz.RS
namespace Go.Proofs.Ytiielblnmfeapaa
open Go.RowKit Go.Qz Go.Qz.RS
set_option linter.unusedVariables false

theorem intsS_get {C : List Nat} (spare : List Value) {p : Nat} (hp : p < C.length) : (ints C ++ spare)[p]? = some (.int .i64 (nth C p : Nat)) := by
  rw [List.getElem?_append_left (by rw [ints_length]; exact hp)]; exact ints_get C p hp
theorem intsS_set {C : List Nat} (spare : List Value) {p : Nat} (hp : p < C.length) (x : Nat) : (ints C ++ spare).set p (.int .i64 (x : Nat)) = ints (C.set p x) ++ spare := by
  rw [List.set_append_left _ _ (by rw [ints_length]; exact hp)]
  simp [ints, List.map_set]

set_option maxRecDepth 100000 in
set_option maxHeartbeats 1600000 in
theorem gfLogN (Q : Nat → Prop) (F : Fld) (hF : Six F) (f j : Nat) (hj : j < F.size - 1) (w : World) (h : GFQ w Q f F) :
    Calls Try.prog 63 #[.pointer (some ⟨f, 0, none⟩), .int .i64 (ex F j : Nat)] w fun e w' => e = .returned (.tuple #[.int .i64 (j : Nat), .nilIface]) ∧ ∃ n, w' = w.drewN n := by
  have hs := hF.bounds
  have hn := exl hF j
  have hn0 := ex_ne hF hj
  have hlg := lg_ex hF hj
  obtain ⟨⟨eb, lb, z, o, h1, _, _, h2, _⟩, _⟩ := h
  have hc : w.cell? ⟨f, 1, none⟩ = some (.slice (some ⟨lb, 0, none⟩) F.size F.size) := by rw [cell_of_row w f 1 _ _ _ h1]; rfl
  obtain ⟨n, hne⟩ : ∃ n, n = ex F j := ⟨_, rfl⟩
  rw [← hne] at hn hn0 hlg ⊢
  have hv : w.cell? ⟨lb, n, none⟩ = some (.int .i64 (lg F n : Nat)) := by
    rw [Arr.cell? h2]
    have hl := logs_length F (F.size - 1)
    rw [List.getElem?_map, List.getElem?_eq_getElem (by omega)]
    simp [lg, List.getD_eq_getElem?_getD, hl, hn]
  rw [hlg] at hv
  have h0 : ((n : Int) == 0) = false := by simpa using hn0
  clear h1 h2 hne hlg
  go_enter Try.func63, Try.ntmps63
  go_wp2_with fail
  go_ret2
  exact ⟨rfl, 0, rfl⟩
end Go.Proofs.Ytiielblnmfeapaa
