/-
  Bits of numbers, data bits of segments (the reference's), walked. No condition beyond the bounds that each theorem states.
-/
import Derived.Test.YthkiajighmhdoaaQAA
import Derived.Test.YthkiajighmhdoaaPSH
import Derived.Lib.BitFns
import Derived.Test.YthkiajighmhdoaaGRD
namespace Go.Proofs.Ythkiajighmhdoaa
open Go.RowKit Go.Qz Go.Qz.QA
set_option linter.unusedVariables false

theorem and_one (y : Nat) (hy : y < 65536) : bits .and .i64 (y : Int) 1 = ((y % 2 : Nat) : Int) := by
  have h := i64_and y 1 (by omega) (by omega)
  rw [Nat.and_one_is_mod] at h
  exact h
/-- What a row's growth leaves as it was. -/
def Sta (w wr : World) (v0 v : Value) : Prop := Mod (fun k => v0.ownBlock = some k) w wr ∧ (v.ownBlock = v0.ownBlock ∨ ∃ k, v.ownBlock = some k ∧ w.heap.size ≤ k)
theorem Sta.refl (w : World) (v : Value) : Sta w w v v := ⟨Mod.refl _, .inl rfl⟩
theorem Sta.grow {w wr w' : World} {v0 v v' : Value} (h : Sta w wr v0 v) (hg : wr.grownBy w' v.ownBlock) (hl : v'.ownBlock = v.ownBlock ∨ ∃ k, v'.ownBlock = some k ∧ wr.heap.size ≤ k) : Sta w w' v0 v' := by
  refine ⟨h.1.grown hg (fun k hk => ?_), ?_⟩
  · rcases h.2 with h2 | ⟨j, h2, h3⟩
    · exact .inl (by rw [← h2]; exact hk)
    · rw [h2] at hk; injection hk with hk; exact .inr (by omega)
  · rcases hl with h1 | ⟨j, h1, h2⟩
    · rw [h1]; exact h.2
    · exact .inr ⟨j, h1, Nat.le_trans h.1.size h2⟩
theorem Sta.below {w wr w' : World} {v0 v : Value} (h : Sta w wr v0 v) (hb : Below wr.heap.size wr w') : Sta w w' v0 v := ⟨h.1.then (Mod.of_below (S := fun _ => False) hb) (fun i _ h => False.elim h), h.2⟩
theorem Sta.trans {w a b : World} {v0 v1 v2 : Value} (h : Sta w a v0 v1) (k : Sta a b v1 v2) : Sta w b v0 v2 := by
  refine ⟨h.1.then k.1 (fun i hi hs => ?_), ?_⟩
  · rcases h.2 with h2 | ⟨j, h2, h3⟩
    · rw [← h2]; exact hs
    · have hs : v1.ownBlock = some i := hs
      rw [h2] at hs; injection hs with hs; omega
  · rcases k.2 with k2 | ⟨j, k2, k3⟩
    · rw [k2]; exact h.2
    · exact .inr ⟨j, k2, Nat.le_trans h.1.size k3⟩
theorem Sta.base {w w' : World} {v v' : Value} {base : Nat} {e : TypeId} {size n : Nat} {xs : List Value} (h : Sta w w' v v') (ho : w.ownsRow base e size v n xs) (hb : base ≤ w.heap.size) : Below base w w' :=
  h.1.below hb (fun k hk => (ho.lt k hk).1)
theorem Sta.cell {w w' : World} {v v' : Value} (h : Sta w w' v v') {p : Addr} (hp : p.block < w.heap.size) (hn : v.ownBlock ≠ some p.block) : w'.cell? p = w.cell? p :=
  World.cell?_of_block (w := w) (h.1.block p.block hp hn)
/-- A block that is no row's of the call stays none. -/
theorem Sta.ne {w w' : World} {v v' : Value} (h : Sta w w' v v') {b : Nat} (hb : b < w.heap.size) (hn : v.ownBlock ≠ some b) : v'.ownBlock ≠ some b := by
  rcases h.2 with h2 | ⟨k, h2, h3⟩
  · rw [h2]; exact hn
  · rw [h2]; intro e; injection e with e; omega
def AddPost (X : List Bool) (base : Nat) (v0 : Value) (w : World) (e : Ending) (w' : World) : Prop :=
  ∃ v, e = .returned v ∧ w'.ownsRow base 4 1 v X.length (bvl X) ∧ Sta w w' v0 v
theorem bo_take (n k t : Nat) (h : t < k) : (List.range (t + 1)).map (fun j => n.testBit (k - 1 - j)) = (List.range t).map (fun j => n.testBit (k - 1 - j)) ++ [n.testBit (k - 1 - t)] := by
  rw [List.range_succ, List.map_append]; rfl
set_option maxRecDepth 100000 in
set_option maxHeartbeats 3200000 in
theorem qrAdd (X : List Bool) (n k base : Nat) (hn : n < 65536) (hk : k ≤ 16) (hX : X.length < 10000000) (v : Value) (w : World) (hb : base ≤ w.heap.size) (h : w.ownsRow base 4 1 v X.length (bvl X)) :
    Calls Try.prog 22 #[v, .int .i64 n, .int .i64 k] w (AddPost (X ++ bo n k) base v w) := by
  have HO := Lib.hid h
  have HBB := Lib.hid hb
  have HLEN := Lib.hid (show (X ++ bo n k).length = X.length + k by rw [List.length_append, bo_len])
  clear h hb
  go_enter Try.func22, Try.ntmps22
  go_wp2_with fail
  go_loopw [0, 7] (fun x a wr => ∃ (t : Nat) (j : Int), t ≤ k ∧ j = (k : Int) - 1 - t ∧ a = .int .i64 j ∧ Hid (wr.ownsRow base 4 1 x (X.length + t) (bvl (X ++ (List.range t).map fun j => n.testBit (k - 1 - j)))) ∧ Hid (Sta w wr v x)) (fun _ a _ => (intOf a + 1).toNat)
  case atStart => exact ⟨0, (k : Int) - 1, by omega, by omega, rfl, Lib.hid (by simpa using HO.out), Lib.hid (Sta.refl _ _)⟩
  case round =>
    obtain ⟨t, j, ht, hj, rfl, HO2, HBE⟩ := hrel
    clear HO
    by_cases hlt : t < k
    · obtain ⟨b, hbq⟩ : ∃ b, b = k - 1 - t := ⟨_, rfl⟩
      obtain rfl : j = (b : Int) := by omega
      have hb16 : b < 16 := by omega
      have hj0 : (0 : Int) ≤ (b : Int) := by omega
      obtain ⟨y, hy⟩ : ∃ y, y = n / 2 ^ b := ⟨_, rfl⟩
      have hyl : y < 65536 := by rw [hy]; exact Nat.lt_of_le_of_lt (Nat.div_le_self _ _) hn
      have hyi : (n : Int) / 2 ^ b = (y : Int) := by rw [hy]; simp
      obtain ⟨z, hz⟩ : ∃ z, z = y % 2 := ⟨_, rfl⟩
      have hand := and_one y hyl
      rw [← hz] at hand
      have hbit : n.testBit b = decide (z = 1) := by rw [Nat.testBit_eq_decide_div_mod_eq, ← hy, ← hz]
      have hz2 : z = 0 ∨ z = 1 := by omega
      have HBIT := Lib.hid hbit
      have HTK := bo_take n k t hlt
      rw [← hbq, hbit] at HTK
      have HTK := Lib.hid HTK
      have HBQ := Lib.hid hbq
      have hbw : base ≤ wr.heap.size := by have := HBE.out.1.size; have := HBB.out; omega
      clear hy hz hbit hbq hj
      obtain ⟨L, hL⟩ : ∃ L, L = (List.range t).map fun j => n.testBit (k - 1 - j) := ⟨_, rfl⟩
      rw [← hL] at HO2 HTK
      clear hL
      obtain rfl | rfl := hz2
      all_goals
        go_wp2_with (at_builtin; refine wpList_pushAt _ _ 26 base 4 (.bool false) 1 _ (X.length + t) _ _ rfl rfl rfl rfl Try.underlying26 Try.infoBoolQ rfl rfl (by decide) HO2.out (by omega) hbw ?_)
        intro v5 w5 hown5 hg5 hb5 hl5
        have HO5 : Hid (w5.ownsRow base 4 1 v5 (X.length + (t + 1)) (bvl (X ++ (List.range (t + 1)).map fun j => n.testBit (k - 1 - j)))) := Lib.hid (by
          rw [HTK.out, ← List.append_assoc, bvl_snoc]; exact hown5)
        have HB5 : Hid (Sta w w5 v v5) := Lib.hid (HBE.out.grow hg5 (hl5.imp id (fun h => ⟨_, h, Nat.le_succ _⟩)))
        clear hown5 hg5 hb5 hl5
        go_wp2_with fail
        go_roundw
        case rel => exact ⟨t + 1, (b : Int) - 1, by omega, by have := HBQ.out; omega, rfl, HO5, HB5⟩
        case measure => simp [intOf]
    · obtain rfl : t = k := by omega
      obtain rfl : j = -1 := by omega
      go_wp2_with fail
      go_ret
      exact ⟨_, rfl, by rw [HLEN.out]; exact HO2.out, HBE.out⟩

def BoolsPost (l : List Bool) (w : World) (e : Ending) (w' : World) : Prop :=
  ∃ v, e = .returned v ∧ w'.ownsRow w.heap.size 4 1 v l.length (bvl l) ∧ Below w.heap.size w w'
theorem flat8_len (l : List Nat) : (l.flatMap (bo · 8)).length = 8 * l.length := by
  induction l with
  | nil => rfl
  | cons a r ih => rw [List.flatMap_cons, List.length_append, ih, bo_len, List.length_cons]; omega
set_option maxRecDepth 100000 in
set_option maxHeartbeats 3200000 in
theorem bitsOf (l : List Nat) (n c : Nat) (hn : n = l.length) (hn2 : n < 1000000) (hl : ∀ j, nth l j < 256) (A : Option Addr) (w : World) (h : Rd w A n (fun j => .int .u8 (nth l j : Nat))) :
    Calls Try.prog 9 #[.slice A n c] w (BoolsPost (l.flatMap (bo · 8)) w) := by
  have HN := Lib.hid hn
  have HL := Lib.hid hl
  have HR := Lib.hid h
  clear hn hl h
  go_enter Try.func9, Try.ntmps9
  go_wp2_with fail
  go_loopw [3, 8] (fun v i wr => ∃ q : Nat, q ≤ n ∧ i = .int .i64 q ∧ Hid (wr.ownsRow w.heap.size 4 1 v ((l.take q).flatMap (bo · 8)).length (bvl ((l.take q).flatMap (bo · 8)))) ∧ Hid (Below w.heap.size w wr)) (fun _ i _ => n - (intOf i).toNat)
  case atStart => exact ⟨0, Nat.zero_le _, rfl, Lib.hid (World.ownsRow_nil _ _ _ _), Lib.hid (Below.refl _ _)⟩
  case round =>
    obtain ⟨q, hq, rfl, HO, HBE⟩ := hrel
    obtain ⟨wi, hwi⟩ : ∃ wi, wi = wr := ⟨_, rfl⟩
    rw [← hwi] at HO HBE ⊢
    clear hwi
    by_cases hlt : q < n
    · have hq1 : (q : Int) < (n : Int) := by omega
      have hq0 : (0 : Int) ≤ (q : Int) := by omega
      obtain ⟨b, o, rfl, hb, hc⟩ := (HR.out.below HBE.out) (by omega)
      have cq := hc q hlt
      dsimp only at cq
      have hx := HL.out q
      have HTK := take_nth (l := l) (k := q) (by rw [← HN.out]; exact hlt)
      obtain ⟨x, hxe⟩ : ∃ x, x = nth l q := ⟨_, rfl⟩
      rw [← hxe] at cq hx HTK
      obtain ⟨F, hF⟩ : ∃ F, F = (l.take q).flatMap (bo · 8) := ⟨_, rfl⟩
      have hFl : F.length < 10000000 := by rw [hF, flat8_len, List.length_take]; omega
      rw [← hF] at HO
      have HAD := Lib.hid (qrAdd F x 8 w.heap.size (by omega) (by omega) hFl u3 wi HBE.out.size HO.out)
      have HFE := Lib.hid (show (l.take (q + 1)).flatMap (bo · 8) = F ++ bo x 8 by rw [HTK, List.flatMap_append, ← hF]; simp)
      have HOW := HO
      clear hc hxe hF HTK HO
      go_wp2_with fail
      refine HAD.out.mono ?_
      rintro e w2 ⟨v2, rfl, ho2, hs2⟩
      have hb2 := hs2.base HOW.out HBE.out.size
      have HO2 : Hid (w2.ownsRow w.heap.size 4 1 v2 ((l.take (q + 1)).flatMap (bo · 8)).length (bvl ((l.take (q + 1)).flatMap (bo · 8)))) := Lib.hid (by
        rw [HFE.out]; exact ho2)
      have HB2 : Hid (Below w.heap.size w w2) := Lib.hid (HBE.out.trans hb2)
      clear ho2 hb2 hs2
      go_wp2_with fail
      go_roundw
      case rel => exact ⟨q + 1, by omega, by go_num, HO2, HB2⟩
      case measure => simp [intOf]; omega
    · obtain rfl : q = n := by omega
      have hall : l.take q = l := by rw [HN.out]; exact List.take_length
      rw [hall] at HO
      go_wp2_with fail
      go_ret
      exact ⟨_, rfl, HO.out, HBE.out⟩

def rowW (S : List Bool) (m i k : Nat) : List Value := rowV (fun j => .int .u8 ((if j < i then wordOf S j 8 else if j = i then wordOf S i k else 0 : Nat) : Int)) m
theorem rowW_zero (S : List Bool) (m : Nat) : rowW S m 0 0 = rowV (fun _ => .int .u8 0) m := by
  unfold rowW; congr 1; funext j; simp [wordOf]
theorem rowW_next (S : List Bool) (m i : Nat) : rowW S m i 8 = rowW S m (i + 1) 0 := by
  unfold rowW; congr 1; funext j
  by_cases h1 : j < i
  · rw [if_pos h1, if_pos (by omega)]
  · rw [if_neg h1]
    by_cases h2 : j = i
    · subst h2; rw [if_pos rfl, if_pos (by omega)]
    · rw [if_neg h2, if_neg (by omega)]
      by_cases h3 : j = i + 1
      · rw [if_pos h3]; rfl
      · rw [if_neg h3]
theorem rowW_set (S : List Bool) (m i k : Nat) (x : Nat) : (rowW S m i k).set i (.int .u8 (x : Int)) = rowV (fun j => .int .u8 ((if j < i then wordOf S j 8 else if j = i then x else 0 : Nat) : Int)) m := by
  unfold rowW
  refine rowV_set (fun j hj => ?_)
  by_cases h : j = i
  · subst h; simp
  · rw [if_neg h, if_neg h, if_neg h]
def BytesPost (l : List Nat) (w : World) (e : Ending) (w' : World) : Prop :=
  ∃ b : Nat, e = .returned (.slice (some ⟨b, 0, none⟩) l.length l.length) ∧ Hid (Rd w' (some ⟨b, 0, none⟩) l.length (fun j => .int .u8 (nth l j : Nat))) ∧ Hid (Below w.heap.size w w')
set_option maxRecDepth 100000 in
set_option maxHeartbeats 6400000 in
theorem bytesOf (S : List Bool) (n c m : Nat) (hn : n = S.length) (hn2 : n < 1000000) (hm : m = n / 8) (A : Option Addr) (w : World) (h : Rd w A n (fun j => .bool (nthB S j))) :
    Calls Try.prog 10 #[.slice A n c] w (BytesPost (by8 S) w) := by
  have hbl : (by8 S).length = m := by rw [by8_len, hm, hn]
  have t1 : (n : Int).tdiv 8 = (m : Int) := by rw [Int.tdiv_eq_ediv_of_nonneg (by omega)]; omega
  have t2 : (n : Int) / 8 = (m : Int) := by omega
  have hmb : m < 1000000 := by omega
  have hmk := fun W => run_make1 (P := Try.prog) 30 5 (.int .u8 0) 1 Try.underlying30 Try.infoU8Q rfl (by decide) m (by omega) .i64 .i64 (m : Int) rfl W
  unfold BytesPost
  rw [hbl]
  have HN := Lib.hid hn
  have HM := Lib.hid hm
  have HR := Lib.hid h
  clear hn hm h hbl
  go_enter Try.func10, Try.ntmps10
  go_wp2_with fail
  have hA := Arr.new w 5 (List.replicate m (.int .u8 0))
  have hb : Below w.heap.size w (w.alloc (.cells (zeros m (.int .u8 0)) 5)) := (Below.refl _ _).alloc (Nat.le_refl _) _
  obtain ⟨W1, hW1⟩ : ∃ W1, W1 = w.alloc (.cells (zeros m (.int .u8 0)) 5) := ⟨_, rfl⟩
  obtain ⟨E, hE⟩ : ∃ E, E = w.heap.size := ⟨_, rfl⟩
  have hA2 : Arr W1 5 E (rowW S m 0 0) := by rw [rowW_zero, rowV_const, hW1, hE]; exact hA
  rw [← hW1, ← hE] at hb ⊢
  have HA := Lib.hid hA2
  have HB := Lib.hid hb
  have HE := Lib.hid hE
  clear hA hA2 hb hW1 hE hmk
  go_loopw [12] (fun i wr => ∃ q : Nat, q ≤ m ∧ i = .int .i64 q ∧ Hid (Arr wr 5 E (rowW S m q 0)) ∧ Hid (Below E w wr)) (fun i _ => m - (intOf i).toNat)
  case atStart => exact ⟨0, Nat.zero_le _, rfl, HA, HB⟩
  case round =>
    obtain ⟨q, hq, rfl, HA2, HB2⟩ := hrel
    clear HA HB
    obtain ⟨wi, hwi⟩ : ∃ wi, wi = wr := ⟨_, rfl⟩
    rw [← hwi] at HA2 HB2 ⊢
    clear hwi
    by_cases hlt : q < m
    · have hq1 : (q : Int) < (m : Int) := by omega
      have hq0 : (0 : Int) ≤ (q : Int) := by omega
      go_wp2_with fail
      go_loopw [5] (fun i wr => ∃ k : Nat, k ≤ 8 ∧ i = .int .i64 k ∧ Hid (Arr wr 5 E (rowW S m q k)) ∧ Hid (Below E w wr)) (fun i _ => 8 - (intOf i).toNat)
      case atStart => exact ⟨0, by omega, rfl, HA2, HB2⟩
      case round =>
        obtain ⟨k, hk, rfl, HA3, HB3⟩ := hrel
        clear HA2 HB2
        obtain ⟨wj, hwj⟩ : ∃ wj, wj = wr := ⟨_, rfl⟩
        rw [← hwj] at HA3 HB3 ⊢
        clear hwj
        by_cases hk8 : k < 8
        · have hk1 : (k : Int) < 8 := by omega
          have cc := HA3.out.cell? q
          unfold rowW at cc
          rw [rowV_get _ _ _ hlt, if_neg (by omega), if_pos rfl] at cc
          have hf := HA3.out.free q
          obtain ⟨x, hx⟩ : ∃ x, x = wordOf S q k := ⟨_, rfl⟩
          have hxb : x < 128 := by
            have h1 := wordOf_lt S q k
            have h2 : 2 ^ k ≤ 2 ^ 7 := Nat.pow_le_pow_right (by omega) (by omega)
            omega
          rw [← hx] at cc
          obtain ⟨x2, hx2⟩ : ∃ x2, x2 = x * 2 := ⟨_, rfl⟩
          have e1 : (x : Int) * 2 = (x2 : Int) := by omega
          have hx2b : x2 < 256 := by omega
          obtain ⟨x3, hx3⟩ : ∃ x3, x3 = x2 + 1 := ⟨_, rfl⟩
          have e2 : (x2 : Int) + 1 = (x3 : Int) := by omega
          have hx3b : x3 < 256 := by omega
          obtain ⟨q8, hq8⟩ : ∃ q8, q8 = 8 * q := ⟨_, rfl⟩
          have e3 : (8 : Int) * (q : Int) = (q8 : Int) := by omega
          obtain ⟨r, hr⟩ : ∃ r, r = q8 + k := ⟨_, rfl⟩
          have e4 : (q8 : Int) + (k : Int) = (r : Int) := by omega
          have hrn : r < n := by have := HM.out; omega
          have hr1 : (r : Int) < (n : Int) := by omega
          have hr0 : (0 : Int) ≤ (r : Int) := by omega
          have hM1 := Mod.set1 wj E q (.int .u8 (x2 : Nat))
          have HR1 : Rd (wj.setCell ⟨E, q, none⟩ (.int .u8 (x2 : Nat))) A n (fun j => .bool (nthB S j)) := HR.out.below (by rw [← HE.out]; exact HB3.out.setCell (p := ⟨E, q, none⟩) (Nat.le_refl _) _)
          obtain ⟨b, o, rfl, hb, hc⟩ := HR1 (by omega)
          have cr := hc r hrn
          dsimp only at cr
          have hA4 := HA3.out.set_ q (.int .u8 (x2 : Nat))
          have c2 := hA4.cell? q
          rw [rowW_set, rowV_get _ _ _ hlt, if_neg (Nat.lt_irrefl _), if_pos rfl] at c2
          have hf2 := hA4.free q
          have hA5 := hA4.set_ q (.int .u8 (x3 : Nat))
          have hstep : rowW S m q (k + 1) = rowV (fun j => .int .u8 ((if j < q then wordOf S j 8 else if j = q then 2 * wordOf S q k + (nthB S r).toNat else 0 : Nat) : Int)) m := by
            unfold rowW; congr 1; funext j
            by_cases h1 : j < q
            · rw [if_pos h1, if_pos h1]
            · rw [if_neg h1, if_neg h1]
              by_cases h2 : j = q
              · rw [if_pos h2, if_pos h2, hr, hq8]; rfl
              · rw [if_neg h2, if_neg h2]
          have HB4 : Hid (Below E w (wj.setCell ⟨E, q, none⟩ (.int .u8 (x2 : Nat)))) := Lib.hid (HB3.out.setCell (p := ⟨E, q, none⟩) (Nat.le_refl _) _)
          have HB5 : Hid (Below E w ((wj.setCell ⟨E, q, none⟩ (.int .u8 (x2 : Nat))).setCell ⟨E, q, none⟩ (.int .u8 (x3 : Nat)))) := Lib.hid (HB4.out.setCell (p := ⟨E, q, none⟩) (Nat.le_refl _) _)
          have HA4 : Hid (nthB S r = false → Arr (wj.setCell ⟨E, q, none⟩ (.int .u8 (x2 : Nat))) 5 E (rowW S m q (k + 1))) := Lib.hid (fun hbf => by
            rw [hstep, hbf, ← hx, show 2 * x + false.toNat = x2 by simp; omega, ← rowW_set S m q k x2]
            exact hA4)
          have HA5 : Hid (nthB S r = true → Arr ((wj.setCell ⟨E, q, none⟩ (.int .u8 (x2 : Nat))).setCell ⟨E, q, none⟩ (.int .u8 (x3 : Nat))) 5 E (rowW S m q (k + 1))) := Lib.hid (fun hbt => by
            rw [hstep, hbt, ← hx, show 2 * x + true.toNat = x3 by simp; omega, ← rowW_set S m q k x3]
            have e : ((rowW S m q k).set q (.int .u8 (x2 : Nat))).set q (.int .u8 (x3 : Nat)) = (rowW S m q k).set q (.int .u8 (x3 : Nat)) := List.set_set ..
            rw [← e]
            exact hA5)
          obtain ⟨t, ht⟩ : ∃ t, t = nthB S r := ⟨_, rfl⟩
          rw [← ht] at cr HA4 HA5
          clear hx hx2 hx3 hq8 hr hM1 hc hA4 hA5 hstep ht
          cases t with
          | false =>
            go_wp2_with fail
            go_roundw
            case rel => exact ⟨k + 1, by omega, by go_num, Lib.hid (HA4.out rfl), HB4⟩
            case measure => simp [intOf]; omega
          | true =>
            go_wp2_with fail
            go_roundw
            case rel => exact ⟨k + 1, by omega, by go_num, Lib.hid (HA5.out rfl), HB5⟩
            case measure => simp [intOf]; omega
        · obtain rfl : k = 8 := by omega
          go_wp2_with fail
          go_roundw
          case rel => exact ⟨q + 1, by omega, by go_num, Lib.hid (by rw [← rowW_next]; exact HA3.out), HB3⟩
          case measure => simp [intOf]; omega
    · obtain rfl : q = m := by omega
      have HF : Hid (Rd wi (some ⟨E, 0, none⟩) q (fun j => .int .u8 (nth (by8 S) j : Nat))) := Lib.hid (by
        have h1 := HA2.out.rd (fun j => .int .u8 (nth (by8 S) j : Nat)) (fun j hj => by
          unfold rowW at hj ⊢
          rw [rowV_len] at hj
          rw [rowV_get _ _ _ hj, if_pos hj, by8_at S (by rw [← HN.out, ← HM.out]; exact hj)])
        unfold rowW at h1
        rw [rowV_len] at h1; exact h1)
      go_wp2_with fail
      go_ret
      exact ⟨E, rfl, HF, by rw [← HE.out]; exact HB2⟩
end Go.Proofs.Ythkiajighmhdoaa
