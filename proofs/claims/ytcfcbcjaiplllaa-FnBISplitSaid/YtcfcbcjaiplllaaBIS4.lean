/-
  impl.SourceRead, walked. No condition beyond the bounds that the theorem states.
-/
import Derived.Test.YtcfcbcjaiplllaaBIS3
import Derived.Test.YtcfcbcjaiplllaaPAR
import Derived.Outline
namespace Go.Proofs.Ytcfcbcjaiplllaa
open Go.RowKit Go.Qz Go.Qz.BS Go.Qz.Par
set_option linter.unusedVariables false

theorem Try.infoInt : (Try.prog.info? 3).map (fun i => (i.zero, i.size, i.bytes)) = some (some (.int .i64 0), 1, 8) := by kernel_rfl
theorem Try.infoU8 : (Try.prog.info? 5).map (fun i => (i.zero, i.size, i.bytes)) = some (some (.int .u8 0), 1, 1) := by kernel_rfl
theorem Try.infoBoolS : (Try.prog.info? 4).map (fun i => (i.zero, i.size, i.bytes)) = some (some (.bool false), 1, 1) := by kernel_rfl

/-- Where the q-th number begins. -/
def pos (ks : List Nat) (q : Nat) : Nat := (ks.take q).sum
theorem pos_succ {ks : List Nat} {q : Nat} (h : q < ks.length) : pos ks (q + 1) = pos ks q + nth ks q := by
  unfold pos
  rw [take_nth h, List.sum_append]; simp
theorem pos_le (ks : List Nat) (q : Nat) : pos ks q ≤ ks.sum := by
  unfold pos
  have : ks.sum = (ks.take q).sum + (ks.drop q).sum := by rw [← List.sum_append, List.take_append_drop]
  omega
/-- The numbers. -/
def vals (B ks : List Nat) (q : Nat) : List Value := (List.range q).map fun j => .int .i64 (num B (pos ks j) (nth ks j) : Nat)
theorem vals_succ (B ks : List Nat) (q : Nat) : vals B ks (q + 1) = vals B ks q ++ [.int .i64 (num B (pos ks q) (nth ks q) : Nat)] := by
  unfold vals; rw [List.range_succ, List.map_append]; rfl
def trues (q : Nat) : List Value := (List.range q).map fun _ => .bool true
theorem trues_succ (q : Nat) : trues (q + 1) = trues q ++ [.bool true] := by
  unfold trues; rw [List.range_succ, List.map_append]; rfl

set_option maxRecDepth 100000 in
set_option maxHeartbeats 1600000 in
theorem new_source (A : Option Addr) (n c : Nat) (w : World) :
    Calls Try.prog 45 #[.slice A n c] w fun e w' => e = .returned (.pointer (some ⟨w.heap.size, 0, none⟩)) ∧ SrcAt w' w.heap.size A n c 0 0 ∧ Below w.heap.size w w' ∧ w.heap.size < w'.heap.size := by
  go_enter Try.func45, Try.ntmps45
  go_wp2_with fail
  go_ret
  exact ⟨rfl, Arr.new _ _ _, (Below.refl _ _).alloc (Nat.le_refl _) _, by simp⟩

theorem blk3 {w : World} {p q1 q2 q3 : Nat} {e1 e2 e3 : TypeId} {a b c : Value} {xs ys zs : List Value} (h1 : w.ownsRow (p + 1) e1 1 a q1 xs) (h2 : w.ownsRow (p + 1) e2 1 b q2 ys) (h3 : w.ownsRow (p + 1) e3 1 c q3 zs) :
    ∀ k, k ∈ a.ownBlock.toList ++ (b.ownBlock.toList ++ c.ownBlock.toList) → p < k := fun k hk => by
  simp only [List.mem_append, Option.mem_toList] at hk
  rcases hk with h | h | h
  · have := h1.lt k h; omega
  · have := h2.lt k h; omega
  · have := h3.lt k h; omega
def SRPost (B ks : List Nat) (w : World) (e : Ending) (w' : World) : Prop :=
  ∃ v1 v2 v3, e = .returned (.tuple #[v1, v2, v3]) ∧ w'.ownsRow w.heap.size 3 1 v1 ks.length (vals B ks ks.length) ∧ w'.ownsRow w.heap.size 4 1 v2 ks.length (trues ks.length) ∧ Below w.heap.size w w'

set_option maxRecDepth 100000 in
set_option maxHeartbeats 6400000 in
theorem sourceRead (B ks : List Nat) (A1 A2 : Option Addr) (n c1 m c2 : Nat) (hn : n = B.length) (hm : m = ks.length) (hnl : n < 1000000) (hml : m < 1000000) (hk : ∀ j, j < m → 1 ≤ nth ks j ∧ nth ks j ≤ 32) (hs : ks.sum ≤ 8 * n) (hB : ∀ j, nth B j < 256) (w : World)
    (h1 : Rd w A1 n (fun j => .int .u8 (nth B j : Nat))) (h2 : Rd w A2 m (fun j => .int .i64 (nth ks j : Nat))) :
    Calls Try.prog 18 #[.slice A1 n c1, .slice A2 m c2] w (SRPost B ks w) := by
  have HN := Lib.hid hn
  have HM := Lib.hid hm
  have HK := Lib.hid hk
  have HSS := Lib.hid hs
  have HB := Lib.hid hB
  have hown : w.ownsRow w.heap.size 5 1 (.slice none 0 0) 0 [] := World.ownsRow_nil _ _ _ _
  have H2 := Lib.hid h2
  clear hn hm hk hs hB h2
  go_enter Try.func18, Try.ntmps18
  go_wp2_with (at_builtin; refine wpList_copyTo _ _ 41 w.heap.size 5 (.int .u8 0) 1 _ 0 [] _ _ _ _ rfl rfl rfl rfl Try.underlying41 Try.infoU8 rfl (fun j _ => rfl) (by decide) hown h1 (by omega) (Nat.le_refl _) ?_)
  intro v1 w1 hown1 hg1 hb1
  obtain ⟨A', c', rfl, hc', _, hr⟩ := Rd.of_own hown1
  have hr : Rd w1 A' n (fun j => .int .u8 (nth B j : Nat)) := hr.congr fun j hj => by
    rw [List.getD_eq_getElem?_getD, List.getElem?_map, List.getElem?_range hj]; rfl
  have HR := Lib.hid hr
  have HB1 := Lib.hid hb1
  have HSZ1 := Lib.hid hb1.size
  clear hown hown1 hg1 hr hb1 h1
  go_wp2_with fail
  refine (new_source A' n c' w1).mono ?_
  rintro e w2 ⟨rfl, hsrc, hb2, hlt⟩
  have HR2 := Lib.hid (HR.out.below hb2)
  have HB2 := Lib.hid (HB1.out.trans (hb2.mono HSZ1.out))
  obtain ⟨p, hp⟩ : ∃ p, p = w1.heap.size := ⟨_, rfl⟩
  have HAP : Hid (∀ a, A' = some a → 0 < n → a.block < p) := Lib.hid (by
    intro a ha h0
    obtain ⟨b, off, e, hb, _⟩ := HR.out h0
    rw [hp]; rw [e] at ha; injection ha with ha; rw [← ha]; exact hb)
  rw [← hp] at hsrc hlt ⊢
  have HSRC := Lib.hid hsrc
  have HWP := Lib.hid (show w.heap.size ≤ p by rw [hp]; exact HSZ1.out)
  clear hsrc hp hb2 HR HB1 HSZ1
  go_wp2_with fail
  go_loopw [8, 10, 9, 20] (fun a b c i wr => ∃ q : Nat, q ≤ m ∧ i = .int .i64 q ∧ Hid (SrcAt wr p A' n c' (pos ks q / 8) (pos ks q % 8)) ∧ Hid (Rd wr A' n (fun j => .int .u8 (nth B j : Nat))) ∧ Hid (Below w.heap.size w wr) ∧ Hid (p < wr.heap.size) ∧ Hid (∃ xs, wr.ownsRow (p + 1) 3 1 a q (vals B ks q) ∧ wr.ownsRow (p + 1) 4 1 b q (trues q) ∧ wr.ownsRow (p + 1) 3 1 c q xs ∧ (∀ k, a.ownBlock = some k → c.ownBlock ≠ some k) ∧ (∀ k, a.ownBlock = some k → b.ownBlock ≠ some k) ∧ (∀ k, b.ownBlock = some k → c.ownBlock ≠ some k))) (fun _ _ _ i _ => m - (intOf i).toNat)
  case atStart => exact ⟨0, Nat.zero_le _, rfl, Lib.hid (by rw [show pos ks 0 = 0 by simp [pos]]; exact HSRC.out), HR2, HB2, Lib.hid hlt, Lib.hid ⟨[], World.ownsRow_nil _ _ _ _, World.ownsRow_nil _ _ _ _, World.ownsRow_nil _ _ _ _, by simp [Value.ownBlock], by simp [Value.ownBlock], by simp [Value.ownBlock]⟩⟩
  case round =>
    obtain ⟨q, hq, rfl, HS, HR, HBE, HP, HO⟩ := hrel
    clear HSRC HR2 HB2
    by_cases hlt : q < m
    · have hq1 : (q : Int) < (m : Int) := by omega
      have hq0 : (0 : Int) ≤ (q : Int) := by omega
      obtain ⟨b2, o2, e2, hb2, hc2⟩ := (H2.out.below (HBE.out.mono (Nat.le_refl _))) (by omega)
      subst e2
      have hcell := hc2 q hlt
      dsimp only at hcell
      clear hc2
      have hkq := HK.out q hlt
      obtain ⟨k, hk⟩ : ∃ k, k = nth ks q := ⟨_, rfl⟩
      rw [← hk] at hcell hkq
      obtain ⟨hk1, hk2⟩ := hkq
      have hpl := pos_le ks (q + 1)
      rw [pos_succ (by have := HM.out; omega), ← hk] at hpl
      obtain ⟨P, hP⟩ : ∃ P, P = pos ks q := ⟨_, rfl⟩
      rw [← hP] at hpl HS
      have HPL := Lib.hid hpl
      have HRB := Lib.hid (readBits B p A' c' P k hk1 hk2 (by have := HPL.out; have := HSS.out; have := HN.out; omega) HB.out (by have := HN.out; omega) wr (by rw [← HN.out]; exact HS.out) (by rw [← HN.out]; exact HR.out) (fun a ha => by have := HAP.out a ha (by have := HSS.out; omega); omega))
      have HPE := Lib.hid hP
      have HKE := Lib.hid hk
      clear hpl hP hk
      go_wp2_with fail
      refine HRB.out.mono ?_
      rintro e w3 ⟨rfl, hsrc3, hm3⟩
      rw [← HN.out] at hsrc3
      have HS3 := Lib.hid hsrc3
      have HM3 := Lib.hid hm3
      clear hsrc3 hm3 HRB
      go_wp2_with fail
      refine wp_region_any (by kernel_rfl) ?_
      change wpAny _ _ _ _ _ _ _ (World.drew _)
      refine wpAny_take (i := 0) (v := ?_) rfl (by kernel_rfl) (by kernel_rfl) (by kernel_rfl) (fun _ _ _ h => h) (Or.inl ⟨by rfl, ?_⟩) ?_
      rotate_left
      · intro w; go_simp; try with_reducible rfl
      refine wpAny_take (i := 1) (v := ?_) rfl (by kernel_rfl) (by kernel_rfl) (by kernel_rfl) (fun _ _ _ h => h) (Or.inl ⟨by rfl, ?_⟩) ?_
      rotate_left
      · intro w; go_simp; try with_reducible rfl
      refine wpAny_take (i := 4) (v := ?_) rfl (by kernel_rfl) (by kernel_rfl) (by kernel_rfl) (fun _ _ _ h => h) (Or.inl ⟨by rfl, ?_⟩) ?_
      rotate_left
      · intro w; go_simp; try with_reducible rfl
      refine wpAny_take (i := 5) (v := ?_) rfl (by kernel_rfl) (by kernel_rfl) (by kernel_rfl) (fun _ _ _ h => h) (Or.inl ⟨by rfl, ?_⟩) ?_
      rotate_left
      · intro w; go_simp; try with_reducible rfl
      refine wpAny_take (i := 6) (v := ?_) rfl (by kernel_rfl) (by kernel_rfl) (by kernel_rfl) (fun _ _ _ h => h) (Or.inl ⟨by rfl, ?_⟩) ?_
      rotate_left
      · intro w; go_simp; try with_reducible rfl
      refine wpAny_take (i := 9) (v := ?_) rfl (by kernel_rfl) (by kernel_rfl) (by kernel_rfl) (fun _ _ _ h => h) (Or.inl ⟨by rfl, ?_⟩) ?_
      rotate_left
      · intro w; go_simp; try with_reducible rfl
      refine wpAny_take (i := 10) (v := ?_) rfl (by kernel_rfl) (by kernel_rfl) (by kernel_rfl) (fun _ _ _ h => h) (Or.inl ⟨by rfl, ?_⟩) ?_
      rotate_left
      · intro w; go_simp; try with_reducible rfl
      obtain ⟨xs, ho1, ho2, ho3, hx13, hx12, hx23⟩ := HO.out
      have hm4 := HM3.out.drew
      have hpnot : ∀ {v : Value} {e : TypeId} {k : Nat} {ys : List Value}, wr.ownsRow (p + 1) e 1 v k ys → w3.drew.ownsRow (p + 1) e 1 v k ys := fun {v e k ys} h => own_local h fun j hj => hm4.block j (own_lt h hj) (fun e => by have := h.lt j (by simpa using hj); omega)
      have HAVL := fun W (hW : SrcAt W p A' n c' ((P + k) / 8) ((P + k) % 8)) => available p A' n c' ((P + k) / 8) ((P + k) % 8) (8 * n - (P + k)) (by have := HPL.out; have := HSS.out; omega) hnl W hW
      refine par_start [2, 3] [7, 8] [11, 12, 13] (fun i j k => (j ≤ 1 || i == 2) && (k == 0 || j == 2)) rfl (by kernel_rfl) 3 (by rfl) [30, 31, 32, 33] [34, 36, 37, 38] [39, 40, 41, 42, 43]
        (App (p + 1) 3 30 31 32 33 _ (.int .i64 (num B P k : Nat)) q (vals B ks q))
        (App (p + 1) 4 34 36 37 38 _ (.bool true) q (trues q))
        (AppC (p + 1) 3 39 40 41 42 43 _ (.pointer (some ⟨p, 0, none⟩)) (.int .i64 (8 * n - (P + k) : Nat)) q xs) _ _ _
        (App.local_ _ (by simp) (by simp) (by simp) (by simp)) (App.local_ _ (by simp) (by simp) (by simp) (by simp)) (AppC.local_ _ (by simp) (by simp) (by simp) (by simp) (by simp)) (by decide) (by decide) (by decide) ?hin ?hs1 ?hs2 ?hs3 ⟨by go_simp, by go_simp, hpnot ho1, rfl⟩ ⟨by go_simp, by go_simp, hpnot ho2, rfl⟩ ⟨by go_simp, by go_simp, hpnot ho3, rfl⟩ ?d1 ?d2 ?hlt ?hfin
      case hin => intro t ht; go_simp; simp at ht; omega
      case hs1 =>
        intro i hi
        obtain rfl | rfl : i = 0 ∨ i = 1 := by simp at hi; omega
        · exact App.build (by simp) (by simp) (by decide) 2 _ 42 rfl rfl rfl rfl (fun W => by go_simp)
        · exact App.push (by simp) 3 _ 42 rfl rfl rfl rfl (.int .i64 0) 8 Try.underlying42 Try.infoInt rfl rfl (by decide) (by omega) (fun W hW => by have := hW.size; have := HP.out; have := hm4.size; omega)
      case hs2 =>
        intro i hi
        obtain rfl | rfl : i = 0 ∨ i = 1 := by simp at hi; omega
        · exact App.build (by simp) (by simp) (by decide) 7 _ 22 rfl rfl rfl rfl (fun W => by go_simp)
        · exact App.push (by simp) 8 _ 22 rfl rfl rfl rfl (.bool false) 1 Try.underlying22 Try.infoBoolS rfl rfl (by decide) (by omega) (fun W hW => by have := hW.size; have := HP.out; have := hm4.size; omega)
      case hs3 =>
        intro i hi
        obtain rfl | rfl | rfl : i = 0 ∨ i = 1 ∨ i = 2 := by simp at hi; omega
        · refine AppC.call (by simp) (by decide) 11 _ 47 78 rfl rfl rfl rfl _ _ Try.func47 (by kernel_rfl) rfl (fun W hW => HAVL W ((show Arr w3.drew 100 p _ from HS3.out).mod hW (fun hh => ?_)))
          simp only [List.mem_append, Option.mem_toList] at hh
          rcases hh with h | h | h
          · have := ho1.lt p h; omega
          · have := ho2.lt p h; omega
          · have := ho3.lt p h; omega
        · exact App.build (ta := 43) (by simp) (by simp) (by decide) 12 _ 42 rfl rfl rfl rfl (fun W => by go_simp)
        · exact App.push (tu := 41) (by simp) 13 _ 42 rfl rfl rfl rfl (.int .i64 0) 8 Try.underlying42 Try.infoInt rfl rfl (by decide) (by omega) (fun W hW => by have := hW.size; have := HP.out; have := hm4.size; omega)
      case d1 =>
        intro k hk
        simp only [Option.mem_toList] at hk ⊢
        exact ⟨hx12 k hk, hx13 k hk⟩
      case d2 =>
        intro k hk
        simp only [Option.mem_toList] at hk ⊢
        exact hx23 k hk
      case hlt =>
        intro k hk
        simp only [List.mem_append] at hk
        rcases hk with h | h | h
        · exact own_lt (hpnot ho1) h
        · exact own_lt (hpnot ho2) h
        · exact own_lt (hpnot ho3) h
      case hfin =>
        rintro c1 c2 c3 a w4 hfr hmod ⟨v1, s33, own1, rfl⟩ ⟨v2, s38, own2, rfl⟩ ⟨v3, s43, own3, rfl⟩ e1 e2 hlt4
        have g33 : a.tmps.getD 33 undef = v1 := by rw [Array.getD_eq_getD_getElem?, s33]; rfl
        have g38 : a.tmps.getD 38 undef = v2 := by rw [Array.getD_eq_getD_getElem?, s38]; rfl
        have g43 : a.tmps.getD 43 undef = v3 := by rw [Array.getD_eq_getD_getElem?, s43]; rfl
        simp only [List.cons_append, List.nil_append, List.foldl_cons, List.foldl_nil, g33, g38, g43] at hfr
        generalize a.tmps.getD 30 undef = x30 at hfr
        generalize a.tmps.getD 31 undef = x31 at hfr
        generalize a.tmps.getD 32 undef = x32 at hfr
        generalize a.tmps.getD 34 undef = x34 at hfr
        generalize a.tmps.getD 36 undef = x36 at hfr
        generalize a.tmps.getD 37 undef = x37 at hfr
        generalize a.tmps.getD 39 undef = x39 at hfr
        generalize a.tmps.getD 40 undef = x40 at hfr
        generalize a.tmps.getD 41 undef = x41 at hfr
        generalize a.tmps.getD 42 undef = x42 at hfr
        clear g33 g38 g43 s33 s38 s43
        subst hfr
        refine wpAny_take (i := 14) (v := ?_) rfl (by kernel_rfl) (by kernel_rfl) (by kernel_rfl) (fun _ _ _ h => h) (Or.inl ⟨by rfl, ?_⟩) ?_
        rotate_left
        · intro w; go_simp; try with_reducible rfl
        refine wpAny_take (i := 15) (v := ?_) rfl (by kernel_rfl) (by kernel_rfl) (by kernel_rfl) (fun _ _ _ h => h) (Or.inl ⟨by rfl, ?_⟩) ?_
        rotate_left
        · intro w; go_simp; try with_reducible rfl
        refine wpAny_take (i := 16) (v := ?_) rfl (by kernel_rfl) (by kernel_rfl) (by kernel_rfl) (fun _ _ _ h => h) (Or.inl ⟨by rfl, ?_⟩) ?_
        rotate_left
        · intro w; go_simp; try with_reducible rfl
        refine wpAny_done (by kernel_rfl) ?_ _
        have hbl := blk3 ho1 ho2 ho3
        have hap : ∀ a, A' = some a → 0 < n → ¬ a.block = p := fun a h0 h1 => by have := HAP.out a h0 h1; omega
        have HS5 : Hid (SrcAt w4 p A' n c' (pos ks (q + 1) / 8) (pos ks (q + 1) % 8)) := Lib.hid (by
          rw [pos_succ (by have := HM.out; omega), ← HPE.out, ← HKE.out]
          exact (show Arr w3.drew 100 p _ from HS3.out).mod hmod (fun hh => by have := hbl p hh; omega))
        have HR5 : Hid (Rd w4 A' n (fun j => .int .u8 (nth B j : Nat))) := Lib.hid (Mod.rd (Mod.rd HR.out hm4 hap) hmod (fun a h0 h1 hh => by have := hbl _ hh; have := HAP.out a h0 h1; omega))
        have HB5 : Hid (Below w.heap.size w w4) := Lib.hid ((HBE.out.trans (hm4.below HBE.out.size (fun k hk => by rw [hk]; exact HWP.out))).trans (hmod.below (by have := hm4.size; have := HBE.out.size; omega) (fun k hk => by have := hbl k hk; have := HWP.out; omega)))
        have HP5 : Hid (p < w4.heap.size) := Lib.hid (by have := hm4.size; have := hmod.size; have := HP.out; omega)
        rw [HPE.out, HKE.out, ← vals_succ] at own1
        rw [← trues_succ] at own2
        have HO5 := Lib.hid (show ∃ xs, w4.ownsRow (p + 1) 3 1 v1 (q + 1) (vals B ks (q + 1)) ∧ w4.ownsRow (p + 1) 4 1 v2 (q + 1) (trues (q + 1)) ∧ w4.ownsRow (p + 1) 3 1 v3 (q + 1) xs ∧ (∀ k, v1.ownBlock = some k → v3.ownBlock ≠ some k) ∧ (∀ k, v1.ownBlock = some k → v2.ownBlock ≠ some k) ∧ (∀ k, v2.ownBlock = some k → v3.ownBlock ≠ some k) from ⟨_, own1, own2, own3, fun k h0 h1 => (e1 k (by simpa using h0)).2 (by simpa using h1), fun k h0 h1 => (e1 k (by simpa using h0)).1 (by simpa using h1), fun k h0 h1 => e2 k (by simpa using h0) (by simpa using h1)⟩)
        clear own1 own2 own3 e1 e2 hlt4 hmod hbl hap HAVL hpnot ho1 ho2 ho3 hx13 hx12 hx23 hm4 HS HR HBE HP HO HS3 HM3
        go_wp2_with fail
        go_roundw
        case rel => exact ⟨q + 1, by omega, by go_num, HS5, HR5, HB5, HP5, HO5⟩
        case measure => simp [intOf]; omega
    · have hqm : q = m := by omega
      subst hqm
      have hq1 : ((q : Int) < (q : Int)) = False := by simp
      go_wp2_with fail
      obtain ⟨xs, ho1, ho2, _⟩ := HO.out
      rw [HM.out] at ho1 ho2
      refine bodyPost_ret (v := .tuple #[_, _, _]) (by simp [results, Try.results18, go_sem]; exact ⟨rfl, rfl, rfl⟩) rfl ⟨_, _, _, rfl, ?_, ?_, HBE.out⟩
      · exact ⟨ho1.1, ho1.2.imp id (fun ⟨g, cap, cur, h1, h2, h3⟩ => ⟨g, cap, cur, h1, by have := HWP.out; omega, h3⟩)⟩
      · exact ⟨ho2.1, ho2.2.imp id (fun ⟨g, cap, cur, h1, h2, h3⟩ => ⟨g, cap, cur, h1, by have := HWP.out; omega, h3⟩)⟩
end Go.Proofs.Ytcfcbcjaiplllaa
