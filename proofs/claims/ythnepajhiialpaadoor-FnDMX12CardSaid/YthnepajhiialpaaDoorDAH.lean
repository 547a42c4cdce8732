/-
  FnDMAscii and FnDMX12, walked: for every input each returns true. No condition beyond what the statements' own domains give.
-/
import Derived.Test.YthnepajhiialpaaDoorDAG
import Derived.Test.YthnepajhiialpaaDoorDSY
import Derived.Test.YthnepajhiialpaaDoorDPZ
import Derived.Deep.RegionLaw
namespace Go.Proofs.YthnepajhiialpaaDoor
open Go.RowKit Go.Qz Go.Qz.BS Go.Qz.DW
set_option linter.unusedVariables false

theorem nth_ok {L : List Nat} {P : Nat → Prop} (h : ∀ j, j < L.length → P (nth L j)) : ∀ x ∈ L, P x := by
  intro x hx
  obtain ⟨j, hj, rfl⟩ := List.getElem_of_mem hx
  have := h j hj
  rwa [nth_eq hj] at this
theorem rest_words (m : Nat) (hm : m = 0 ∨ m = 3) (L X Y : List Nat) (hX : X = words m L ++ 129 :: Y) (h : ∀ x ∈ L, x < 128 ∧ (m = 3 → xok x = true)) : Rest X 1 0 L := by
  subst hX
  refine .inr (.inl ⟨rfl, ?_⟩)
  unfold words
  by_cases h0 : m = 0 ∨ L.length < 3
  · rw [if_pos h0]
    left
    have := asc_says _ L (Nat.le_refl _) (fun x hx => (h x hx).1) [] Y
    simpa using this
  · rw [if_neg h0]
    right
    have hm3 : m = 3 := by omega
    obtain ⟨k, hk⟩ : ∃ k, k = 3 * (L.length / 3) := ⟨_, rfl⟩
    obtain ⟨V, hV⟩ : ∃ V, V = (L.take k).map xv := ⟨_, rfl⟩
    have hkl : k ≤ L.length := by omega
    have e : wx L ++ 129 :: Y = [238] ++ (tris V ++ 254 :: (asc (L.drop k) ++ 129 :: Y)) := by
      unfold wx; rw [← hk, ← hV]; simp
    rw [e]
    refine ⟨rfl, by simp, ?_⟩
    have h1 := x12_says (L.drop k) Y (fun x hx => (h x (List.mem_of_mem_drop hx)).1) (L.length / 3) V (by rw [hV, List.length_map, List.length_take]; omega) (fun x hx => by
      rw [hV] at hx
      obtain ⟨y, hy, rfl⟩ := List.mem_map.1 hx
      obtain ⟨h2, h3⟩ := h y (List.mem_of_mem_take hy)
      exact (xv_ok y h2 (h3 hm3)).1) [238]
    have h2 : V.map xc = L.take k := by
      rw [hV, List.map_map]
      have : ∀ l : List Nat, (∀ x ∈ l, x < 128 ∧ xok x = true) → l.map (xc ∘ xv) = l := by
        intro l hl
        induction l with
        | nil => rfl
        | cons a r ih =>
          rw [List.map_cons, ih (fun x hx => hl x (List.mem_cons_of_mem _ hx))]
          obtain ⟨h4, h5⟩ := hl a (by simp)
          rw [show (xc ∘ xv) a = a from (xv_ok a h4 h5).2]
      exact this _ (fun x hx => by obtain ⟨h4, h5⟩ := h x (List.mem_of_mem_take hx); exact ⟨h4, h5 hm3⟩)
    rw [h2, List.take_append_drop] at h1
    exact h1
theorem asc_lt : ∀ (n : Nat) (l : List Nat), l.length ≤ n → (∀ x ∈ l, x < 128) → ∀ x ∈ asc l, x < 256
  | _, [], _, _ => by simp [asc]
  | _, [c], _, h => fun x hx => by
    have := h c (by simp)
    simp [asc] at hx; omega
  | n + 1, c :: d :: r, hn, h => fun x hx => by
    simp only [List.length_cons] at hn
    by_cases hd : (dig c && dig d) = true
    · rw [asc_two hd] at hx
      simp only [dig, Bool.and_eq_true, decide_eq_true_eq] at hd
      rcases List.mem_cons.1 hx with h1 | h1
      · omega
      · exact asc_lt n r (by omega) (fun y hy => h y (by simp [hy])) x h1
    · rw [asc, if_neg hd] at hx
      rcases List.mem_cons.1 hx with h1 | h1
      · have := h c (by simp); omega
      · exact asc_lt n (d :: r) (by simp; omega) (fun y hy => h y (List.mem_cons_of_mem _ hy)) x h1
theorem tris_lt : ∀ (n : Nat) (l : List Nat), l.length ≤ n → (∀ x ∈ l, x < 40) → ∀ x ∈ tris l, x < 256
  | _, [], _, _ => by simp [tris]
  | _, [_], _, _ => by simp [tris]
  | _, [_, _], _, _ => by simp [tris]
  | n + 1, a :: b :: c :: r, hn, h => fun x hx => by
    simp only [List.length_cons] at hn
    have ha := h a (by simp)
    have hb := h b (by simp)
    have hc := h c (by simp)
    simp only [tris, tri, List.mem_cons] at hx
    rcases hx with h1 | h1 | h1
    · omega
    · omega
    · exact tris_lt n r (by omega) (fun y hy => h y (by simp [hy])) x h1
  | 0, _ :: _ :: _ :: _, h, _ => by simp at h
theorem words_lt (m : Nat) (L : List Nat) (h : ∀ x ∈ L, x < 128) (h3 : m = 3 → ∀ x ∈ L, xok x = true) (hm : m = 0 ∨ m = 3) : ∀ x ∈ words m L, x < 256 := by
  intro x hx
  unfold words at hx
  split at hx
  · exact asc_lt _ L (Nat.le_refl _) h x hx
  · rename_i h0
    unfold wx at hx
    have hm3 : m = 3 := by omega
    simp only [List.mem_append, List.mem_singleton] at hx
    rcases hx with ((h1 | h1) | h1) | h1
    · omega
    · refine tris_lt _ _ (Nat.le_refl _) (fun y hy => ?_) x h1
      obtain ⟨z, hz, rfl⟩ := List.mem_map.1 hy
      exact (xv_ok z (h z (List.mem_of_mem_take hz)) (h3 hm3 z (List.mem_of_mem_take hz))).1
    · omega
    · exact asc_lt _ _ (Nat.le_refl _) (fun y hy => h y (List.mem_of_mem_drop hy)) x h1
set_option maxRecDepth 100000 in
set_option maxHeartbeats 6400000 in
theorem dmParse (L B : List Nat) (hL : L.length < 10000) (hL8 : ∀ x ∈ L, x < 256) (A : Option Addr) (n c : Nat) (hn : n = B.length) (hn0 : 0 < n) (hnl : n < 1000000) (hB : ∀ j, nth B j < 256) (hT : Rest B 1 0 L) (w : World) (h : Rd w A n (fun j => .int .u8 (nth B j : Nat))) :
    Calls Tryd.prog 8 #[.slice A n c] w (SaidPost (bs L) w) := by
  have hb0 : Below w.heap.size w (w.alloc (.cells zD.toArray 36)) := (Below.refl _ _).alloc (Nat.le_refl _) _
  have hZ := Arr.new w 36 zD
  obtain ⟨W1, hW1⟩ : ∃ W1, W1 = w.alloc (.cells zD.toArray 36) := ⟨_, rfl⟩
  rw [← hW1] at hb0 hZ
  unfold zD at hW1
  obtain ⟨E, hE⟩ : ∃ E, E = w.heap.size := ⟨_, rfl⟩
  rw [← hE] at hZ
  have HR := Lib.hid (h.below hb0)
  have HB0 := Lib.hid hb0
  have HZ := Lib.hid hZ
  have HE := Lib.hid hE
  have HDEC := Lib.hid (fun A c W hR hA => decodeW L B hL hL8 A n c hn hnl hB hT W hR hA)
  have HN0 := Lib.hid hn0
  obtain ⟨tx, htx⟩ : ∃ tx, tx = bs L := ⟨_, rfl⟩
  unfold DecPost at HDEC
  rw [← htx] at HDEC ⊢
  clear h hb0 hZ hL hL8 hn hB hT htx
  go_enter Tryd.func8, Tryd.ntmps8
  have HZ0 : Hid (W1 = w.alloc (.cells #[.string ⟨#[]⟩, .slice none 0 0, .slice none 0 0, .string ⟨#[]⟩, .int .i64 0, .int .i64 0, .int .i64 0, .int .i64 0] 36)) := Lib.hid hW1
  clear hW1
  go_upto_region 1 with (fail)
  rw [← HZ0.out, ← hE]
  clear hE HZ0
  go_wp2_with (at_builtin; refine wpList_copyTo _ _ 27 W1.heap.size 5 (.int .u8 0) 1 _ 0 [] _ _ _ _ rfl rfl rfl rfl Tryd.underlying27 Tryd.infoU8DC rfl (fun j _ => rfl) (by decide) (World.ownsRow_nil _ _ _ _) HR.out (by omega) (Nat.le_refl _) ?_)
  intro v2 w2 hown2 hg2 hb2
  obtain ⟨A2, c2, rfl, _, _, hr2⟩ := Rd.of_own hown2
  have HR2 : Hid (Rd w2 A2 n (fun j => .int .u8 (nth B j : Nat))) := Lib.hid (hr2.congr (fun j hj => by
    rw [List.getD_eq_getElem?_getD]
    simp [hj]))
  have HZ2 := Lib.hid (HZ.out.below hb2 HZ.out.lt)
  have HB2 : Hid (Below w.heap.size w w2) := Lib.hid (HB0.out.trans (hb2.mono HB0.out.size))
  have HD2 := Lib.hid (HDEC.out A2 c2 w2 HR2.out (fun a ha => by
    obtain ⟨b, o, e, hb, _⟩ := HR2.out HN0.out
    rw [ha] at e; injection e with e; rw [e]; exact hb))
  clear hown2 hg2 hb2 hr2 HDEC HR HZ HB0 HR2
  go_wp2_with fail
  refine HD2.out.mono ?_
  rintro e w3 ⟨p, nb, rfl, HDR, HR3, HB3⟩
  have HZ3 := Lib.hid (HZ2.out.below HB3.out HZ2.out.lt)
  have HB4 : Hid (Below w.heap.size w w3) := Lib.hid (HB2.out.trans (HB3.out.mono HB2.out.size))
  have HSD := Lib.hid (decodedNil A2 n c2 (fun j => ((nth B j : Nat) : Int)) hnl p w3 HDR.out HR3.out)
  clear HD2 HDR HR3 HB3 HZ2 HB2
  go_wp2_with fail
  refine HSD.out.mono ?_
  rintro e w4 ⟨r, sg, lv, x1, x2, x3, x4, rfl, hone, hb5⟩
  have HZ5 := Lib.hid (HZ3.out.below hb5 HZ3.out.lt)
  have HB5 : Hid (Below w.heap.size w w4) := Lib.hid (HB4.out.trans (hb5.mono HB4.out.size))
  have HONE := Lib.hid hone
  clear hone hb5 HSD HB4 HZ3
  go_wp2_with (refine wpList_store_row rfl 36 (.tmp 2) (.tmp 10) rfl E #[.string tx, r, sg, lv, x1, x2, x3, x4] rfl rfl 36 _ HZ5.out infoD rfl HONE.out ?_)
  have hA := setRow_heap w4 E _ #[.string tx, r, sg, lv, x1, x2, x3, x4] _ _ HZ5.out
  have hM : Below w.heap.size w (w4.setRow E #[.string tx, r, sg, lv, x1, x2, x3, x4]) := HB5.out.trans ((Mod.setRow w4 E _).below HB5.out.size (fun k hk => by rw [hk, HE.out]; exact Nat.le_refl _))
  go_wp2_with fail
  refine bodyPost_ret (v := .tuple #[.agg #[.string tx, r, sg, lv, x1, x2, x3, x4], .bool true]) (results_cellD (p := 2) (q := 3) (ty := 36) (tq := 4) (by kernel_rfl) _ _ E 36 _ _ rfl hA Tryd.underlying36 rfl infoD) rfl ?_
  exact ⟨_, _, _, _, _, _, _, rfl, HONE.out, hM⟩

set_option maxRecDepth 100000 in
set_option maxHeartbeats 6400000 in
theorem dmParsed (m : Nat) (hm : m = 0 ∨ m = 3) (s : ByteArray) (hs : s.size < 4294967296) (i : Int) (hi : -9223372036854775808 ≤ i ∧ i ≤ 9223372036854775807) (b : Nat) (w : World) (h : Seg w b m s) :
    Calls Tryd.prog 5 #[.slice (some ⟨b, 0, none⟩) 1 1, .int .i64 i] w fun e w' => e = .returned (.bool true) ∧ Below w.heap.size w w' := by
  have HSC := Lib.hid (dmScript m hm s hs b w h)
  have HS := Lib.hid h
  have HM := Lib.hid hm
  clear h hm
  go_enter Tryd.func5, Tryd.ntmps5
  go_wp2_with fail
  refine HSC.out.mono ?_
  rintro e w1 ⟨A1, n1, c1, r1, rfl, hb1, hn1, hr1⟩
  have HB1 := Lib.hid hb1
  have HR1 := Lib.hid hr1
  have HSZ := Lib.hid (dmSized n1 c1 A1 hn1 i hi w1)
  have HS1 := Lib.hid (HS.out.below hb1)
  clear hb1 hr1 HSC HS
  go_wp2_with fail
  refine HSZ.out.mono ?_
  rintro e w2 ⟨sz, r2, rfl, hr2, hb2⟩
  have HR2 := Lib.hid hr2
  have HB2 : Hid (Below w.heap.size w w2) := Lib.hid (HB1.out.trans (hb2.mono HB1.out.size))
  have HS2 := Lib.hid (HS1.out.below hb2)
  have HR1' := Lib.hid (fun hh => (HR1.out hh).2.2.2.out.below hb2)
  clear hb2 hr2 HSZ HB1 HS1
  unfold dsv
  have hbW : Below w2.heap.size w2 (w2.alloc (.cells (dcells sz).toArray 31)) := (Below.refl _ _).alloc (Nat.le_refl _) _
  have hA2 := Arr.new w2 31 (dcells sz)
  obtain ⟨W3, hW3⟩ : ∃ W3, W3 = w2.alloc (.cells (dcells sz).toArray 31) := ⟨_, rfl⟩
  rw [← hW3] at hbW hA2
  unfold dcells at hW3
  obtain ⟨E, hE⟩ : ∃ E, E = w2.heap.size := ⟨_, rfl⟩
  rw [← hE] at hA2
  have HW3 := Lib.hid hW3
  have HEE := Lib.hid hE
  have HB3 : Hid (Below w.heap.size w W3) := Lib.hid (HB2.out.trans (hbW.mono HB2.out.size))
  have HS3 := Lib.hid (HS2.out.below hbW)
  have HA3 := Lib.hid hA2
  have HR3 := Lib.hid (fun hh => (HR1'.out hh).below hbW)
  clear hW3 hE hbW hA2 HR1' HB2 HS2
  cases r1 with
  | false =>
    go_wp2_with fail
    go_ret
    exact ⟨rfl, by rw [← HW3.out]; exact HB3.out⟩
  | true =>
    cases r2 with
    | false =>
      go_wp2_with fail
      go_ret
      exact ⟨rfl, by rw [← HW3.out]; exact HB3.out⟩
    | true =>
      obtain ⟨hnl, h15, hok, _⟩ := HR1.out rfl
      obtain ⟨hd3, hd15⟩ := HR2.out rfl
      obtain ⟨d0, d1, d2, d3, d4, d5, d6⟩ := dcellsOf HA3.out
      have HOK := Lib.hid hok
      have HNL := Lib.hid hnl
      have HPD := Lib.hid (padded (words m (sb s)) n1 c1 sz.dt hnl (by omega) (by omega) (words_lt m _ (nth_ok (fun j hj => (hok j (by rw [sb_len] at hj; exact hj)).1)) (fun h3 => nth_ok (fun j hj => (hok j (by rw [sb_len] at hj; exact hj)).2 h3)) HM.out) A1 W3 (HR3.out rfl))
      clear hok hnl HR1 HR2 HR3
      have hn0 : 0 < sz.dt := by omega
      go_upto_region 3 with (fail)
      rw [← HW3.out, ← HEE.out]
      clear HW3 HEE
      go_wp2_with fail
      refine HPD.out.mono ?_
      rintro e w4 ⟨v4, X, rfl, hXl, hXY, hX8, ho4, hb4⟩
      obtain ⟨hxl2, A4, c4, rfl, hc4, hr4, hfar4⟩ := rowRd ho4
      have hrest : Rest X 1 0 (sb s) := by
        obtain ⟨Y, hY⟩ := hXY
        exact rest_words m HM.out (sb s) X Y hY (nth_ok (fun j hj => HOK.out j (by rw [sb_len] at hj; exact hj)))
      have HPS := dmParse (sb s) X (by rw [sb_len]; omega) (sb_lt s) A4 sz.dt c4 hXl.symm hn0 (by omega) (fun j => by
        by_cases h : j < X.length
        · exact hX8 _ (nth_mem h)
        · unfold nth; rw [List.getD_eq_getElem?_getD, List.getElem?_eq_none (by omega)]; exact Nat.zero_lt_succ _) hrest w4 hr4
      rw [bs_sb] at HPS
      have HPS := Lib.hid HPS
      have HB4 : Hid (Below w.heap.size w w4) := Lib.hid (HB3.out.trans (hb4.mono HB3.out.size))
      have HS4 := Lib.hid (HS3.out.below hb4)
      clear hXl hxl2 hc4 hfar4 hXY hX8 ho4 hb4 hr4 hrest HPD HS3 HB3 d0 d1 d2 d3 d4 d5 d6 HA3
      go_wp2_with fail
      refine HPS.out.mono ?_
      rintro e w5 ⟨r, sg, lv, x1, x2, x3, x4, rfl, hone, hb5⟩
      have HB5 : Hid (Below w.heap.size w w5) := Lib.hid (HB4.out.trans (hb5.mono HB4.out.size))
      have HS5 := Lib.hid (HS4.out.below hb5)
      have HONE := Lib.hid hone
      clear hone hb5 HPS HB4 HS4
      have hA := setRow_heap (w5.alloc (.cells zD.toArray 36)) w5.heap.size _ #[.string s, r, sg, lv, x1, x2, x3, x4] _ _ (Arr.new w5 36 zD)
      have HZ5 := Lib.hid (Arr.new w5 36 zD)
      go_wp2_with (refine wpList_store_row rfl 36 (.tmp 9) (.tmp 34) rfl w5.heap.size #[.string s, r, sg, lv, x1, x2, x3, x4] rfl rfl 36 _ HZ5.out infoD rfl HONE.out ?_)
      have hc : ((w5.alloc (.cells zD.toArray 36)).setRow w5.heap.size #[.string s, r, sg, lv, x1, x2, x3, x4]).cell? ⟨w5.heap.size, 0, none⟩ = some (.string s) := by
        rw [cell_of_row _ _ _ _ _ _ hA]; rfl
      have hm6 : Mod (· = w5.heap.size) (w5.alloc (.cells zD.toArray 36)) ((w5.alloc (.cells zD.toArray 36)).setRow w5.heap.size #[.string s, r, sg, lv, x1, x2, x3, x4]) := Mod.setRow _ _ _
      have hb6 : Below w5.heap.size w5 (w5.alloc (.cells zD.toArray 36)) := (Below.refl _ _).alloc (Nat.le_refl _) _
      have HS6 : Hid (Seg ((w5.alloc (.cells zD.toArray 36)).setRow w5.heap.size #[.string s, r, sg, lv, x1, x2, x3, x4]) b m s) := Lib.hid (Arr.mod (HS5.out.below hb6) hm6 (fun e => by have e : b = w5.heap.size := e; have := Arr.lt HS5.out; omega))
      have HB6 : Hid (Below w.heap.size w ((w5.alloc (.cells zD.toArray 36)).setRow w5.heap.size #[.string s, r, sg, lv, x1, x2, x3, x4])) := Lib.hid ((HB5.out.trans (hb6.mono HB5.out.size)).trans (hm6.below (Nat.le_trans HB5.out.size hb6.size) (fun k hk => by rw [hk]; exact HB5.out.size)))
      unfold zD at hc HS6 HB6
      clear hA hm6 hb6 HZ5 HONE HS5 HB5
      obtain ⟨G, hG⟩ : ∃ G, G = w5.heap.size := ⟨_, rfl⟩
      obtain ⟨W6, hW6⟩ : ∃ W6, W6 = (w5.alloc (.cells [.string ⟨#[]⟩, .slice none 0 0, .slice none 0 0, .string ⟨#[]⟩, .int .i64 0, .int .i64 0, .int .i64 0, .int .i64 0].toArray 36)).setRow w5.heap.size #[.string s, r, sg, lv, x1, x2, x3, x4] := ⟨_, rfl⟩
      rw [← hW6] at hc HS6 HB6
      rw [← hG] at hc
      go_upto_region 6 with (fail)
      rw [← hW6, ← hG]
      clear hW6 hG
      have HSA := Lib.hid (saidOne m s (by omega) b W6.drew (show Seg W6.drew b m s from HS6.out))
      have hcd : W6.drew.cell? ⟨G, 0, none⟩ = some (.string s) := hc
      go_region_law (first | (go_simp; go_at_call 10; refine HSA.out.mono ?_; rintro e w8 ⟨rfl, hb8⟩; have hc8 := (hb8.cell (p := ⟨G, 0, none⟩) (World.block_lt_of_cell? _ _ hcd)).trans hcd))
      all_goals
        go_wp2_with fail
        go_ret
        exact ⟨rfl, (HB6.out.drew).trans (hb8.mono (show w.heap.size ≤ W6.drew.heap.size from HB6.out.size))⟩

set_option maxRecDepth 100000 in
set_option maxHeartbeats 6400000 in
theorem fnDMAscii (w : World) (s : ByteArray) (hs : s.size ≤ maxLen) (i : Int) (hi : (Lit.int .i64 i).wf = true) :
    Calls Tryd.prog 3 #[.string s, .int .i64 i] w fun e w' => e = .returned (.bool true) ∧ Below w.heap.size w w' := by
  have hi2 := bd_i64 hi
  clear hi hs
  by_cases hbig : (2147483647 : Int) < (s.size : Int)
  · go_enter Tryd.func3, Tryd.ntmps3
    go_wp2_with fail
    go_ret
    exact ⟨rfl, Below.refl _ _⟩
  · have hb2 : ((2147483647 : Int) < (s.size : Int)) = False := by simpa using hbig
    obtain ⟨W1, hW1⟩ : ∃ W1, W1 = w.alloc (.cells #[.int .i64 ((0 : Nat) : Int), .string s] 24) := ⟨_, rfl⟩
    have hseg : Seg W1 w.heap.size 0 s := by rw [hW1]; exact Arr.new _ _ _
    have hb1 : Below w.heap.size w W1 := by rw [hW1]; exact (Below.refl _ _).alloc (Nat.le_refl _) _
    have HP := Lib.hid (dmParsed 0 (.inl rfl) s (by omega) i hi2 w.heap.size W1 hseg)
    have HB1 := Lib.hid hb1
    have HI := Lib.hid hi2
    clear hbig hseg hb1 hi2
    go_enter Tryd.func3, Tryd.ntmps3
    go_wp2_with fail
    rw [show w.alloc (.cells #[.int .i64 0, .string s] 24) = W1 from hW1.symm]
    refine HP.out.mono ?_
    rintro e w2 ⟨rfl, hb⟩
    have HB2 : Hid (Below w.heap.size w w2) := Lib.hid (HB1.out.trans (hb.mono HB1.out.size))
    clear hb hW1
    go_wp2_with fail
    go_ret
    exact ⟨rfl, HB2.out⟩
set_option maxRecDepth 100000 in
set_option maxHeartbeats 6400000 in
theorem fnDMX12 (w : World) (s : ByteArray) (hs : s.size ≤ maxLen) (i : Int) (hi : (Lit.int .i64 i).wf = true) :
    Calls Tryd.prog 4 #[.string s, .int .i64 i] w fun e w' => e = .returned (.bool true) ∧ Below w.heap.size w w' := by
  have hi2 := bd_i64 hi
  clear hi hs
  by_cases hbig : (2147483647 : Int) < (s.size : Int)
  · go_enter Tryd.func4, Tryd.ntmps4
    go_wp2_with fail
    go_ret
    exact ⟨rfl, Below.refl _ _⟩
  · have hb2 : ((2147483647 : Int) < (s.size : Int)) = False := by simpa using hbig
    obtain ⟨W1, hW1⟩ : ∃ W1, W1 = w.alloc (.cells #[.int .i64 ((3 : Nat) : Int), .string s] 24) := ⟨_, rfl⟩
    have hseg : Seg W1 w.heap.size 3 s := by rw [hW1]; exact Arr.new _ _ _
    have hb1 : Below w.heap.size w W1 := by rw [hW1]; exact (Below.refl _ _).alloc (Nat.le_refl _) _
    have HP := Lib.hid (dmParsed 3 (.inr rfl) s (by omega) i hi2 w.heap.size W1 hseg)
    have HB1 := Lib.hid hb1
    have HI := Lib.hid hi2
    clear hbig hseg hb1 hi2
    go_enter Tryd.func4, Tryd.ntmps4
    go_wp2_with fail
    rw [show w.alloc (.cells #[.int .i64 3, .string s] 24) = W1 from hW1.symm]
    refine HP.out.mono ?_
    rintro e w2 ⟨rfl, hb⟩
    have HB2 : Hid (Below w.heap.size w w2) := Lib.hid (HB1.out.trans (hb.mono HB1.out.size))
    clear hb hW1
    go_wp2_with fail
    go_ret
    exact ⟨rfl, HB2.out⟩
end Go.Proofs.YthnepajhiialpaaDoor
