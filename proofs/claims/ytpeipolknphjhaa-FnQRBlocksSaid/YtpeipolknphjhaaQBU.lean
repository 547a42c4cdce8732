/-
  spec.QRUnmixed and QRMixed, walked. No condition beyond the bounds that each theorem states.
-/
import Derived.Test.YtpeipolknphjhaaQBT
import Derived.Deep.RegionLaw
namespace Go.Proofs.Ytpeipolknphjhaa
open Go.RowKit Go.Qz Go.Qz.QW Go.Qz.QI
set_option linter.unusedVariables false

/-- 'v = append(v, u)' inside a region that draws its order; where the row lies then. -/
theorem step_pushAt {P : Program} {W : World} {ops : Array Oper} {o : Oper} {a : Act} {K : Act → World → Prop} {Q : Exit → Act → World → Prop} {E : Prop} (s x : Operand) (t : TypeId)
    (base : Nat) (e : TypeId) (z : Value) (bytes : Nat) (v : Value) (n : Nat) (xs : List Value) (u : Value)
    (hgd : o.guard = none) (ho : o.op = .call { callee := .builtin .append, args := #[s, x], argTypes := #[t, t] })
    (hs : a.eval s = v) (hx : a.eval x = .slice (some ⟨W.heap.size, 0, none⟩) 1 1)
    (ht : P.underlying t = some (.slice e)) (hi : (P.info? e).map (fun i => (i.zero, i.size, i.bytes)) = some (some z, 1, bytes)) (hzs : z.cells.size = 1) (h1 : u.oneCell' = true) (hb : bytes ≤ 64)
    (hown : W.ownsRow base e 1 v n xs) (hn : n < 1099511627776) (hbase : base ≤ W.heap.size)
    (h : ∀ v' w', w'.ownsRow base e 1 v' (n + 1) (xs ++ [u]) → W.grownBy w' v.ownBlock → (v'.ownBlock = v.ownBlock ∨ v'.ownBlock = some (W.heap.size + 1)) → K (a.put o.dst v') w') :
    if Region.wanted o (yielded ops a.tmps) = true then Oper.wp P o a (W.alloc (.cells #[u] e)) K Q else E := by
  have hw : Region.wanted o (yielded ops a.tmps) = true := by simp [Region.wanted, hgd]
  rw [if_pos hw]
  obtain ⟨i0, hi, hz0, hz1, hz2⟩ := info_parts hi
  obtain ⟨v', w', hr, hown', hgrow, _, hblk⟩ := run_append_own_at (P := P) (w := W.alloc (.cells #[u] e)) base t o.type e i0 z 1 bytes ht hi hz0 hz1 hz2 hzs (by decide) v n xs (hown.alloc _) ⟨W.heap.size, 0, none⟩ 1 1 [u] rfl
    (fun j u' hu' => by
      have hj : j = 0 := by
        rcases Nat.eq_zero_or_pos j with h | h
        · exact h
        · rw [List.getElem?_eq_none (by simp; omega)] at hu'; cases hu'
      subst hj
      simp at hu'
      subst hu'
      rw [Addr.add_lit, World.cell?_alloc_at _ _ _ _ rfl]
      rfl) (fun u' hu' => by simp at hu'; subst hu'; exact h1) (by unfold maxLen; omega)
    (by have : (n + 1) * bytes ≤ 1099511627776 * 64 := Nat.mul_le_mul (by omega) hb
        omega) (by simp; omega)
  unfold Oper.wp execOp
  simp only [ho, resolve, invoke, builtin, Sem.run_bind, Sem.run_pure, Result.andThen_ok, List.map_toArray, List.map_cons, List.map_nil, hs, hx, hr]
  have g3 : W.grownBy w' v.ownBlock :=
    ⟨hgrow.os, hgrow.tape, hgrow.output, Nat.le_trans (by simp) hgrow.size, fun k hk hne => (hgrow.block k (by simp; omega) hne).trans (Below.heap_alloc W _ k hk)⟩
  exact h v' w' hown' g3 (by simpa using hblk)

/-- The words of a block so far. -/
def rowU (raw : Nat → Nat) (s : Sh) (j n : Nat) : List Value := (List.range n).map fun i => .int .u8 (raw (s.at_ j i) : Nat)
theorem rowU_succ (raw : Nat → Nat) (s : Sh) (j n : Nat) : rowU raw s j (n + 1) = rowU raw s j n ++ [.int .u8 (raw (s.at_ j n) : Nat)] := by
  unfold rowU; rw [List.range_succ, List.map_append]; rfl
def upd {α : Type} (V : Nat → α) (k : Nat) (v : α) : Nat → α := fun j => if j = k then v else V j
structure Gro (w : World) (G : Nat) (raw : Nat → Nat) (s : Sh) (V : Nat → Value) (N : Nat → Nat) : Prop where
  hd : Arr w 41 G ((List.range s.nb).map V)
  row : ∀ j, j < s.nb → w.ownsRow (G + 1) 5 1 (V j) (N j) (rowU raw s j (N j))
  apart : ∀ i j, i < s.nb → j < s.nb → i ≠ j → ∀ k, (V i).ownBlock = some k → (V j).ownBlock ≠ some k
theorem Gro.cell {w : World} {G : Nat} {raw : Nat → Nat} {s : Sh} {V : Nat → Value} {N : Nat → Nat} (h : Gro w G raw s V N) (j : Nat) (hj : j < s.nb) : w.cell? ⟨G, j, none⟩ = some (V j) := by
  rw [h.hd.cell?]; simp [hj]
theorem Gro.congr {w : World} {G : Nat} {raw : Nat → Nat} {s : Sh} {V : Nat → Value} {N N' : Nat → Nat} (h : Gro w G raw s V N) (hn : ∀ j, j < s.nb → N' j = N j) : Gro w G raw s V N' :=
  ⟨h.hd, fun j hj => by rw [hn j hj]; exact h.row j hj, h.apart⟩
theorem Gro.keep {w w' : World} {G : Nat} {raw : Nat → Nat} {s : Sh} {V : Nat → Value} {N : Nat → Nat} (h : Gro w G raw s V N) (hk : ∀ k, G ≤ k → k < w.heap.size → w'.heap[k]? = w.heap[k]?) : Gro w' G raw s V N :=
  ⟨h.hd.keep (hk _ (Nat.le_refl _) h.hd.lt), fun j hj => by
    obtain ⟨h1, h2⟩ := h.row j hj
    refine ⟨h1, h2.imp id ?_⟩
    rintro ⟨g, cap, cur, e, h3, h4, h5⟩
    exact ⟨g, cap, cur, e, h3, (hk g (by omega) (Array.getElem?_eq_some_iff.1 h4).1).trans h4, h5⟩, h.apart⟩
theorem Gro.zero (w : World) (raw : Nat → Nat) (s : Sh) : Gro (w.alloc (.cells (zeros s.nb (.slice none 0 0)) 41)) w.heap.size raw s (fun _ => .slice none 0 0) (fun _ => 0) := by
  refine ⟨?_, fun j hj => World.ownsRow_nil _ _ _ _, fun i j _ _ _ k hk => by simp [Value.ownBlock] at hk⟩
  have e : (List.range s.nb).map (fun _ => Value.slice none 0 0) = List.replicate s.nb (.slice none 0 0) := by
    apply List.ext_getElem (by simp)
    intro j h1 h2
    simp
  rw [e]
  exact Arr.new w _ _
theorem map_upd (n : Nat) (V : Nat → Value) (k : Nat) (v : Value) : ((List.range n).map V).set k v = (List.range n).map (upd V k v) := by
  apply List.ext_getElem (by simp)
  intro j h1 h2
  simp only [List.getElem_set, List.getElem_map, List.getElem_range, upd]
  by_cases e : k = j
  · subst e; simp
  · rw [if_neg e, if_neg (fun h => e h.symm)]
theorem Gro.step {w w2 : World} {G : Nat} {raw : Nat → Nat} {s : Sh} {V : Nat → Value} {N : Nat → Nat} (h : Gro w G raw s V N) (k : Nat) (hk : k < s.nb) (v' : Value) (hown : w2.ownsRow (G + 1) 5 1 v' (N k + 1) (rowU raw s k (N k) ++ [.int .u8 (raw (s.at_ k (N k)) : Nat)])) (hg : w.grownBy w2 (V k).ownBlock)
    (hl : v'.ownBlock = (V k).ownBlock ∨ v'.ownBlock = some (w.heap.size + 1)) : Gro (w2.setCell ⟨G, k, none⟩ v') G raw s (upd V k v') (upd N k (N k + 1)) := by
  have hm : Mod (fun b => (V k).ownBlock = some b) w w2 := Mod.of_grown hg
  have hs := Mod.set1 w2 G k v'
  have hne : ∀ j, j < s.nb → ∀ b, (V j).ownBlock = some b → ¬ b = G := fun j hj b hb => by have := (h.row j hj).lt b hb; omega
  refine ⟨?_, fun j hj => ?_, fun i j hi hj hij b hb hb2 => ?_⟩
  · have := (h.hd.mod hm (fun e => hne k hk G e rfl)).set_ k v'
    rw [map_upd] at this
    exact this
  · unfold upd
    by_cases e : j = k
    · subst e
      rw [if_pos rfl, if_pos rfl, rowU_succ]
      exact own_mod hown hs (fun b hb => by have := hown.lt b hb; omega)
    · rw [if_neg e, if_neg e]
      exact own_mod (own_mod (h.row j hj) hm (fun b hb hb2 => h.apart j k hj hk e b hb hb2)) hs (fun b hb => hne j hj b hb)
  · unfold upd at hb hb2
    by_cases e1 : i = k
    · subst e1
      rw [if_pos rfl] at hb
      rw [if_neg (fun e => hij e.symm)] at hb2
      rcases hl with hl | hl
      · exact h.apart i j hi hj hij b (hl ▸ hb) hb2
      · have := ((h.row j hj).lt b hb2).2
        rw [hl] at hb; injection hb with hb; omega
    · rw [if_neg e1] at hb
      by_cases e2 : j = k
      · subst e2
        rw [if_pos rfl] at hb2
        rcases hl with hl | hl
        · exact h.apart i j hi hj hij b hb (hl ▸ hb2)
        · have := ((h.row i hi).lt b hb).2
          rw [hl] at hb2; injection hb2 with hb2; omega
      · rw [if_neg e2] at hb2
        exact h.apart i j hi hj hij b hb hb2
theorem Try.infoRowU : (Try.prog.info? 41).map (fun i => (i.zero, i.size, i.bytes)) = some (some (.slice none 0 0), 1, 24) := by kernel_rfl

/-- Rows of bytes. -/
def URows (w : World) (A : Option Addr) (n : Nat) (L : Nat → Nat) (F : Nat → Nat → Nat) : Prop :=
  0 < n → ∃ b off, A = some ⟨b, off, none⟩ ∧ b < w.heap.size ∧ ∀ r, r < n → ∃ B C, w.cell? ⟨b, off + r, none⟩ = some (.slice B (L r) C) ∧ L r ≤ C ∧ Rd w B (L r) (fun c => .int .u8 (F r c : Nat))
theorem URows.below {w w' : World} {A : Option Addr} {n : Nat} {L : Nat → Nat} {F : Nat → Nat → Nat} (h : URows w A n L F) (hb : Below w.heap.size w w') : URows w' A n L F := fun h0 => by
  obtain ⟨b, off, e, hlt, hr⟩ := h h0
  refine ⟨b, off, e, Nat.lt_of_lt_of_le hlt hb.size, fun r hrl => ?_⟩
  obtain ⟨B, C, h1, h2, h3⟩ := hr r hrl
  exact ⟨B, C, (hb.cell (p := ⟨b, off + r, none⟩) hlt).trans h1, h2, h3.below hb⟩
theorem Gro.rows {w : World} {G : Nat} {raw : Nat → Nat} {s : Sh} {V : Nat → Value} {N : Nat → Nat} (h : Gro w G raw s V N) : URows w (some ⟨G, 0, none⟩) s.nb N (fun j i => raw (s.at_ j i)) := fun h0 => by
  refine ⟨G, 0, rfl, h.hd.lt, fun r hr => ?_⟩
  obtain ⟨B, C, hv, h1, h2, h3⟩ := Rd.of_own (h.row r hr)
  refine ⟨B, C, by rw [Nat.zero_add, h.cell r hr, hv], h1, h3.congr fun j hj => ?_⟩
  unfold rowU
  rw [List.getD_eq_getElem?_getD, List.getElem?_map, List.getElem?_range hj]; rfl

def UnmixPost (s : Sh) (raw : Nat → Nat) (w : World) (e : Ending) (w' : World) : Prop := ∃ G, e = .returned (.slice (some ⟨G, 0, none⟩) s.nb s.nb) ∧ URows w' (some ⟨G, 0, none⟩) s.nb s.len (fun j i => raw (s.at_ j i)) ∧ w.heap.size ≤ G ∧ Below w.heap.size w w'
theorem UnmixPost.mk {s : Sh} {raw : Nat → Nat} {w w' : World} {m G : Nat} (hm : m = s.nb) (h : URows w' (some ⟨G, 0, none⟩) s.nb s.len (fun j i => raw (s.at_ j i))) (hG : w.heap.size ≤ G) (hb : Below w.heap.size w w') : UnmixPost s raw w (.returned (.slice (some ⟨G, 0, none⟩) m m)) w' := by
  subst hm
  exact ⟨G, rfl, h, hG, hb⟩

set_option maxRecDepth 100000 in
set_option maxHeartbeats 6400000 in
theorem unmixed (n l m c : Nat) (h1 : 1 ≤ n) (h2 : n ≤ 40) (hl : l < 4) (A : Option Addr) (raw : Nat → Nat) (hm : m = totOf n) (w : World) (hr : Rd w A m (fun j => .int .u8 (raw j : Nat))) :
    Calls Try.prog 23 #[.slice A m c, .int .i64 n, .int .i64 l] w (UnmixPost (shOf' n l) raw w) := by
  have HC := Lib.hid (correction n l h1 h2 hl w)
  have HZ := Lib.hid (fun W => dataSizes n l h1 h2 hl W)
  have hO := shOf_ok h1 h2 hl
  have hT := shOf_tot h1 h2 hl
  obtain ⟨s, hs⟩ : ∃ s, s = shOf' n l := ⟨_, rfl⟩
  obtain ⟨x, hx⟩ : ∃ x, x = ecOf n l := ⟨_, rfl⟩
  obtain ⟨y, hy⟩ : ∃ y, y = nbOf n l := ⟨_, rfl⟩
  have hsx : s.ec = x := by rw [hs, hx]; rfl
  have hsy : s.nb = y := by rw [hs, hy]; rfl
  rw [← hs] at hO hT HZ ⊢
  rw [← hT] at hm
  unfold CorrPost at HC
  rw [← hx, ← hy] at HC
  have htot := Sh.tot_le hO
  have hy0 : 0 < y := by rw [← hsy]; exact hO.nb0
  have hy1 : y ≤ 81 := by rw [← hsy]; exact hO.nb1
  have hx1 : x ≤ 30 := by rw [← hsx]; exact hO.ec1
  have htot0 : 0 < s.tot := by
    have h3 : 1 * 1 ≤ s.ec * s.nb := Nat.mul_le_mul hO.ec0 hO.nb0
    unfold Sh.tot; omega
  obtain ⟨rb, ro, rfl, hrb, hrc⟩ := hr (by omega)
  have hmk := fun W => run_make1 (P := Try.prog) 44 41 (.slice none 0 0) 24 Try.underlying44 Try.infoRowU rfl (by decide) y (by omega) .i64 .i64 y rfl W
  have HO := Lib.hid hO
  have HRC := Lib.hid hrc
  have HX := Lib.hid hsx
  have HY := Lib.hid hsy
  have HMT := Lib.hid hm
  obtain ⟨sh, hshe⟩ : ∃ sh, sh = s.sh := ⟨_, rfl⟩
  obtain ⟨st, hste⟩ : ∃ st, st = s.st := ⟨_, rfl⟩
  have hsh1 : sh ≤ 123 := by rw [hshe]; exact hO.sh1
  have hst0 : 0 < st := by have := hO.lg1; rw [hste]; unfold Sh.st; omega
  have hsty : st ≤ y := by rw [hste, ← hsy]; unfold Sh.st; omega
  have HSH := Lib.hid hshe
  have HST := Lib.hid hste
  have HLG : Hid (st + s.lg = y) := Lib.hid (by have := hO.lg1; rw [hste, ← hsy]; unfold Sh.st; omega)
  have hml : m ≤ 13000 := by omega
  clear hs hx hy hsx hsy hO hT hr hrc hm htot htot0 hshe hste h1 h2 hl
  go_enter Try.func23, Try.ntmps23
  go_wp2_with fail
  refine HC.out.mono ?_
  rintro e w1 ⟨rfl, hb⟩
  have HB1 := Lib.hid hb
  clear hb HC
  go_wp2_with fail
  refine (HZ.out _).mono ?_
  rintro e w2 ⟨D, rfl, hIA, hD, hb⟩
  rw [HY.out] at hIA ⊢
  have HIA := Lib.hid hIA
  have HB2 := Lib.hid (HB1.out.trans (hb.mono HB1.out.size))
  have HGR := Lib.hid (Gro.zero w2 raw s)
  rw [HY.out] at HGR
  have HB3 := Lib.hid ((Below.refl w2.heap.size w2).alloc (Nat.le_refl _) (.cells (zeros y (.slice none 0 0)) 41))
  clear hIA hb hD HZ
  go_wp2_with fail
  obtain ⟨W0, hW0⟩ : ∃ W0, W0 = w2.alloc (.cells (zeros y (.slice none 0 0)) 41) := ⟨_, rfl⟩
  obtain ⟨G, hG⟩ : ∃ G, G = w2.heap.size := ⟨_, rfl⟩
  rw [← hW0, ← hG] at HGR HB3
  rw [← hW0, ← hG]
  have HIAl := Lib.hid HIA.out.lt
  rw [hG.symm] at HIAl
  have HRL : Hid (rb < G) := Lib.hid (by have := HB2.out.size; omega)
  have HGW : Hid (w.heap.size ≤ G) := Lib.hid (by rw [hG]; exact HB2.out.size)
  have HDC : Hid (∀ j, j < y → w2.cell? ⟨D, j, none⟩ = some (.int .i64 (s.ds j : Nat))) := Lib.hid (fun j hj => by
    have h5 := HIA.out.cell (j := j) (by rw [sizeTo_len, HY.out]; exact hj)
    rw [sizeTo_nth _ _ _ (by rw [HY.out]; exact hj), if_pos hj] at h5
    exact h5)
  have HRD : Hid (∀ j, j < m → w2.cell? ⟨rb, ro + j, none⟩ = some (.int .u8 (raw j : Nat))) := Lib.hid (fun j hj => (HB2.out.cell (p := ⟨rb, ro + j, none⟩) hrb).trans (HRC.out j hj))
  have HGE := Lib.hid hG
  clear hW0 hG hmk HRC hrb
  have hN0 : Hid (∀ j, j < y → (fun _ : Nat => 0) j = min 0 (s.ds j)) := Lib.hid (fun j hj => by simp)
  go_loopw [11, 12] (fun off i wr => ∃ (I F : Nat) (V : Nat → Value) (N : Nat → Nat), I ≤ sh + 1 ∧ i = .int .i64 I ∧ off = .int .i64 F ∧ Hid (F = I * y - (if I = sh + 1 then st else 0)) ∧ Hid (Gro wr G raw s V N) ∧ Hid (∀ j, j < y → N j = min I (s.ds j)) ∧ Hid (Below G w2 wr)) (fun _ i _ => sh + 1 - (intOf i).toNat)
  case atStart => exact ⟨0, 0, _, _, by omega, rfl, rfl, Lib.hid (by rw [if_neg (by omega)]; omega), HGR, hN0, HB3⟩
  case round =>
    obtain ⟨I, F, V, N, hI, rfl, rfl, HF, HGR, HN, HB⟩ := hrel
    clear hN0 HB3
    obtain ⟨wo, hwo⟩ : ∃ wo, wo = wr := ⟨_, rfl⟩
    rw [← hwo] at HGR HB ⊢
    clear hwo
    have d0 := (HB.out.cell (p := ⟨D, 0, none⟩) HIAl.out).trans (HDC.out 0 hy0)
    rw [Sh.ds_lo (by rw [← HST.out]; exact hst0), ← HSH.out] at d0
    have hy0i : (0 : Int) < (y : Int) := by omega
    by_cases hIl : I < sh + 1
    · have hI1 : (I : Int) ≤ (sh : Int) := by omega
      have HF0 : Hid (F = I * y + (0 - (if I = sh then st else 0))) := Lib.hid (by rw [HF.out, if_neg (show ¬ I = sh + 1 by omega)]; omega)
      have HN0 : Hid (∀ j, j < y → N j = min (if j < 0 then I + 1 else I) (s.ds j)) := Lib.hid (fun j hj => by rw [if_neg (by omega)]; exact HN.out j hj)
      clear HF HN
      go_wp2_with fail
      clear d0
      go_loopw [11, 37] (fun off i wr => ∃ (J F : Nat) (V : Nat → Value) (N : Nat → Nat), J ≤ y ∧ i = .int .i64 J ∧ off = .int .i64 F ∧ Hid (F = I * y + (J - (if I = sh then st else 0))) ∧ Hid (Gro wr G raw s V N) ∧ Hid (∀ j, j < y → N j = min (if j < J then I + 1 else I) (s.ds j)) ∧ Hid (Below G w2 wr)) (fun _ i _ => y - (intOf i).toNat)
      case atStart => exact ⟨0, F, V, N, by omega, rfl, rfl, HF0, HGR, HN0, HB⟩
      case round =>
        obtain ⟨J, F2, V2, N2, hJ, rfl, rfl, HF2, HGR2, HN2, HB2'⟩ := hrel
        clear HF0 HGR HN0 HB
        obtain ⟨wi, hwi⟩ : ∃ wi, wi = wr := ⟨_, rfl⟩
        rw [← hwi] at HGR2 HB2' ⊢
        clear hwi
        by_cases hJl : J < y
        · have hJ1 : (J : Int) < (y : Int) := by omega
          have hJ0 : (0 : Int) ≤ (J : Int) := by omega
          have dJ := (HB2'.out.cell (p := ⟨D, J, none⟩) HIAl.out).trans (HDC.out J hJl)
          obtain ⟨dj, hdj⟩ : ∃ dj, dj = s.ds J := ⟨_, rfl⟩
          rw [← hdj] at dJ
          by_cases hlo : I < dj
          · have hlo1 : (I : Int) < (dj : Int) := by omega
            have hNJ : N2 J = I := by rw [HN2.out J hJl, if_neg (by omega), ← hdj]; omega
            have hJn : J < s.nb := by rw [HY.out]; exact hJl
            have hat : s.at_ J I = F2 := by
              have h6 : s.sh = sh := HSH.out.symm
              rw [HF2.out]
              by_cases e : I = sh
              · rw [if_pos e]
                have h7 : st ≤ J := by
                  rcases Nat.lt_or_ge J st with h7 | h7
                  · have := Sh.ds_lo (s := s) (j := J) (by rw [← HST.out]; exact h7); omega
                  · exact h7
                have h8 := Sh.at_mid (s := s) (j := J) (by rw [← HST.out]; exact h7)
                rw [← HSH.out, ← HST.out, HY.out] at h8
                rw [e, h8]
              · rw [if_neg e]
                have h8 := Sh.at_low (s := s) (j := J) (i := I) (by omega)
                rw [HY.out] at h8
                rw [h8]; omega
            have hil : I < s.len J := by unfold Sh.len; omega
            have hFm : F2 < m := by rw [HMT.out, ← hat]; exact Sh.at_lt HO.out hJn hil
            have hF1 : (F2 : Int) < (m : Int) := by omega
            have hF0 : (0 : Int) ≤ (F2 : Int) := by omega
            have cr := (HB2'.out.cell (p := ⟨rb, ro + F2, none⟩) HRL.out).trans (HRD.out F2 hFm)
            have ch := HGR2.out.cell J hJn
            have hown := HGR2.out.row J hJn
            have hoG : ∀ b, (V2 J).ownBlock = some b → ¬ b = G := fun b hb => by have := hown.lt b hb; omega
            rw [hNJ] at hown
            have hGl := HGR2.out.hd.lt
            have hfG := HGR2.out.hd.free J
            have hGD : Gro wi.drew G raw s V2 N2 := HGR2.out.keep (fun _ _ _ => rfl)
            have hST := fun (W3 : World) => hGD.step (w2 := W3) J hJn
            rw [hNJ] at hST
            obtain ⟨X, hX⟩ : ∃ X, X = rowU raw s J I := ⟨_, rfl⟩
            rw [hat] at hST
            rw [← hX] at hown hST
            obtain ⟨V, hV⟩ : ∃ V, V = V2 J := ⟨_, rfl⟩
            rw [← hV] at hown hST ch hoG
            obtain ⟨x0, hx0⟩ : ∃ x0, x0 = raw F2 := ⟨_, rfl⟩
            rw [← hx0] at cr hST
            have HOWN := Lib.hid hown
            have HOG := Lib.hid hoG
            have HGL := Lib.hid hGl
            have HST2 := Lib.hid hST
            have HF3 : Hid (F2 + 1 = I * y + (J + 1 - (if I = sh then st else 0))) := Lib.hid (by
              rw [HF2.out]
              by_cases e : I = sh
              · have h7 : st ≤ J := by
                  have h6 : s.sh = sh := HSH.out.symm
                  rcases Nat.lt_or_ge J st with h7 | h7
                  · have := Sh.ds_lo (s := s) (j := J) (by rw [← HST.out]; exact h7); omega
                  · exact h7
                rw [if_pos e]; omega
              · rw [if_neg e]; omega)
            have HN3 : Hid (∀ j, j < y → upd N2 J (I + 1) j = min (if j < J + 1 then I + 1 else I) (s.ds j)) := Lib.hid (fun j hj => by
              unfold upd
              by_cases e : j = J
              · subst e; rw [if_pos rfl, if_pos (by omega), ← hdj]; omega
              · rw [if_neg e, HN2.out j hj]
                by_cases e2 : j < J
                · rw [if_pos e2, if_pos (by omega)]
                · rw [if_neg e2, if_neg (by omega)])
            have ch2 : (wi.alloc (.cells #[.int .u8 (x0 : Nat)] 5)).cell? ⟨G, J, none⟩ = some V := (World.cell?_alloc_past _ _ _ hGl).trans ch
            clear hNJ hat hown hoG hGl hGD hST hX hV hx0 hdj HF2 HN2 HGR2
            go_wp2_with fail
            go_region_law (refine step_pushAt _ _ 41 (G + 1) 5 (.int .u8 0) 1 V I X (.int .u8 (x0 : Nat)) rfl rfl rfl rfl Try.underlying41 Try.infoU8g rfl rfl (by decide) HOWN.out.drew (by omega) HGL.out ?_; intro v' w3 hown3 hg3 hl3; obtain ⟨A3, c3, rfl, _, _, _⟩ := Rd.of_own hown3; have hz3 : w3.cell? ⟨G, J, none⟩ = some V := (World.cell?_of_block (w := wi) (hg3.block G HGL.out (fun e => HOG.out G e.symm rfl))).trans ch; have hf3 : w3.frozen? ⟨G, J, none⟩ = false := (World.frozen?_of_block (w := wi) (hg3.block G HGL.out (fun e => HOG.out G e.symm rfl))).trans hfG; have HO3 := Lib.hid hown3; have HG3 := Lib.hid hg3; have HL3 := Lib.hid hl3; clear hown3 hg3 hl3)
            all_goals
              go_wp2_with fail
              go_roundw
              case rel => exact ⟨J + 1, F2 + 1, _, _, by omega, by go_num, by go_num, HF3, Lib.hid (HST2.out _ _ HO3.out HG3.out HL3.out), HN3, Lib.hid (((HB2'.out.drew).grown HG3.out (by have := HGL.out; show G ≤ wi.heap.size; omega) (fun b hb => by have := HOWN.out.lt b hb; omega)).setCell (p := ⟨G, J, none⟩) (Nat.le_refl _) _)⟩
              case measure => simp [intOf]; omega
          · have hlo1 : ((I : Int) < (dj : Int)) = False := by simp; omega
            have hIs : I = sh ∧ J < st := by
              have h5 := Sh.ds_le s J
              have h6 : s.sh = sh := HSH.out.symm
              rcases Nat.lt_or_ge J st with h7 | h7
              · have := Sh.ds_lo (s := s) (j := J) (by rw [← HST.out]; exact h7); omega
              · have := Sh.ds_hi (s := s) (j := J) (by rw [← HST.out]; exact h7); omega
            have HF3 : Hid (F2 = I * y + (J + 1 - (if I = sh then st else 0))) := Lib.hid (by rw [HF2.out, if_pos hIs.1]; omega)
            have HN3 : Hid (∀ j, j < y → N2 j = min (if j < J + 1 then I + 1 else I) (s.ds j)) := Lib.hid (fun j hj => by
              rw [HN2.out j hj]
              by_cases e : j = J
              · subst e; rw [if_neg (by omega), if_pos (by omega), ← hdj]; omega
              · by_cases e2 : j < J
                · rw [if_pos e2, if_pos (by omega)]
                · rw [if_neg e2, if_neg (by omega)])
            clear hIs hdj hlo HF2 HN2
            go_wp2_with fail
            go_roundw
            case rel => exact ⟨J + 1, F2, V2, N2, by omega, by go_num, rfl, HF3, HGR2, HN3, HB2'⟩
            case measure => simp [intOf]; omega
        · obtain rfl : J = y := by omega
          have hJ1 : ((J : Int) < (J : Int)) = False := by simp
          have HF3 : Hid (F2 = (I + 1) * J - (if I + 1 = sh + 1 then st else 0)) := Lib.hid (by
            rw [HF2.out, Nat.add_mul, Nat.one_mul]
            by_cases e : I = sh
            · rw [if_pos e, if_pos (by omega)]; omega
            · rw [if_neg e, if_neg (by omega)]; omega)
          have HN3 : Hid (∀ j, j < J → N2 j = min (I + 1) (s.ds j)) := Lib.hid (fun j hj => by rw [HN2.out j hj, if_pos hj])
          clear HF2 HN2
          go_wp2_with fail
          go_roundw
          case rel => exact ⟨I + 1, F2, V2, N2, by omega, by go_num, rfl, HF3, HGR2, HN3, HB2'⟩
          case measure => simp [intOf]; omega
    · have hIe : I = sh + 1 := by omega
      have hI1 : ((I : Int) ≤ (sh : Int)) = False := by simp; omega
      have HF4 : Hid (F = sh * y + s.lg + 0 * y) := Lib.hid (by rw [HF.out, if_pos hIe, hIe, Nat.add_mul]; have := HLG.out; omega)
      have HN4 : Hid (∀ j, j < y → N j = s.ds j + 0) := Lib.hid (fun j hj => by rw [HN.out j hj]; have := Sh.ds_le s j; have : s.sh = sh := HSH.out.symm; omega)
      have HIE := Lib.hid hIe
      clear HF HN hIe hIl hI
      go_wp2_with fail
      clear d0 hI1
      go_loopw [11, 14] (fun off i wr => ∃ (I F : Nat) (V : Nat → Value) (N : Nat → Nat), I ≤ x ∧ i = .int .i64 I ∧ off = .int .i64 F ∧ Hid (F = sh * y + s.lg + I * y) ∧ Hid (Gro wr G raw s V N) ∧ Hid (∀ j, j < y → N j = s.ds j + I) ∧ Hid (Below G w2 wr)) (fun _ i _ => x - (intOf i).toNat)
      case atStart => exact ⟨0, F, V, N, by omega, rfl, rfl, HF4, HGR, HN4, HB⟩
      case round =>
        obtain ⟨I, F, V, N, hI, rfl, rfl, HF, HGR, HN, HB⟩ := hrel
        clear HF4 HN4
        obtain ⟨wo, hwo⟩ : ∃ wo, wo = wr := ⟨_, rfl⟩
        rw [← hwo] at HGR HB ⊢
        clear hwo
        by_cases hIl : I < x
        · have hI1 : (I : Int) < (x : Int) := by omega
          have HF0 : Hid (F = sh * y + s.lg + I * y + 0) := Lib.hid (by rw [HF.out]; omega)
          have HN0 : Hid (∀ j, j < y → N j = s.ds j + (if j < 0 then I + 1 else I)) := Lib.hid (fun j hj => by rw [if_neg (by omega)]; exact HN.out j hj)
          clear HF HN
          go_wp2_with fail
          go_loopw [11, 69] (fun off i wr => ∃ (J F : Nat) (V : Nat → Value) (N : Nat → Nat), J ≤ y ∧ i = .int .i64 J ∧ off = .int .i64 F ∧ Hid (F = sh * y + s.lg + I * y + J) ∧ Hid (Gro wr G raw s V N) ∧ Hid (∀ j, j < y → N j = s.ds j + (if j < J then I + 1 else I)) ∧ Hid (Below G w2 wr)) (fun _ i _ => y - (intOf i).toNat)
          case atStart => exact ⟨0, F, V, N, by omega, rfl, rfl, HF0, HGR, HN0, HB⟩
          case round =>
            obtain ⟨J, F2, V2, N2, hJ, rfl, rfl, HF2, HGR2, HN2, HB2'⟩ := hrel
            clear HF0 HGR HN0 HB
            obtain ⟨wi, hwi⟩ : ∃ wi, wi = wr := ⟨_, rfl⟩
            rw [← hwi] at HGR2 HB2' ⊢
            clear hwi
            by_cases hJl : J < y
            · have hJ1 : (J : Int) < (y : Int) := by omega
              have hJ0 : (0 : Int) ≤ (J : Int) := by omega
              obtain ⟨Z, hZ⟩ : ∃ Z, Z = s.ds J + I := ⟨_, rfl⟩
              have hNJ : N2 J = Z := by rw [HN2.out J hJl, if_neg (by omega), hZ]
              have hJn : J < s.nb := by rw [HY.out]; exact hJl
              have hat : s.at_ J Z = F2 := by rw [hZ, Sh.at_high, ← HSH.out, HY.out, HF2.out]
              have hil : Z < s.len J := by unfold Sh.len; have : s.ec = x := HX.out; omega
              have hFm : F2 < m := by rw [HMT.out, ← hat]; exact Sh.at_lt HO.out hJn hil
              have hZl : Z < 1000 := by have := Sh.ds_le s J; have : s.sh = sh := HSH.out.symm; omega
              have hF1 : (F2 : Int) < (m : Int) := by omega
              have hF0 : (0 : Int) ≤ (F2 : Int) := by omega
              have cr := (HB2'.out.cell (p := ⟨rb, ro + F2, none⟩) HRL.out).trans (HRD.out F2 hFm)
              have ch := HGR2.out.cell J hJn
              have hown := HGR2.out.row J hJn
              have hoG : ∀ b, (V2 J).ownBlock = some b → ¬ b = G := fun b hb => by have := hown.lt b hb; omega
              rw [hNJ] at hown
              have hGl := HGR2.out.hd.lt
              have hfG := HGR2.out.hd.free J
              have hGD : Gro wi.drew G raw s V2 N2 := HGR2.out.keep (fun _ _ _ => rfl)
              have hST := fun (W3 : World) => hGD.step (w2 := W3) J hJn
              rw [hNJ] at hST
              obtain ⟨X, hX⟩ : ∃ X, X = rowU raw s J Z := ⟨_, rfl⟩
              rw [hat] at hST
              rw [← hX] at hown hST
              obtain ⟨V, hV⟩ : ∃ V, V = V2 J := ⟨_, rfl⟩
              rw [← hV] at hown hST ch hoG
              obtain ⟨x0, hx0⟩ : ∃ x0, x0 = raw F2 := ⟨_, rfl⟩
              rw [← hx0] at cr hST
              have HOWN := Lib.hid hown
              have HOG := Lib.hid hoG
              have HGL := Lib.hid hGl
              have HST2 := Lib.hid hST
              have HF3 : Hid (F2 + 1 = sh * y + s.lg + I * y + (J + 1)) := Lib.hid (by rw [HF2.out]; omega)
              have HN3 : Hid (∀ j, j < y → upd N2 J (Z + 1) j = s.ds j + (if j < J + 1 then I + 1 else I)) := Lib.hid (fun j hj => by
                unfold upd
                by_cases e : j = J
                · subst e; rw [if_pos rfl, if_pos (by omega), hZ]; omega
                · rw [if_neg e, HN2.out j hj]
                  by_cases e2 : j < J
                  · rw [if_pos e2, if_pos (by omega)]
                  · rw [if_neg e2, if_neg (by omega)])
              have ch2 : (wi.alloc (.cells #[.int .u8 (x0 : Nat)] 5)).cell? ⟨G, J, none⟩ = some V := (World.cell?_alloc_past _ _ _ hGl).trans ch
              clear hNJ hat hown hoG hGl hGD hST hX hV hx0 hZ HF2 HN2 HGR2
              go_wp2_with fail
              go_region_law (refine step_pushAt _ _ 41 (G + 1) 5 (.int .u8 0) 1 V Z X (.int .u8 (x0 : Nat)) rfl rfl rfl rfl Try.underlying41 Try.infoU8g rfl rfl (by decide) HOWN.out.drew (by omega) HGL.out ?_; intro v' w3 hown3 hg3 hl3; obtain ⟨A3, c3, rfl, _, _, _⟩ := Rd.of_own hown3; have hz3 : w3.cell? ⟨G, J, none⟩ = some V := (World.cell?_of_block (w := wi) (hg3.block G HGL.out (fun e => HOG.out G e.symm rfl))).trans ch; have hf3 : w3.frozen? ⟨G, J, none⟩ = false := (World.frozen?_of_block (w := wi) (hg3.block G HGL.out (fun e => HOG.out G e.symm rfl))).trans hfG; have HO3 := Lib.hid hown3; have HG3 := Lib.hid hg3; have HL3 := Lib.hid hl3; clear hown3 hg3 hl3)
              all_goals
                go_wp2_with fail
                go_roundw
                case rel => exact ⟨J + 1, F2 + 1, _, _, by omega, by go_num, by go_num, HF3, Lib.hid (HST2.out _ _ HO3.out HG3.out HL3.out), HN3, Lib.hid (((HB2'.out.drew).grown HG3.out (by have := HGL.out; show G ≤ wi.heap.size; omega) (fun b hb => by have := HOWN.out.lt b hb; omega)).setCell (p := ⟨G, J, none⟩) (Nat.le_refl _) _)⟩
                case measure => simp [intOf]; omega
            · obtain rfl : J = y := by omega
              have hJ1 : ((J : Int) < (J : Int)) = False := by simp
              have HF3 : Hid (F2 = sh * J + s.lg + (I + 1) * J) := Lib.hid (by rw [HF2.out, Nat.add_mul]; omega)
              have HN3 : Hid (∀ j, j < J → N2 j = s.ds j + (I + 1)) := Lib.hid (fun j hj => by rw [HN2.out j hj, if_pos hj])
              clear HF2 HN2
              go_wp2_with fail
              go_roundw
              case rel => exact ⟨I + 1, F2, V2, N2, by omega, by go_num, rfl, HF3, HGR2, HN3, HB2'⟩
              case measure => simp [intOf]; omega
        · obtain rfl : I = x := by omega
          have hI1 : ((I : Int) < (I : Int)) = False := by simp
          have HRW : Hid (URows wo (some ⟨G, 0, none⟩) s.nb s.len (fun j i => raw (s.at_ j i))) := Lib.hid ((HGR.out.congr (N' := s.len) (fun j hj => by rw [HN.out j (by rw [← HY.out]; exact hj)]; unfold Sh.len; rw [HX.out])).rows)
          have HBW : Hid (Below w.heap.size w wo) := Lib.hid (HB2.out.trans (HB.out.mono HGW.out))
          clear HF HN HGR
          go_wp2_with fail
          go_ret
          exact UnmixPost.mk HY.out.symm HRW.out HGW.out HBW.out
end Go.Proofs.Ytpeipolknphjhaa
