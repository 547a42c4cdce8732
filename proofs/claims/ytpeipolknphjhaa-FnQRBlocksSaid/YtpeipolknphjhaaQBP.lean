/-
  impl.QRBlocks, walked. No condition beyond the bounds that each theorem states.
-/
import Derived.Test.YtpeipolknphjhaaQBM
import Derived.Test.YtpeipolknphjhaaPAR
namespace Go.Proofs.Ytpeipolknphjhaa
open Go.RowKit Go.Qz Go.Qz.QW Go.Qz.QI Go.Qz.Par
set_option linter.unusedVariables false

/-- 'append(v, xs...)' onto a row of the call's own, xs read as f: nil, empty or not. -/
theorem wpList_copyAt {P : Program} {W : World} {ops : Array Oper} {rest : List Oper} {o : Oper} {a : Act} {Q : Exit → Act → World → Prop} (s x : Operand) (t : TypeId)
    (base : Nat) (e : TypeId) (z : Value) (bytes : Nat) (v : Value) (n : Nat) (xs : List Value) (A : Option Addr) (m c : Nat) (f : Nat → Value)
    (hgd : o.guard = none) (ho : o.op = .call { callee := .builtin .append, args := #[s, x], argTypes := #[t, t] })
    (hs : a.eval s = v) (hx : a.eval x = .slice A m c)
    (ht : P.underlying t = some (.slice e)) (hi : (P.info? e).map (fun i => (i.zero, i.size, i.bytes)) = some (some z, 1, bytes)) (hzs : z.cells.size = 1) (h1 : ∀ j, j < m → (f j).oneCell' = true) (hb : bytes ≤ 64)
    (hown : W.ownsRow base e 1 v n xs) (hr : Rd W A m f) (hn : n + m < 1099511627776) (hbase : base ≤ W.heap.size)
    (h : ∀ v' w', w'.ownsRow base e 1 v' (n + m) (xs ++ (List.range m).map f) → W.grownBy w' v.ownBlock → Below base W w' → (v'.ownBlock = v.ownBlock ∨ v'.ownBlock = some W.heap.size) → wpList P ops Q rest (a.put o.dst v') w') :
    wpList P ops Q (o :: rest) a W := by
  rcases A with _ | ad
  · have hm : m = 0 := by
      rcases Nat.eq_zero_or_pos m with h0 | h0
      · exact h0
      · obtain ⟨b, off, h, _⟩ := hr h0
        cases h
    subst hm
    obtain ⟨i0, hi, _, _, _⟩ := info_parts hi
    refine wpList_plain hgd fun K hK => ?_
    have hrun := run_append_none (P := P) W base t o.type e i0 1 ht hi v n xs hown c
    unfold Oper.wp execOp
    simp only [ho, resolve, invoke, builtin, Sem.run_bind, Sem.run_pure, Result.andThen_ok, List.map_toArray, List.map_cons, List.map_nil, hs, hx, hrun]
    exact hK _ _ (h v W (by simpa using hown) (World.grownBy.refl W _) (Below.refl _ _) (.inl rfl))
  · obtain ⟨i0, hi, hz0, hz1, hz2⟩ := info_parts hi
    refine wpList_append_own_at _ hgd s x t ho base e i0 z 1 bytes ht hi hz0 hz1 hz2 hzs (by decide) v n xs hs hown ad m c ((List.range m).map f) hx (by simp) ?_ ?_ ?_ ?_ hbase ?_
    · intro j u hu
      have hj : j < m := by
        rcases Nat.lt_or_ge j m with h | h
        · exact h
        · rw [List.getElem?_eq_none (by simpa using h)] at hu; cases hu
      obtain ⟨b, off, e1, hb, hc⟩ := hr (by omega)
      have e2 : ad = ⟨b, off, none⟩ := by injection e1
      have e3 : u = f j := by
        rw [List.getElem?_map, List.getElem?_range hj] at hu
        simpa using hu.symm
      rw [e2, e3, ← hc j hj]
      unfold Addr.add
      split <;> simp_all
    · intro u hu
      obtain ⟨j, hj, rfl⟩ := List.mem_map.1 hu
      exact h1 j (by simpa using hj)
    · unfold maxLen; omega
    · have : (n + m) * bytes ≤ 1099511627776 * 64 := Nat.mul_le_mul (by omega) hb
      omega
    · intro v' w' g1 g2 _ g4
      exact h v' w' g1 g2 ((Below.refl _ _).grown g2 hbase fun k hk => (hown.lt k hk).1) g4

def contV (s : Sh) (raw : Nat → Nat) (j : Nat) : List Value := rowV (fun i => .int .u8 (raw (s.at_ j i) : Nat)) (s.len j)
def sizeV (s : Sh) (k : Nat) : List Value := (List.range k).map fun j => .int .i64 (s.ds j : Nat)
def mapX (X : Nat → Value) (k : Nat) : List Value := (List.range k).map X
theorem sizeV_succ (s : Sh) (k : Nat) : sizeV s (k + 1) = sizeV s k ++ [.int .i64 (s.ds k : Nat)] := by unfold sizeV; rw [List.range_succ, List.map_append]; rfl
theorem mapX_upd (X : Nat → Value) (k : Nat) (u : Value) : mapX (upd X k u) (k + 1) = mapX X k ++ [u] := by
  unfold mapX
  rw [List.range_succ, List.map_append]
  congr 1
  · exact List.map_congr_left fun j hj => by unfold upd; rw [if_neg (by have := List.mem_range.1 hj; omega)]
  · simp [upd]
/-- What has been gathered so far. -/
structure Gat (w : World) (B : Nat) (s : Sh) (raw : Nat → Nat) (a b : Value) (k : Nat) (X : Nat → Value) : Prop where
  own1 : w.ownsRow B 41 1 a k (mapX X k)
  own2 : w.ownsRow B 3 1 b k (sizeV s k)
  row : ∀ j, j < k → w.ownsRow B 5 1 (X j) (s.len j) (contV s raw j)
  ab : ∀ q, a.ownBlock = some q → b.ownBlock ≠ some q
  ax : ∀ j, j < k → ∀ q, (X j).ownBlock = some q → a.ownBlock ≠ some q ∧ b.ownBlock ≠ some q
theorem Gat.keep {w w' : World} {B : Nat} {s : Sh} {raw : Nat → Nat} {a b : Value} {k : Nat} {X : Nat → Value} (h : Gat w B s raw a b k X) (hk : ∀ q, q < w.heap.size → w'.heap[q]? = w.heap[q]?) : Gat w' B s raw a b k X :=
  ⟨own_local h.own1 fun q hq => hk q (own_lt h.own1 hq), own_local h.own2 fun q hq => hk q (own_lt h.own2 hq), fun j hj => own_local (h.row j hj) fun q hq => hk q (own_lt (h.row j hj) hq), h.ab, h.ax⟩
def QBPost (s : Sh) (raw : Nat → Nat) (w : World) (e : Ending) (w' : World) : Prop := ∃ A1 c1 A2 c2, e = .returned (.tuple #[.slice A1 s.nb c1, .slice A2 s.nb c2, .bool true]) ∧
  URows w' A1 s.nb s.len (fun j i => raw (s.at_ j i)) ∧ Rd w' A2 s.nb (fun j => .int .i64 (s.ds j : Nat)) ∧ Below w.heap.size w w'
theorem QBPost.mk {s : Sh} {raw : Nat → Nat} {w w' : World} {a b : Value} {X : Nat → Value} {B m : Nat} (hm : m = s.nb) (h : Gat w' B s raw a b m X) (hb : Below w.heap.size w w') : QBPost s raw w (.returned (.tuple #[a, b, .bool true])) w' := by
  subst hm
  obtain ⟨A1, c1, rfl, h1, h2, h3⟩ := Rd.of_own h.own1
  obtain ⟨A2, c2, rfl, h4, h5, h6⟩ := Rd.of_own h.own2
  refine ⟨A1, c1, A2, c2, rfl, fun h0 => ?_, h6.congr fun j hj => ?_, hb⟩
  · obtain ⟨b, off, e, hb, hc⟩ := h3 h0
    refine ⟨b, off, e, hb, fun r hr => ?_⟩
    obtain ⟨B', C, hv, g1, g2, g3⟩ := Rd.of_own (h.row r hr)
    refine ⟨B', C, ?_, g1, g3.congr fun j hj => ?_⟩
    · rw [hc r hr]
      unfold mapX
      simp [List.getD_eq_getElem?_getD, hr, hv]
    · unfold contV
      rw [List.getD_eq_getElem?_getD, rowV_get _ _ _ hj]; rfl
  · unfold sizeV
    rw [List.getD_eq_getElem?_getD, List.getElem?_map, List.getElem?_range hj]; rfl

set_option maxRecDepth 100000 in
set_option maxHeartbeats 6400000 in
theorem qrBlocks (n l m c : Nat) (h1 : 1 ≤ n) (h2 : n ≤ 40) (hl : l < 4) (A : Option Addr) (raw : Nat → Nat) (hm : m = totOf n) (w : World) (hr : Rd w A m (fun j => .int .u8 (raw j : Nat))) :
    Calls Try.prog 22 #[.slice A m c, .int .i64 n, .int .i64 l] w (QBPost (shOf' n l) raw w) := by
  have HV := Lib.hid (getVer n h1 h2 w)
  have hneq : ∀ W, (binOp .neq 69 .nilIface .nilIface).run Try.prog W = .ok (.bool false) W := fun W => rfl
  have HG := Lib.hid (fun c p A W hv hr => getBlocks n l m c p h1 h2 hl A raw hm W hv hr)
  have hO := shOf_ok h1 h2 hl
  have hml : m ≤ 13000 := by have := Sh.tot_le hO; rw [shOf_tot h1 h2 hl] at this; omega
  obtain ⟨s, hs⟩ : ∃ s, s = shOf' n l := ⟨_, rfl⟩
  rw [← hs] at hO HG ⊢
  have HO := Lib.hid hO
  obtain ⟨y, hy⟩ : ∃ y, y = s.nb := ⟨_, rfl⟩
  have hy1 : y ≤ 81 := by rw [hy]; exact hO.nb1
  have HY := Lib.hid hy
  have HR := Lib.hid hr
  clear hs hO hy hr hm h1 h2 hl
  go_enter Try.func22, Try.ntmps22
  go_wp2_with fail
  refine HV.out.mono ?_
  rintro e w1 ⟨p, rfl, hv, hb⟩
  have HVA := Lib.hid hv
  have HB1 := Lib.hid hb
  have HR1 := Lib.hid (HR.out.below hb)
  have hown : w1.ownsRow w1.heap.size 5 1 (.slice none 0 0) 0 [] := World.ownsRow_nil _ _ _ _
  clear hv hb HV
  go_wp2_with (at_builtin; refine wpList_copyTo _ _ 41 w1.heap.size 5 (.int .u8 0) 1 _ 0 [] _ _ _ _ rfl rfl rfl rfl Try.underlying41 Try.infoU8g rfl (fun j _ => rfl) (by decide) hown HR1.out (by omega) (Nat.le_refl _) ?_)
  intro v1 w2 hown1 hg1 hb1
  obtain ⟨A', c', rfl, hc', _, hr2⟩ := Rd.of_own hown1
  have HR2 : Hid (Rd w2 A' m (fun j => .int .u8 (raw j : Nat))) := Lib.hid (hr2.congr fun j hj => by
    rw [List.getD_eq_getElem?_getD, List.getElem?_map, List.getElem?_range (by omega)]; rfl)
  have HVA2 := Lib.hid (HVA.out.below hb1)
  have HB2 := Lib.hid (HB1.out.trans (hb1.mono HB1.out.size))
  clear hown hown1 hg1 hr2 hb1
  go_wp2_with fail
  refine (HG.out _ p A' w2 HVA2.out HR2.out).mono ?_
  rintro e w3 ⟨R, P, C, f, rfl, HBK, HU, hR, hb⟩
  rw [← HY.out] at HBK ⊢
  have HB3 := Lib.hid (HB2.out.trans (hb.mono HB2.out.size))
  clear hb hR HG
  go_wp2_with fail
  obtain ⟨B, hB⟩ : ∃ B, B = w3.heap.size := ⟨_, rfl⟩
  have HBE := Lib.hid hB
  have HG0 : Hid (Gat w3 B s raw (.slice none 0 0) (.slice none 0 0) 0 (fun _ => .slice none 0 0)) := Lib.hid ⟨World.ownsRow_nil _ _ _ _, World.ownsRow_nil _ _ _ _, fun j hj => by omega, fun q h => by simp [Value.ownBlock] at h, fun j hj => by omega⟩
  have HBB0 : Hid (Below B w3 w3) := Lib.hid (Below.refl _ _)
  have HCO : Hid (∀ j i, j < y → i < s.len j → w3.cell? ⟨C j, i, none⟩ = some (.int .u8 (raw (s.at_ j i) : Nat))) := Lib.hid (fun j i hj hi => by
    rw [HBK.out.cell j i hj hi, HU.out j i (by rw [← HY.out]; exact hj) hi (Sh.at_lt HO.out (by rw [← HY.out]; exact hj) hi)])
  clear hB HU
  go_loopw [12, 13, 35] (fun a b i wr => ∃ (k : Nat) (X : Nat → Value), k ≤ y ∧ i = .int .i64 k ∧ Hid (Gat wr B s raw a b k X) ∧ Hid (Below B w3 wr)) (fun _ _ i _ => y - (intOf i).toNat)
  case atStart => exact ⟨0, _, by omega, rfl, HG0, HBB0⟩
  case round =>
    obtain ⟨k, X, hk, rfl, HGA, HBB⟩ := hrel
    clear HG0 HBB0
    by_cases hlt : k < y
    · have hk1 : (k : Int) < (y : Int) := by omega
      have hk0 : (0 : Int) ≤ (k : Int) := by omega
      have hBw : Below w3.heap.size w3 wr := by have := HBB.out; rw [HBE.out] at this; exact this
      have hBK := HBK.out.below hBw
      have c0 := hBK.head k hlt (by rw [← HY.out]; exact Nat.le_refl _)
      have hlen : 0 < s.len k := by have := HO.out.ec0; unfold Sh.len; omega
      have hlen1 : s.len k < 1000 := by have := Sh.ds_le s k; have := HO.out.sh1; have := HO.out.ec1; unfold Sh.len; omega
      clear hBw
      have HBK2 := Lib.hid hBK
      clear hBK
      go_wp2_with fail
      obtain ⟨L, hL⟩ : ∃ L, L = s.len k := ⟨_, rfl⟩
      have HW := Lib.hid (blkWords (P k) (.slice (some ⟨C k, 0, none⟩) L L) wr (by rw [hL]; exact HBK2.out.words k hlt))
      have HRK : Hid (Rd wr (some ⟨C k, 0, none⟩) L (fun i => .int .u8 (raw (s.at_ k i) : Nat))) := Lib.hid (fun _ => ⟨C k, 0, rfl, (HBK2.out.by_ k hlt).lt, fun i hi => by
        have hBw : Below w3.heap.size w3 wr := by have := HBB.out; rw [HBE.out] at this; exact this
        rw [Nat.zero_add]
        exact (hBw.cell (p := ⟨C k, i, none⟩) (HBK.out.by_ k hlt).lt).trans (HCO.out k i hlt (by rw [← hL]; exact hi))⟩)
      rw [← hL] at hlen hlen1
      have HL := Lib.hid hL
      have HBs : Hid (B ≤ wr.heap.size) := Lib.hid (by rw [HBE.out]; exact HBB.out.size)
      have HN8 : Hid (wr.ownsRow B 5 1 (.slice none 0 0) 0 []) := Lib.hid (World.ownsRow_nil _ _ _ _)
      obtain ⟨wi, hwi⟩ : ∃ wi, wi = wr := ⟨_, rfl⟩
      rw [← hwi] at HW HRK HBs HN8 HGA HBB HBK2 ⊢
      clear hwi hL c0
      refine HW.out.mono ?_
      rintro e w4 ⟨rfl, rfl⟩
      go_wp2_with (at_builtin; refine wpList_copyAt _ _ 41 B 5 (.int .u8 0) 1 _ 0 [] _ _ _ _ rfl rfl rfl rfl Try.underlying41 Try.infoU8g rfl (fun j _ => rfl) (by decide) HN8.out HRK.out (by omega) HBs.out ?_)
      intro v4 w4 hown4 hg4 hb4 hl4
      have hnew4 : ∀ q, v4.ownBlock = some q → wi.heap.size ≤ q := fun q hq => by
        rcases hl4 with h | h
        · rw [h] at hq; simp [Value.ownBlock] at hq
        · rw [h] at hq; injection hq with hq; omega
      have hGA4 : Gat w4 B s raw u12 u13 k X := HGA.out.keep fun q hq => hg4.block q hq (by simp [Value.ownBlock])
      have HO4 : Hid (w4.ownsRow B 5 1 v4 L (contV s raw k)) := Lib.hid (by unfold contV; rw [← HL.out]; exact hown4)
      obtain ⟨B4, c4, rfl, _, _, _⟩ := Rd.of_own hown4
      have HA4 : Hid (∀ q, u12.ownBlock = some q → q < wi.heap.size) := Lib.hid (fun q hq => (HGA.out.own1.lt q hq).2)
      have HA5 : Hid (∀ q, u13.ownBlock = some q → q < wi.heap.size) := Lib.hid (fun q hq => (HGA.out.own2.lt q hq).2)
      have HG4 := Lib.hid hGA4
      have HN4 := Lib.hid hnew4
      have HB4 := Lib.hid (HBB.out.trans hb4)
      have HS4 : Hid (wi.heap.size ≤ w4.heap.size ∧ B ≤ w4.heap.size) := Lib.hid ⟨hg4.size, Nat.le_trans HBs.out hg4.size⟩
      clear hown4 hg4 hb4 hl4 hnew4 hGA4 HGA HBB HW HRK
      go_wp2_with (at_builtin; refine wpList_pushAt _ _ 44 B 41 (.slice none 0 0) 24 _ k (mapX X k) (.slice B4 L c4) rfl rfl rfl rfl Try.underlying44 Try.infoRowU rfl rfl (by decide) HG4.out.own1 (by omega) HS4.out.2 ?_)
      intro v5 w5 hown5 hg5 hb5 hl5
      have hm5 := Mod.of_grown hg5
      have hl5' : ∀ q, v5.ownBlock = some q → u12.ownBlock = some q ∨ w4.heap.size < q := fun q hq => by
        rcases hl5 with h | h
        · left; rw [← h]; exact hq
        · right; rw [h] at hq; injection hq with hq; omega
      have HO5 : Hid (w5.ownsRow B 41 1 v5 (k + 1) (mapX (upd X k (.slice B4 L c4)) (k + 1))) := Lib.hid (by rw [mapX_upd]; exact hown5)
      have HP5 : Hid (w5.ownsRow B 3 1 u13 k (sizeV s k)) := Lib.hid (own_mod HG4.out.own2 hm5 (fun q hq h => HG4.out.ab q h hq))
      have HR5 : Hid (∀ j, j < k → w5.ownsRow B 5 1 (X j) (s.len j) (contV s raw j)) := Lib.hid (fun j hj => own_mod (HG4.out.row j hj) hm5 (fun q hq h => (HG4.out.ax j hj q hq).1 h))
      have HV5 : Hid (w5.ownsRow B 5 1 (.slice B4 L c4) L (contV s raw k)) := Lib.hid (own_mod HO4.out hm5 (fun q hq h => by have := HN4.out q hq; have := HA4.out q h; omega))
      have HL5 := Lib.hid hl5'
      have HB5 := Lib.hid (HB4.out.trans hb5)
      have HS5 : Hid (w4.heap.size ≤ w5.heap.size ∧ B ≤ w5.heap.size) := Lib.hid ⟨hg5.size, Nat.le_trans HS4.out.2 hg5.size⟩
      have HBK5 := Lib.hid (HBK.out.below (by have := HB5.out; rw [HBE.out] at this; exact this))
      have HD := Lib.hid (blkData (P k) (.int .i64 (s.ds k : Nat)) w5 (HBK5.out.data k hlt))
      clear hown5 hg5 hb5 hl5 hm5 hl5' HB4
      go_wp2_with fail
      refine HD.out.mono ?_
      rintro e w6 ⟨rfl, rfl⟩
      go_wp2_with (at_builtin; refine wpList_pushAt _ _ 45 B 3 (.int .i64 0) 8 _ k (sizeV s k) (.int .i64 (s.ds k : Nat)) rfl rfl rfl rfl Try.underlying45 Try.infoIntC rfl rfl (by decide) HP5.out (by omega) HS5.out.2 ?_)
      intro v6 w6 hown6 hg6 hb6 hl6
      have hm6 := Mod.of_grown hg6
      have hl6' : ∀ q, v6.ownBlock = some q → u13.ownBlock = some q ∨ w5.heap.size < q := fun q hq => by
        rcases hl6 with h | h
        · left; rw [← h]; exact hq
        · right; rw [h] at hq; injection hq with hq; omega
      have HGN : Hid (Gat w6 B s raw v5 v6 (k + 1) (upd X k (.slice B4 L c4))) := Lib.hid (by
        refine ⟨own_mod HO5.out hm6 (fun q hq h => ?_), by rw [sizeV_succ]; exact hown6, fun j hj => ?_, fun q hq h => ?_, fun j hj q hq => ?_⟩
        · rcases HL5.out q hq with h1 | h1
          · exact HG4.out.ab q h1 h
          · have := HA5.out q h; have := HS4.out.1; omega
        · unfold upd
          by_cases e : j = k
          · subst e; rw [if_pos rfl]
            have h8 := own_mod HV5.out hm6 (fun q hq h => by have := HN4.out q hq; have := HA5.out q h; omega)
            rw [HL.out] at h8
            rw [← HL.out] at h8 ⊢
            exact h8
          · rw [if_neg e]
            exact own_mod (HR5.out j (by omega)) hm6 (fun q hq h => (HG4.out.ax j (by omega) q hq).2 h)
        · rcases HL5.out q hq with h1 | h1
          · rcases hl6' q h with h2 | h2
            · exact HG4.out.ab q h1 h2
            · have := HA4.out q h1; have := HS4.out.1; have := HS5.out.1; omega
          · rcases hl6' q h with h2 | h2
            · have := HA5.out q h2; have := HS4.out.1; omega
            · have := HO5.out.lt q hq; omega
        · have hqs : (j = k ∧ wi.heap.size ≤ q ∧ q < w4.heap.size) ∨ (j < k ∧ q < w4.heap.size) := by
            unfold upd at hq
            by_cases e : j = k
            · subst e; rw [if_pos rfl] at hq
              exact .inl ⟨rfl, HN4.out q hq, (HO4.out.lt q hq).2⟩
            · rw [if_neg e] at hq
              exact .inr ⟨by omega, ((HG4.out.row j (by omega)).lt q hq).2⟩
          have hq' : j < k → (X j).ownBlock = some q := fun hjk => by unfold upd at hq; rw [if_neg (by omega)] at hq; exact hq
          have := HS5.out.1
          refine ⟨fun h => ?_, fun h => ?_⟩
          · rcases HL5.out q h with h1 | h1
            · rcases hqs with ⟨_, h2, _⟩ | ⟨h2, h3⟩
              · have := HA4.out q h1; omega
              · exact (HG4.out.ax j h2 q (hq' h2)).1 h1
            · rcases hqs with ⟨_, _, h2⟩ | ⟨_, h2⟩ <;> omega
          · rcases hl6' q h with h1 | h1
            · rcases hqs with ⟨_, h2, _⟩ | ⟨h2, h3⟩
              · have := HA5.out q h1; omega
              · exact (HG4.out.ax j h2 q (hq' h2)).2 h1
            · rcases hqs with ⟨_, _, h2⟩ | ⟨_, h2⟩ <;> omega)
      have HB6 := Lib.hid (HB5.out.trans hb6)
      clear hown6 hg6 hb6 hl6 hm6 hl6' HO5 HP5 HR5 HV5 HL5 HB5 HBK5 HD HG4 HN4 HS4 HS5 HA4 HA5 HO4 HBK2
      go_wp2_with fail
      go_roundw
      case rel => exact ⟨k + 1, _, by omega, by go_num, HGN, HB6⟩
      case measure => simp [intOf]; omega
    · obtain rfl : k = y := by omega
      have hk1 : ((k : Int) < (k : Int)) = False := by simp
      have HBW : Hid (Below w.heap.size w wr) := Lib.hid (HB3.out.trans (HBB.out.mono (by rw [HBE.out]; exact HB3.out.size)))
      go_wp2_with fail
      refine bodyPost_ret (v := .tuple #[u12, u13, .bool true]) (by simp [results, Try.results22, go_sem]) rfl ?_
      exact QBPost.mk HY.out HGA.out HBW.out

def QBNo (w : World) (e : Ending) (w' : World) : Prop := e = .returned (.tuple #[.slice none 0 0, .slice none 0 0, .bool false]) ∧ Below w.heap.size w w'
set_option maxRecDepth 100000 in
set_option maxHeartbeats 3200000 in
theorem qrBlocks_no (n l m c : Nat) (h1 : 1 ≤ n) (h2 : n ≤ 40) (A : Option Addr) (raw : Nat → Nat) (hml : m < 1000000) (hm : m ≠ totOf n) (w : World) (hr : Rd w A m (fun j => .int .u8 (raw j : Nat))) :
    Calls Try.prog 22 #[.slice A m c, .int .i64 n, .int .i64 l] w (QBNo w) := by
  have HV := Lib.hid (getVer n h1 h2 w)
  have hneq : ∀ W, (binOp .neq 69 .nilIface .nilIface).run Try.prog W = .ok (.bool false) W := fun W => rfl
  have HG := Lib.hid (fun c p A W hv => getBlocks_no n l m c p A hm W hv)
  have HR := Lib.hid hr
  clear hr hm h1 h2
  go_enter Try.func22, Try.ntmps22
  go_wp2_with fail
  refine HV.out.mono ?_
  rintro e w1 ⟨p, rfl, hv, hb⟩
  have HVA := Lib.hid hv
  have HB1 := Lib.hid hb
  have HR1 := Lib.hid (HR.out.below hb)
  have hown : w1.ownsRow w1.heap.size 5 1 (.slice none 0 0) 0 [] := World.ownsRow_nil _ _ _ _
  clear hv hb HV
  go_wp2_with (at_builtin; refine wpList_copyTo _ _ 41 w1.heap.size 5 (.int .u8 0) 1 _ 0 [] _ _ _ _ rfl rfl rfl rfl Try.underlying41 Try.infoU8g rfl (fun j _ => rfl) (by decide) hown HR1.out (by omega) (Nat.le_refl _) ?_)
  intro v1 w2 hown1 hg1 hb1
  obtain ⟨A', c', rfl, hc', _, hr2⟩ := Rd.of_own hown1
  have HVA2 := Lib.hid (HVA.out.below hb1)
  have HB2 := Lib.hid (HB1.out.trans (hb1.mono HB1.out.size))
  clear hown hown1 hg1 hr2 hb1
  go_wp2_with fail
  refine (HG.out _ p A' w2 HVA2.out).mono ?_
  rintro e w3 ⟨v, rfl, ⟨b, rfl⟩, hb⟩
  have HB3 := Lib.hid (HB2.out.trans (hb.mono HB2.out.size))
  have hneq2 : ∀ W, (binOp .neq 69 (.iface 111 (.pointer (some ⟨b, 0, none⟩))) .nilIface).run Try.prog W = .ok (.bool true) W := fun W => run_neq_held_nil W _ _ _ errIface
  clear hb HG
  go_wp2_with fail
  refine bodyPost_ret (v := .tuple #[.slice none 0 0, .slice none 0 0, .bool false]) (by simp [results, Try.results22, go_sem]) rfl ⟨rfl, HB3.out⟩
end Go.Proofs.Ytpeipolknphjhaa
