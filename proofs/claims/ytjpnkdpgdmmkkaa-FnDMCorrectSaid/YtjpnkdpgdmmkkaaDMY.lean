/-
  Data Matrix: the reference's blocks and words of a symbol, walked. No condition beyond the bounds that each theorem states.
-/
import Derived.Test.YtjpnkdpgdmmkkaaDMX
import Derived.Deep.RegionHeld3
import Derived.BigRegion
namespace Go.Proofs.Ytjpnkdpgdmmkkaa
open Go.RowKit Go.Qz Go.Qz.RS Go.Qz.DM
set_option linter.unusedVariables false

/-- A size. -/
structure DS where
  rows : Nat
  cols : Nat
  rr : Nat
  rc : Nat
  dt : Nat
  er : Nat
  bl : Nat
def dcells (s : DS) : List Value := [.int .i64 s.rows, .int .i64 s.cols, .int .i64 s.rr, .int .i64 s.rc, .int .i64 s.dt, .int .i64 s.er, .int .i64 s.bl]
def dsv (s : DS) : Value := .agg #[.int .i64 s.rows, .int .i64 s.cols, .int .i64 s.rr, .int .i64 s.rc, .int .i64 s.dt, .int .i64 s.er, .int .i64 s.bl]
theorem dcellsOf {w : World} {b : Nat} {s : DS} (h : Arr w 24 b (dcells s)) : w.cell? ⟨b, 0, none⟩ = some (.int .i64 s.rows) ∧ w.cell? ⟨b, 1, none⟩ = some (.int .i64 s.cols) ∧ w.cell? ⟨b, 2, none⟩ = some (.int .i64 s.rr) ∧ w.cell? ⟨b, 3, none⟩ = some (.int .i64 s.rc) ∧ w.cell? ⟨b, 4, none⟩ = some (.int .i64 s.dt) ∧ w.cell? ⟨b, 5, none⟩ = some (.int .i64 s.er) ∧ w.cell? ⟨b, 6, none⟩ = some (.int .i64 s.bl) :=
  ⟨h.cell? 0, h.cell? 1, h.cell? 2, h.cell? 3, h.cell? 4, h.cell? 5, h.cell? 6⟩
theorem rem_runD (a b c : Int) (h0 : ¬ b = 0) (h : a.tmod b = c) (W : World) : (binOp .rem 3 (.int .i64 a) (.int .i64 b)).run Try.prog W = .ok (.int .i64 c) W := by
  rw [← h]
  show Sem.run _ _ _ = _
  simp [binOp, go_sem, h0]
def OwnU (w : World) (base : Nat) (v : Value) (l : List Nat) : Prop := w.ownsRow base 5 1 v l.length (u8s l)
theorem OwnU.rd {w : World} {base : Nat} {v : Value} {l : List Nat} (h : OwnU w base v l) : ∃ A c, v = .slice A l.length c ∧ l.length ≤ c ∧ Rd w A l.length (fun j => .int .u8 (nth l j : Nat)) := by
  obtain ⟨A, c, rfl, h1, h2, h3⟩ := Rd.of_own h
  refine ⟨A, c, rfl, h1, h3.congr fun j hj => ?_⟩
  rw [List.getD_eq_getElem?_getD, u8s_at hj]; rfl
theorem u8s_append (a b : List Nat) : u8s (a ++ b) = u8s a ++ u8s b := by simp [u8s]
theorem own_monoD {w : World} {b b' : Nat} {e : TypeId} {size : Nat} {v : Value} {n : Nat} {xs : List Value} (h : w.ownsRow b e size v n xs) (hb : b' ≤ b) : w.ownsRow b' e size v n xs := by
  obtain ⟨h1, h2⟩ := h
  refine ⟨h1, ?_⟩
  rcases h2 with h | ⟨g, cap, cur, h3, h4, h5⟩
  · exact .inl h
  · exact .inr ⟨g, cap, cur, h3, Nat.le_trans hb h4, h5⟩
def BlockPost (l : List Nat) (w : World) (e : Ending) (w' : World) : Prop := ∃ v, e = .returned v ∧ OwnU w' w.heap.size v l ∧ Below w.heap.size w w'

set_option maxRecDepth 100000 in
set_option maxHeartbeats 6400000 in
theorem dmBlock (s : DS) (hb : 0 < s.bl) (hb2 : s.bl ≤ 100) (l : List Nat) (n k : Nat) (hn : n = l.length) (hnl : n ≤ 5000) (hk : k ≤ 100) (A : Option Addr) (c : Nat) (w : World) (h : Rd w A n (fun j => .int .u8 (nth l j : Nat))) :
    Calls Try.prog 13 #[dsv s, .slice A n c, .int .i64 k] w (BlockPost (pick s.bl k l n) w) := by
  have HR := Lib.hid h
  have hA := Arr.new w 24 (dcells s)
  have hB0 : Below w.heap.size w (w.alloc (.cells (dcells s).toArray 24)) := (Below.refl _ _).alloc (Nat.le_refl _) _
  obtain ⟨E, hE⟩ : ∃ E, E = w.heap.size := ⟨_, rfl⟩
  obtain ⟨W0, hW0⟩ : ∃ W0, W0 = w.alloc (.cells (dcells s).toArray 24) := ⟨_, rfl⟩
  rw [← hW0, ← hE] at hA hB0
  unfold dcells at hW0
  have HA := Lib.hid hA
  have HB0 := Lib.hid hB0
  have hb0 : ¬ (s.bl : Int) = 0 := by omega
  have hb00 : ¬ s.bl = 0 := by omega
  clear h hA hB0 hn
  unfold dsv
  go_enter Try.func13, Try.ntmps13
  go_wp2_with fail
  rw [← hE]
  rw [show w.alloc (.cells #[.int .i64 s.rows, .int .i64 s.cols, .int .i64 s.rr, .int .i64 s.rc, .int .i64 s.dt, .int .i64 s.er, .int .i64 s.bl] 24) = W0 from hW0.symm]
  have HE := Lib.hid hE
  clear hW0 hE
  go_loopw [7, 12] (fun u i wr => ∃ q : Nat, q ≤ n ∧ i = .int .i64 q ∧ Hid (OwnU wr W0.heap.size u (pick s.bl k l q)) ∧ Hid (Below W0.heap.size W0 wr)) (fun _ i _ => n - (intOf i).toNat)
  case atStart => exact ⟨0, Nat.zero_le _, rfl, Lib.hid (World.ownsRow_nil _ _ _ _), Lib.hid (Below.refl _ _)⟩
  case round =>
    obtain ⟨q, hq, rfl, HO, HB⟩ := hrel
    obtain ⟨wi, hwi⟩ : ∃ wi, wi = wr := ⟨_, rfl⟩
    rw [← hwi] at HO HB ⊢
    clear hwi
    by_cases hlt : q < n
    · have hqi : (q : Int) < (n : Int) := by omega
      have hq0 : (0 : Int) ≤ (q : Int) := by omega
      have hbw : Below w.heap.size w wi := by
        have h5 := HB0.out.trans (HB.out.mono (Nat.le_of_lt HA.out.lt))
        rwa [HE.out] at h5
      obtain ⟨bb, bo, rfl, hbb, hbc⟩ := (HR.out.below hbw) (by omega)
      have cd := hbc q hlt
      dsimp only at cd
      obtain ⟨c0, c1, c2, c3, c4, c5, c6⟩ := dcellsOf (HA.out.below HB.out HA.out.lt)
      obtain ⟨r, hr⟩ : ∃ r, r = q % s.bl := ⟨_, rfl⟩
      have er : (q : Int).tmod (s.bl : Int) = (r : Int) := by rw [Int.tmod_eq_emod_of_nonneg (by omega), hr]; simp
      have er2 := fun W => rem_runD (q : Int) (s.bl : Int) (r : Int) hb0 er W
      have hps := pick_succ s.bl k l q
      rw [← hr] at hps
      have hpl := pick_len s.bl k l q
      have HS := Lib.hid hps
      have HPL := Lib.hid hpl
      obtain ⟨x, hx⟩ : ∃ x, x = nth l q := ⟨_, rfl⟩
      rw [← hx] at cd HS
      have hsz := HB.out.size
      have HSZ := Lib.hid hsz
      clear hr hps hbw hbb hbc hx c0 c1 c2 c3 c4 c5 hpl hsz
      by_cases he : r = k
      · have he1 : ((r : Int) == (k : Int)) = true := by simp; omega
        have HS2 := Lib.hid (HS.out.trans (if_pos he))
        subst he
        clear he1
        go_wp2_with (at_builtin; refine wpList_push _ _ 22 W0.heap.size 5 (.int .u8 0) 1 _ _ _ (.int .u8 x) rfl rfl rfl rfl Try.underlying22 Try.infoU8D rfl rfl (by decide) HO.out (by have := HPL.out; omega) HSZ.out ?_)
        intro v' w' hown' hg' hb'
        have HO3 : Hid (OwnU w' W0.heap.size v' (pick s.bl r l (q + 1))) := Lib.hid (by
          rw [HS2.out]
          unfold OwnU
          rw [u8s_append, List.length_append]
          exact hown')
        have HB3 : Hid (Below W0.heap.size W0 w') := Lib.hid (HB.out.trans hb')
        clear hown' hg' hb' HO HB
        go_wp2_with fail
        go_roundw
        case rel => exact ⟨q + 1, by omega, by go_num, HO3, HB3⟩
        case measure => simp [intOf]; omega
      · have he1 : ((r : Int) == (k : Int)) = false := by simp; omega
        have HO3 : Hid (OwnU wi W0.heap.size _ (pick s.bl k l (q + 1))) := Lib.hid (by rw [HS.out, if_neg he]; exact HO.out)
        clear he HO
        go_wp2_with fail
        go_roundw
        case rel => exact ⟨q + 1, by omega, by go_num, HO3, HB⟩
        case measure => simp [intOf]; omega
    · obtain rfl : q = n := by omega
      have hqi : ((q : Int) < (q : Int)) = False := by simp
      go_wp2_with fail
      go_ret
      exact ⟨_, rfl, by rw [← HE.out]; exact own_monoD HO.out (Nat.le_of_lt HA.out.lt), by
        have h5 := HB0.out.trans (HB.out.mono (Nat.le_of_lt HA.out.lt))
        rw [← HE.out]; exact h5⟩

def AllPost (n B Dt N : Nat) (data : List Nat) (w : World) (e : Ending) (w' : World) : Prop :=
  ∃ X, e = .returned (.slice (some ⟨X, 0, none⟩) N N) ∧ Arr w' 5 X (u8s (rowF N (co2 n B Dt data B 0))) ∧ w.heap.size ≤ X ∧ Below w.heap.size w w'
def SZ (W : World) (E : Nat) (s : DS) : Prop := W.cell? ⟨E, 0, none⟩ = some (.int .i64 s.rows) ∧ W.cell? ⟨E, 1, none⟩ = some (.int .i64 s.cols) ∧ W.cell? ⟨E, 2, none⟩ = some (.int .i64 s.rr) ∧ W.cell? ⟨E, 3, none⟩ = some (.int .i64 s.rc) ∧ W.cell? ⟨E, 4, none⟩ = some (.int .i64 s.dt) ∧ W.cell? ⟨E, 5, none⟩ = some (.int .i64 s.er) ∧ W.cell? ⟨E, 6, none⟩ = some (.int .i64 s.bl)

set_option maxRecDepth 100000 in
set_option maxHeartbeats 12800000 in
theorem dmAll (s : DS) (n m : Nat) (hb1 : 0 < s.bl) (hb2 : s.bl ≤ 10) (hdt : s.dt = s.bl * m) (her : s.er = s.bl * n) (hn1 : 0 < n) (hn : n ≤ 100) (hm : 0 < m) (hdl : s.dt ≤ 2000) (data : List Nat) (hl : data.length = s.dt) (hd : ∀ j, nth data j < 256) (A : Option Addr) (c : Nat) (w : World) (h : Rd w A s.dt (fun j => .int .u8 (nth data j : Nat))) :
    Calls Try.prog 7 #[dsv s, .slice A s.dt c] w (AllPost n s.bl s.dt (s.dt + s.er) data w) := by
  have HR := Lib.hid h
  have HD := Lib.hid hd
  have HLEN := Lib.hid hl
  have hA := Arr.new w 24 (dcells s)
  have hB0 : Below w.heap.size w (w.alloc (.cells (dcells s).toArray 24)) := (Below.refl _ _).alloc (Nat.le_refl _) _
  obtain ⟨E, hE⟩ : ∃ E, E = w.heap.size := ⟨_, rfl⟩
  obtain ⟨W0, hW0⟩ : ∃ W0, W0 = w.alloc (.cells (dcells s).toArray 24) := ⟨_, rfl⟩
  rw [← hW0, ← hE] at hA hB0
  unfold dcells at hW0
  have HA := Lib.hid hA
  have HB0 := Lib.hid hB0
  have HE := Lib.hid hE
  have hb0 : ¬ (s.bl : Int) = 0 := by omega
  have hb00 : ¬ s.bl = 0 := by omega
  have hers : s.er ≤ 1000 := by
    have := Nat.mul_le_mul hb2 hn
    omega
  obtain ⟨N, hN⟩ : ∃ N, N = s.dt + s.er := ⟨_, rfl⟩
  have hNi : (s.dt : Int) + (s.er : Int) = (N : Int) := by omega
  have hNb : N ≤ 3000 := by omega
  have hdN : s.dt ≤ N := by omega
  have HN := Lib.hid hN
  rw [← hN]
  have HDT := Lib.hid hdt
  have HER := Lib.hid her
  have hq1 : (s.er : Int).tdiv (s.bl : Int) = (n : Int) := by
    rw [Int.tdiv_eq_ediv_of_nonneg (by omega), her, Int.natCast_mul, Int.mul_ediv_cancel_left _ hb0]
  have hq2 : (s.er : Int) / (s.bl : Int) = (n : Int) := by rw [her, Int.natCast_mul, Int.mul_ediv_cancel_left _ hb0]
  have hmk := fun W => run_make1 (P := Try.prog) 22 5 (.int .u8 0) 1 Try.underlying22 Try.infoU8D rfl (by decide) N (by omega) .i64 .i64 (N : Int) rfl W
  obtain ⟨c0, c1, c2, c3, c4, c5, c6⟩ := dcellsOf HA.out
  clear h hd hl hA hB0 hdt her hN
  unfold dsv
  go_enter Try.func7, Try.ntmps7
  go_upto_region 2 with (fail)
  rw [← hE]
  rw [show w.alloc (.cells #[.int .i64 s.rows, .int .i64 s.cols, .int .i64 s.rr, .int .i64 s.rc, .int .i64 s.dt, .int .i64 s.er, .int .i64 s.bl] 24) = W0 from hW0.symm]
  have hs0 : W0.heap.size = E + 1 := by rw [hW0, hE]; simp
  obtain ⟨X, hX⟩ : ∃ X, X = E + 1 := ⟨_, rfl⟩
  rw [← hX]
  have hI := Arr.new W0 5 (List.replicate N (.int .u8 0))
  rw [hs0, ← hX] at hI
  have hbI : Below X W0 (W0.alloc (.cells (zeros N (.int .u8 0)) 5)) := by rw [hX, ← hs0]; exact (Below.refl _ _).alloc (Nat.le_refl _) _
  obtain ⟨W1, hW1⟩ : ∃ W1, W1 = W0.alloc (.cells (zeros N (.int .u8 0)) 5) := ⟨_, rfl⟩
  have hI2 : Arr W1 5 X (List.replicate N (.int .u8 0)) := by rw [hW1]; exact hI
  rw [← hW1] at hbI ⊢
  have HI := Lib.hid hI2
  have HA1 := Lib.hid (HA.out.below hbI (by omega))
  have HB1 : Hid (Below E w W1) := Lib.hid (HB0.out.trans (hbI.mono (by omega)))
  have hEX : E < X := by omega
  have hDpos : 0 < s.dt := by rw [HDT.out]; exact Nat.mul_pos hb1 hm
  obtain ⟨bb, bo, rfl, hbb, hbc⟩ := (HR.out.below (by rw [← HE.out]; exact HB1.out) : Rd W1 A s.dt _) hDpos
  have HCS : Hid (∀ j v, (u8s data)[j]? = some v → W1.cell? (Addr.add ⟨bb, bo, none⟩ j) = some v) := Lib.hid (fun j v hv => by
    have hj : j < data.length := by
      rcases Nat.lt_or_ge j data.length with h | h
      · exact h
      · rw [List.getElem?_eq_none (by simpa [u8s] using h)] at hv; cases hv
    rw [u8s_at hj] at hv
    rw [Addr.add_lit, hbc j (by rw [← HLEN.out]; exact hj)]
    exact hv)
  have HONE : Hid (∀ v ∈ u8s data, v.oneCell' = true) := Lib.hid (fun v hv => by obtain ⟨x, _, rfl⟩ := List.mem_map.1 hv; rfl)
  have HUL : Hid ((u8s data).length = s.dt) := Lib.hid (by simp [u8s, HLEN.out])
  clear hI hbI hI2 hW1 hW0 hs0 hbb hbc hX hE c0 c1 c2 c3 c4 c5 c6 hmk
  go_wp2_with (refine wpList_copy_mod rfl _ _ 22 22 rfl 5 Try.underlying22 (by kernel_rfl) _ _ _ _ _ _ rfl rfl X 0 (List.replicate N (.int .u8 0)) 5 HI.out (u8s data) (by rw [HUL.out]; exact (Nat.min_eq_left hdN).symm) (fun _ => ⟨rfl, _, rfl, HCS.out⟩) (by rw [HUL.out, List.length_replicate]; omega) HONE.out ?_)
  intro w2 HC2 HM2
  have HC3 : Hid (Arr w2 5 X (u8s (rowF N (co2 n s.bl s.dt data 0 0)))) := Lib.hid (by
    have e1 : splice (List.replicate N (Value.int .u8 0)) 0 (u8s data) = u8s (rowF N (co2 n s.bl s.dt data 0 0)) := by
      apply List.ext_getElem?
      intro j
      by_cases hj : j < N
      · rw [u8s_rowF hj, co2_zero]
        unfold splice
        rw [List.take_zero, List.nil_append, Nat.zero_add]
        by_cases hj2 : j < s.dt
        · rw [List.getElem?_append_left (by rw [HUL.out]; exact hj2), u8s_at (by rw [HLEN.out]; exact hj2), if_pos hj2]
        · rw [List.getElem?_append_right (by rw [HUL.out]; omega), if_neg hj2, List.getElem?_drop, HUL.out]
          rw [List.getElem?_replicate, if_pos (by omega)]; rfl
      · rw [List.getElem?_eq_none (by unfold splice; simp [HUL.out]; omega), List.getElem?_eq_none (by simp [u8s, rowF_length]; omega)]
    rw [← e1]; exact HC2.out)
  have HAE : Hid (Arr w2 24 E (dcells s)) := Lib.hid (HA1.out.mod HM2.out (fun h => by have h : E = X := h; omega))
  have HB2 : Hid (Below E w w2) := Lib.hid (HB1.out.trans (HM2.out.below (by have := HI.out.lt; omega) (fun k hk => by have hk : k = X := hk; omega)))
  obtain ⟨c0, c1, c2, c3, c4, c5, c6⟩ := dcellsOf HAE.out
  rw [HUL.out]
  clear HC2 HM2 HI HCS HONE HA1 HB1
  go_wp2_with fail
  go_loopw [21] (fun i wr => ∃ b : Nat, b ≤ s.bl ∧ i = .int .i64 b ∧ Hid (Arr wr 5 X (u8s (rowF N (co2 n s.bl s.dt data b 0)))) ∧ Hid (Arr wr 24 E (dcells s)) ∧ Hid (Below E w wr)) (fun i _ => s.bl - (intOf i).toNat)
  case atStart => exact ⟨0, Nat.zero_le _, rfl, HC3, HAE, HB2⟩
  case round =>
    obtain ⟨b, hb, rfl, HC, HA, HB⟩ := hrel
    clear HC3 HAE HB2 c0 c1 c2 c3 c4 c5 c6
    obtain ⟨wi, hwi⟩ : ∃ wi, wi = wr := ⟨_, rfl⟩
    rw [← hwi] at HC HA HB ⊢
    clear hwi
    by_cases hlt : b < s.bl
    · have hbi : (b : Int) < (s.bl : Int) := by omega
      have hXl := HC.out.lt
      have hDN2 : (s.dt : Int) ≤ (N : Int) := by omega
      have hD0 : (0 : Int) ≤ (s.dt : Int) := by omega
      have hwq : IntKind.i64.wrap ((s.er : Int) / (s.bl : Int)) = (n : Int) := by rw [hq2, IntKind.wrap_i64]; omega
      have hwn : IntKind.i64.wrap (n : Int) = (n : Int) := by rw [IntKind.wrap_i64]; omega
      obtain ⟨P, hP⟩ : ∃ P, P = pick s.bl b data s.dt := ⟨_, rfl⟩
      have hPe : P = every s.bl b data m := by rw [hP, HDT.out, pick_every hlt]
      have hPl : P.length = m := by rw [hPe, every_len]
      have hPd : ∀ j, nth P j < 256 := fun j => D_el (fun i hi => by
        rw [hPe] at hi ⊢
        unfold every at hi ⊢
        rw [nth_map_range _ _ _ (by simpa using hi)]
        exact HD.out _) j
      have hmb : m ≤ 2000 := by
        have h5 := HDT.out
        have h6 : 1 * m ≤ s.bl * m := Nat.mul_le_mul_right m hb1
        omega
      have keep : ∀ W W' : World, (SZ W E s ∧ Hid (Below wi.heap.size wi W)) → Below W.heap.size W W' → (SZ W' E s ∧ Hid (Below wi.heap.size wi W')) := fun W W' hW hb => by
        have hB : Below wi.heap.size wi W' := hW.2.out.trans (hb.mono hW.2.out.size)
        exact ⟨dcellsOf (HA.out.below hB HA.out.lt), Lib.hid hB⟩
      have hrdX : Rd wi (some ⟨X, 0, none⟩) s.dt (fun j => .int .u8 (nth data j : Nat)) := fun _ => ⟨X, 0, rfl, hXl, fun j hj => by
        rw [Nat.zero_add, HC.out.cell?, u8s_rowF (by omega)]
        unfold co2
        rw [if_pos hj]⟩
      have HX := fun (W : World) (hW : SZ W E s ∧ Hid (Below wi.heap.size wi W)) =>
        (dmBlock s hb1 (by omega) data s.dt b HLEN.out.symm (by omega) (by omega) (some ⟨X, 0, none⟩) N W (hrdX.below hW.2.out)).mono (R' := fun e w' => ∃ (A1 : Option Addr) (c1 : Nat), e = .returned (.slice A1 m c1) ∧ Hid (Rd w' A1 m (fun j => .int .u8 (nth P j : Nat))) ∧ (SZ w' E s ∧ Hid (Below wi.heap.size wi w'))) (by
          rintro e w' ⟨v, rfl, hO, hbe⟩
          rw [← hP] at hO
          obtain ⟨A1, c1, rfl, _, hr1⟩ := hO.rd
          rw [hPl] at hr1 ⊢
          exact ⟨A1, c1, rfl, Lib.hid hr1, keep W w' hW hbe⟩)
      have HY := fun (W : World) (hW : SZ W E s ∧ Hid (Below wi.heap.size wi W)) (A1 : Option Addr) (c1 : Nat) (hp1 : Rd W A1 m (fun j => .int .u8 (nth P j : Nat))) =>
        (dmCheck P n hPd hn m hPl.symm (by omega) A1 c1 W hp1).mono (R' := fun e w' => ∃ CB, e = .returned (.slice (some ⟨CB, 0, none⟩) n n) ∧ Hid (Arr w' 5 CB (u8s (dchk n s.bl s.dt data b)) ∧ W.heap.size ≤ CB) ∧ (SZ w' E s ∧ Hid (Below wi.heap.size wi w'))) (by
          rintro e w' ⟨CB, rfl, hC, hcb, hbe⟩
          exact ⟨CB, rfl, Lib.hid ⟨by unfold dchk; rw [← hP]; exact hC, hcb⟩, keep W w' hW hbe⟩)
      unfold dsv at HX
      unfold SZ at HX HY
      have HX := Lib.hid HX
      have HY := Lib.hid HY
      have hs0 := keep wi wi.drew ⟨dcellsOf HA.out, Lib.hid (Below.refl _ _)⟩ (Below.refl _ _).drew
      unfold SZ at hs0
      obtain ⟨c0, c1, c2, c3, c4, c5, c6⟩ := dcellsOf HA.out
      clear hP hPe hPl hPd keep hrdX
      go_wp2_with fail
      go_region_held3 (fun w' => (w'.cell? ⟨E, 0, none⟩ = some (.int .i64 s.rows) ∧ w'.cell? ⟨E, 1, none⟩ = some (.int .i64 s.cols) ∧ w'.cell? ⟨E, 2, none⟩ = some (.int .i64 s.rr) ∧ w'.cell? ⟨E, 3, none⟩ = some (.int .i64 s.rc) ∧ w'.cell? ⟨E, 4, none⟩ = some (.int .i64 s.dt) ∧ w'.cell? ⟨E, 5, none⟩ = some (.int .i64 s.er) ∧ w'.cell? ⟨E, 6, none⟩ = some (.int .i64 s.bl)) ∧ Hid (Below wi.heap.size wi w'))
        (first | exact hs0 | exact hs3 | exact hs4)
        (first | (go_at_call 13; refine (HX.out _ (by assumption)).mono ?_; rintro e w3 ⟨A1, c1, rfl, hp1, hs3⟩) | (go_at_call 12; refine (HY.out _ (by assumption) _ _ (by exact hp1.out)).mono ?_; rintro e w4 ⟨CB, rfl, hp2, hs4⟩))
      all_goals
        have HBW : Hid (Below wi.heap.size wi w4) := hs4.2
        have HA4 := Lib.hid (HA.out.below HBW.out HA.out.lt)
        have HC4 := Lib.hid (HC.out.below HBW.out HC.out.lt)
        have HB4 : Hid (Below E w w4) := Lib.hid (HB.out.trans (HBW.out.mono (by have := HA.out.lt; omega)))
        have HCK := Lib.hid hp2.out.1
        have hCX : CB ≠ X := by
          have h5 := hp2.out.2
          have h6 := hs3.2.out.size
          omega
        have HKL : Hid ((dchk n s.bl s.dt data b).length = n) := Lib.hid (by unfold dchk; exact lfs_length _ _ _)
        obtain ⟨c0, c1, c2, c3, c4, c5, c6⟩ := dcellsOf HA4.out
        clear hs0 hs3 hs4 hp1 hp2 HX HY HA HC HB hXl
        go_wp2_with fail
        go_loopw [8, 9] (fun kk i wr => ∃ (k e : Nat), e ≤ s.er ∧ kk = .int .i64 k ∧ i = .int .i64 ((s.dt + e : Nat) : Int) ∧ Hid (e ≤ s.bl * k + b ∧ s.bl * k + b < e + s.bl) ∧ Hid (Arr wr 5 X (u8s (rowF N (co2 n s.bl s.dt data b e)))) ∧ Hid (Mod (· = X) w4 wr)) (fun _ i _ => N - (intOf i).toNat)
        case atStart => exact ⟨0, 0, Nat.zero_le _, rfl, rfl, Lib.hid ⟨by omega, by omega⟩, HC4, Lib.hid (Mod.refl _)⟩
        case round =>
          obtain ⟨k, e, he, rfl, rfl, HKE, HC, HM⟩ := hrel
          obtain ⟨wj, hwj⟩ : ∃ wj, wj = wr := ⟨_, rfl⟩
          rw [← hwj] at HC HM ⊢
          clear hwj
          obtain ⟨de, hde⟩ : ∃ de, de = s.dt + e := ⟨_, rfl⟩
          rw [← hde]
          by_cases hlt2 : e < s.er
          · have hdN3 : de < N := by omega
            have hdi : (de : Int) < (N : Int) := by omega
            have hd0 : (0 : Int) ≤ (de : Int) := by omega
            have hEX2 : E ≠ X := by omega
            obtain ⟨c0, c1, c2, c3, c4, c5, c6⟩ := dcellsOf (HA4.out.mod HM.out hEX2)
            have hmod : de % s.bl = e % s.bl := by rw [hde, HDT.out, Nat.mul_add_mod]
            obtain ⟨r, hr⟩ : ∃ r, r = e % s.bl := ⟨_, rfl⟩
            have er : (de : Int).tmod (s.bl : Int) = (r : Int) := by rw [Int.tmod_eq_emod_of_nonneg (by omega), hr, ← hmod]; simp
            have er2 := fun W => rem_runD (de : Int) (s.bl : Int) (r : Int) hb0 er W
            have HDE := Lib.hid hde
            have HRR := Lib.hid hr
            have hkb : k < 3000 := by
              have h5 := HKE.out.2
              have h6 : 1 * k ≤ s.bl * k := Nat.mul_le_mul_right k hb1
              omega
            clear hmod hde hr c0 c1 c2 c3 c4 c5
            by_cases hrb : r = b
            · have hk := kth hlt HKE.out.1 HKE.out.2 (by rw [← HRR.out]; exact hrb)
              have hkn : k < n := by
                rw [hk]
                exact Nat.div_lt_of_lt_mul (by rw [← HER.out]; exact hlt2)
              have hkn1 : (k : Int) < (n : Int) := by omega
              have hk0 : (0 : Int) ≤ (k : Int) := by omega
              have ck := (HCK.out.mod HM.out hCX).cell? k
              rw [u8s_at (by rw [HKL.out]; exact hkn)] at ck
              have hat := co2_at n s.bl s.dt data b e (by rw [← HRR.out]; exact hrb)
              rw [← hk] at hat
              obtain ⟨x, hx⟩ : ∃ x, x = nth (dchk n s.bl s.dt data b) k := ⟨_, rfl⟩
              rw [← hx] at ck hat
              have cx := HC.out.cell? de
              rw [u8s_rowF hdN3] at cx
              obtain ⟨old, hold⟩ : ∃ old, old = co2 n s.bl s.dt data b e de := ⟨_, rfl⟩
              rw [← hold] at cx
              have hf := HC.out.free de
              have HC6 : Hid (Arr (wj.setCell ⟨X, de, none⟩ (.int .u8 x)) 5 X (u8s (rowF N (co2 n s.bl s.dt data b (e + 1))))) := Lib.hid (by
                rw [← u8s_setF (f := co2 n s.bl s.dt data b e) (g := co2 n s.bl s.dt data b (e + 1)) (i := de) (v := x) hdN3 (by rw [HDE.out]; exact hat) (fun j _ hj => co2_next _ _ _ _ _ _ _ (.inl (by rw [← HDE.out]; exact hj)))]
                exact HC.out.set_ de _)
              have HM6 : Hid (Mod (· = X) w4 (wj.setCell ⟨X, de, none⟩ (.int .u8 x))) := Lib.hid (HM.out.setCell (p := ⟨X, de, none⟩) (.inl rfl) _)
              have HKE2 : Hid (e + 1 ≤ s.bl * (k + 1) + b ∧ s.bl * (k + 1) + b < e + 1 + s.bl) := Lib.hid (by
                have h5 := HKE.out
                have h6 := Nat.div_add_mod e s.bl
                rw [← hk, ← HRR.out, hrb] at h6
                rw [Nat.mul_succ]
                omega)
              have hrb1 : ((r : Int) == (b : Int)) = true := by simp; omega
              subst hrb
              clear hk hat hx hold HC HM hrb1
              go_wp2_with fail
              go_roundw
              case rel => exact ⟨k + 1, e + 1, by omega, by go_num, by have := HDE.out; rw [← Nat.add_assoc, ← this]; go_num, HKE2, HC6, HM6⟩
              case measure => simp [intOf]; omega
            · have hrb1 : ((r : Int) == (b : Int)) = false := by simp; omega
              have HC6 : Hid (Arr wj 5 X (u8s (rowF N (co2 n s.bl s.dt data b (e + 1))))) := Lib.hid (by
                rw [rowF_congr (g := co2 n s.bl s.dt data b e) (fun j _ => (co2_next _ _ _ _ _ _ _ (.inr (by rw [← HRR.out]; exact hrb))).symm)]
                exact HC.out)
              have HKE2 : Hid (e + 1 ≤ s.bl * k + b ∧ s.bl * k + b < e + 1 + s.bl) := Lib.hid ⟨kth_not hlt HKE.out.1 (by rw [← HRR.out]; exact hrb), by have := HKE.out.2; omega⟩
              clear hrb HC
              go_wp2_with fail
              go_roundw
              case rel => exact ⟨k, e + 1, by omega, rfl, by have := HDE.out; rw [← Nat.add_assoc, ← this]; go_num, HKE2, HC6, HM⟩
              case measure => simp [intOf]; omega
          · have hee : e = s.er := by omega
            have hdN3 : de = N := by omega
            have hdi : ((de : Int) < (N : Int)) = False := by simp; omega
            have HC6 : Hid (Arr wj 5 X (u8s (rowF N (co2 n s.bl s.dt data (b + 1) 0)))) := Lib.hid (by
              rw [rowF_congr (g := co2 n s.bl s.dt data b e) (fun j hj => (by rw [hee]; exact (co2_all _ _ _ _ _ _ _ (by rw [← HN.out]; exact hj)).symm))]
              exact HC.out)
            have HA6 : Hid (Arr wj 24 E (dcells s)) := Lib.hid (HA4.out.mod HM.out (fun h => by have h : E = X := h; omega))
            have HB6 : Hid (Below E w wj) := Lib.hid (HB4.out.trans (HM.out.below (by have := HA4.out.lt; omega) (fun j hj => by have hj : j = X := hj; omega)))
            clear hde hee hdN3 HC HM HC4 HA4
            go_wp2_with fail
            go_roundw
            case rel => exact ⟨b + 1, by omega, by go_num, HC6, HA6, HB6⟩
            case measure => simp [intOf]; omega
    · obtain rfl : b = s.bl := by omega
      have hbi : ((s.bl : Int) < (s.bl : Int)) = False := by simp
      go_wp2_with fail
      go_ret
      exact ⟨X, rfl, HC.out, by rw [← HE.out]; omega, by rw [← HE.out]; exact HB.out⟩
end Go.Proofs.Ytjpnkdpgdmmkkaa
