/-
  Data Matrix: ErrorCorrection_EncodeECC200, walked. No condition beyond the bounds that the theorem states.
-/
import Derived.Test.YtjpnkdpgdmmkkaaDMT
import Derived.Test.YtjpnkdpgdmmkkaaDMG
import Derived.StillTailTactics
namespace Go.Proofs.Ytjpnkdpgdmmkkaa
open Go.RowKit Go.Qz Go.Qz.RS Go.Qz.DM
set_option linter.unusedVariables false

/-- 'append(s, x...)' with room, s in a row that is known whole. -/
theorem wpList_append_arr {P : Program} {w : World} {ops : Array Oper} {rest : List Oper} {o : Oper} {a : Act} {Q : Exit → Act → World → Prop} (hgd : o.guard = none) (s x : Operand) (t : TypeId)
    (ho : o.op = .call { callee := .builtin .append, args := #[s, x], argTypes := #[t, t] }) (e : TypeId) (z : Value) (bytes : Nat) (ht : P.underlying t = some (.slice e)) (hi : (P.info? e).map (fun i => (i.zero, i.size, i.bytes)) = some (some z, 1, bytes))
    (g n cap : Nat) (cur : List Value) (hs : a.eval s = .slice (some ⟨g, 0, none⟩) n cap) (hg : Arr w e g cur) (ad : Addr) (m c : Nat) (news : List Value) (hx : a.eval x = .slice (some ad) m c) (hl : news.length = m)
    (hnews : ∀ j u, news[j]? = some u → w.cell? (ad.add j) = some u) (h1 : ∀ u ∈ news, u.oneCell' = true) (hroom : n + m ≤ cap) (hfit : n + m ≤ cur.length)
    (h : ∀ w', Hid (Arr w' e g (cur.take n ++ (news ++ cur.drop (n + m)))) → Hid (Mod (· = g) w w') → wpList P ops Q rest (a.put o.dst (.slice (some ⟨g, 0, none⟩) (n + m) cap)) w') : wpList P ops Q (o :: rest) a w := by
  obtain ⟨i0, hi, hz0, hz1, hz2⟩ := info_parts hi
  refine wpList_plain hgd fun K hK => ?_
  have hr := run_append_room (P := P) w t o.type e i0 ht hi g n cap cur.toArray hg ad m c news (by rw [hz1, Nat.mul_one]; exact hl) hnews h1 hroom (by rw [hz1, Nat.mul_one, hl]; simpa using hfit)
  unfold Oper.wp execOp
  simp only [ho, resolve, invoke, builtin, Sem.run_bind, Sem.run_pure, Result.andThen_ok, List.map_toArray, List.map_cons, List.map_nil, hs, hx, hr]
  refine hK _ _ (h _ (Lib.hid ?_) (Lib.hid (Mod.setRow _ _ _)))
  have e := setRow_heap w g cur.toArray (cur.toArray.toList.take (n * i0.size) ++ news ++ cur.toArray.toList.drop (n * i0.size + news.length)).toArray _ _ hg
  unfold Arr
  rw [e]
  simp [hz1, hl, List.append_assoc]
theorem u8s_src {w : World} {data : List Nat} {bb bo : Nat} (h : ∀ j, j < data.length → w.cell? ⟨bb, bo + j, none⟩ = some (.int .u8 (nth data j : Nat))) : ∀ j u, (u8s data)[j]? = some u → w.cell? (Addr.add ⟨bb, bo, none⟩ j) = some u := fun j u hu => by
  have hj : j < data.length := by
    rcases Nat.lt_or_ge j data.length with h | h
    · exact h
    · rw [List.getElem?_eq_none (by simpa [u8s] using h)] at hu; cases hu
  rw [u8s_at hj] at hu
  rw [Addr.add_lit, h j hj]
  exact hu
theorem u8s_one (l : List Nat) : ∀ v ∈ u8s l, v.oneCell' = true := fun v hv => by obtain ⟨x, _, rfl⟩ := List.mem_map.1 hv; rfl
theorem u8s_len (l : List Nat) : (u8s l).length = l.length := by simp [u8s]
theorem list_ext8 {N : Nat} {f : Nat → Nat} {l : List Value} (hl : l.length = N) (h : ∀ j, j < N → l[j]? = some (.int .u8 (f j : Nat))) : l = u8s (rowF N f) := by
  apply List.ext_getElem?
  intro j
  by_cases hj : j < N
  · rw [h j hj, u8s_rowF hj]
  · rw [List.getElem?_eq_none (by omega), List.getElem?_eq_none (by simp [u8s, rowF_length]; omega)]
theorem co2_jump (n B Dt : Nat) (data : List Nat) (b k j : Nat) (hb : b < B) (h : j ≠ Dt + (B * k + b)) : co2 n B Dt data b (B * k) j = co2 n B Dt data b (B * (k + 1)) j := by
  unfold co2
  by_cases h1 : j < Dt
  · rw [if_pos h1, if_pos h1]
  · rw [if_neg h1, if_neg h1]
    have hd := Nat.div_add_mod (j - Dt) B
    have hiff : ((j - Dt) % B < b ∨ ((j - Dt) % B = b ∧ j - Dt < B * k)) ↔ ((j - Dt) % B < b ∨ ((j - Dt) % B = b ∧ j - Dt < B * (k + 1))) := by
      constructor
      · intro h2
        rcases h2 with h2 | ⟨h2, h3⟩
        · exact .inl h2
        · exact .inr ⟨h2, by rw [Nat.mul_succ]; omega⟩
      · intro h2
        rcases h2 with h2 | ⟨h2, h3⟩
        · exact .inl h2
        · right
          refine ⟨h2, ?_⟩
          rw [h2] at hd
          have h4 : B * ((j - Dt) / B) < B * (k + 1) := by omega
          have h5 := Nat.lt_of_mul_lt_mul_left h4
          have h6 : (j - Dt) / B ≠ k := fun e => h (by rw [e] at hd; omega)
          have h7 : B * ((j - Dt) / B + 1) ≤ B * k := Nat.mul_le_mul_left B (by omega)
          rw [Nat.mul_succ] at h7
          omega
    by_cases h2 : (j - Dt) % B < b ∨ ((j - Dt) % B = b ∧ j - Dt < B * k)
    · rw [if_pos h2, if_pos (hiff.1 h2)]
    · rw [if_neg h2, if_neg (fun h3 => h2 (hiff.2 h3))]
theorem co2_land (n B Dt : Nat) (data : List Nat) (b k : Nat) (hb : b < B) : co2 n B Dt data b (B * (k + 1)) (Dt + (B * k + b)) = nth (dchk n B Dt data b) k := by
  unfold co2
  have h1 : (B * k + b) % B = b := by rw [Nat.mul_add_mod, Nat.mod_eq_of_lt hb]
  have h2 : (B * k + b) / B = k := by rw [Nat.mul_add_div (by omega), Nat.div_eq_of_lt hb, Nat.add_zero]
  rw [if_neg (by omega), Nat.add_sub_cancel_left, h1, h2, if_pos (.inr ⟨rfl, by rw [Nat.mul_succ]; omega⟩)]
theorem pick_one (data : List Nat) : pick 1 0 data data.length = data := by
  have h := pick_every (show 0 < 1 by omega) data data.length
  rw [Nat.one_mul] at h
  rw [h]
  unfold every
  have h2 := rowF_list data
  unfold rowF at h2
  conv => rhs; rw [← h2]
  exact List.map_congr_left fun t _ => by rw [Nat.one_mul, Nat.add_zero]
theorem dm_one (n : Nat) (data : List Nat) : data ++ lfs n (gd n) data = rowF (data.length + n) (co2 n 1 data.length data 1 0) := by
  apply List.ext_getElem
  · rw [List.length_append, lfs_length, rowF_length]
  · intro j h1 h2
    have hj : j < data.length + n := by rw [rowF_length] at h2; exact h2
    have e : (rowF (data.length + n) (co2 n 1 data.length data 1 0))[j] = co2 n 1 data.length data 1 0 j := by rw [← nth_eq h2, rowF_nth hj]
    rw [e, ← nth_eq h1, nth_append]
    unfold co2
    by_cases h3 : j < data.length
    · rw [if_pos h3, if_pos h3]
    · rw [if_neg h3, if_neg h3, Nat.mod_one, Nat.div_one, if_pos (.inl (by omega))]
      unfold dchk
      rw [pick_one]

def EncPost (n B Dt N : Nat) (data : List Nat) (w : World) (en : Ending) (w' : World) : Prop :=
  ∃ X, en = .returned (.tuple #[.slice (some ⟨X, 0, none⟩) N N, .nilIface]) ∧ Arr w' 5 X (u8s (rowF N (co2 n B Dt data B 0))) ∧ Below w.heap.size w w'

set_option maxRecDepth 100000 in
set_option maxHeartbeats 12800000 in
theorem dmEncode (data : List Nat) (Dt er0 B m n t1 p : Nat) (r : Bool) (hB1 : 0 < B) (hB2 : B ≤ 10) (hm : 0 < m) (hDt : Dt = B * m) (her : er0 = B * n) (hdl : Dt ≤ 2000) (hn2 : 2 ≤ n) (hn100 : n ≤ 100) (ht1 : t1 < 16) (hn : n = nth facN t1) (hmin : ∀ t, t < t1 → nth facN t ≠ n)
    (hl : data.length = Dt) (hd : ∀ j, nth data j < 256) (A : Option Addr) (c : Nat) (w : World) (hS : SymA w p r Dt er0 m n) (h : Rd w A Dt (fun j => .int .u8 (nth data j : Nat))) :
    Calls Try.prog 11 #[.slice A Dt c, .pointer (some ⟨p, 0, none⟩)] w (EncPost n B Dt (Dt + er0) data w) := by
  have HR := Lib.hid h
  have HD := Lib.hid hd
  have HLEN := Lib.hid hl
  have HSY := Lib.hid hS
  have hDpos : 0 < Dt := by rw [hDt]; exact Nat.mul_pos hB1 hm
  have hers : er0 ≤ 1000 := by
    have := Nat.mul_le_mul hB2 hn100
    omega
  obtain ⟨N, hN⟩ : ∃ N, N = Dt + er0 := ⟨_, rfl⟩
  have hNi : (Dt : Int) + (er0 : Int) = (N : Int) := by omega
  have hNb : N ≤ 3000 := by omega
  have HN := Lib.hid hN
  rw [← hN]
  have hdiv : Dt / m = B := by rw [hDt, Nat.mul_div_cancel _ hm]
  have HCAP := Lib.hid (fun W hW => symCap W p r Dt er0 m n hW)
  have HERR := Lib.hid (fun W hW => symErr W p r Dt er0 m n hW)
  have HBLK := Lib.hid (fun W hW => symBl W p r Dt er0 m n B hm (by omega) hdiv hW)
  have HLN := Lib.hid (fun W i hW => symLen W p r Dt er0 m n i hW)
  have HEL := Lib.hid (fun W i hW => symErrLen W p r Dt er0 m n i hW)
  have HECC := Lib.hid (fun dat L hL hl hdd A c W hr => dmEcc dat t1 n ht1 hn hmin hn2 hn100 hdd L hL hl A c W hr)
  have hmk := fun W => run_make0 (P := Try.prog) 22 5 (.int .u8 0) 1 Try.underlying22 Try.infoU8D rfl (by decide) N (by omega) .i64 .i64 (N : Int) rfl W
  have HDT := Lib.hid hDt
  have HER := Lib.hid her
  have hnEq : ((Dt : Int) != (Dt : Int)) = false := by simp
  clear h hd hl hS hN hdiv ht1 hn hmin hDt her
  go_enter Try.func11, Try.ntmps11
  go_wp2_with fail
  refine (HCAP.out w HSY.out).mono ?_
  rintro en w1 ⟨rfl, rfl⟩
  go_wp2_with fail
  refine (HCAP.out w HSY.out).mono ?_
  rintro en w1 ⟨rfl, rfl⟩
  go_wp2_with fail
  refine (HERR.out w HSY.out).mono ?_
  rintro en w1 ⟨rfl, rfl⟩
  go_upto_region 4 with (fail)
  have hI := Arr.new w 5 (List.replicate N (.int .u8 0))
  have hbI : Below w.heap.size w (w.alloc (.cells (zeros N (.int .u8 0)) 5)) := (Below.refl _ _).alloc (Nat.le_refl _) _
  obtain ⟨W1, hW1⟩ : ∃ W1, W1 = w.alloc (.cells (zeros N (.int .u8 0)) 5) := ⟨_, rfl⟩
  have hI2 : Arr W1 5 w.heap.size (List.replicate N (.int .u8 0)) := by rw [hW1]; exact hI
  rw [← hW1] at hbI ⊢
  obtain ⟨X, hX⟩ : ∃ X, X = w.heap.size := ⟨_, rfl⟩
  rw [← hX] at hI2 hbI ⊢
  have HI := Lib.hid hI2
  have HBI := Lib.hid hbI
  have HX := Lib.hid hX
  have hpX : p < X := by rw [hX]; exact HSY.out.lt
  have HS1 := Lib.hid (HSY.out.below (by rw [← hX]; exact hbI))
  obtain ⟨bb, bo, rfl, hbb, hbc⟩ := (HR.out.below (by rw [← hX]; exact hbI) : Rd W1 A Dt _) hDpos
  have HCS := Lib.hid (u8s_src (data := data) (w := W1) (bb := bb) (bo := bo) (fun j hj => hbc j (by rw [← HLEN.out]; exact hj)))
  have hDN : Dt ≤ N := by omega
  clear hI hbI hW1 hI2 hX hbb hbc hmk
  go_wp2_with (refine wpList_append_arr rfl _ _ 22 rfl 5 (.int .u8 0) 1 Try.underlying22 Try.infoU8D X 0 N (List.replicate N (.int .u8 0)) rfl HI.out _ _ _ (u8s data) rfl (by rw [u8s_len, HLEN.out]) HCS.out (u8s_one data) (by omega) (by rw [List.length_replicate]; omega) ?_)
  intro w2 HC2 HM2
  have HC3 : Hid (Arr w2 5 X (u8s (rowF N (co2 n B Dt data 0 0)))) := Lib.hid (by
    rw [← list_ext8 (N := N) (f := co2 n B Dt data 0 0) (l := u8s data ++ List.replicate (N - Dt) (Value.int .u8 0)) (by simp [u8s_len, HLEN.out]; omega) (fun j hj => by
      rw [co2_zero]
      by_cases hj2 : j < Dt
      · rw [List.getElem?_append_left (by rw [u8s_len, HLEN.out]; exact hj2), u8s_at (by rw [HLEN.out]; exact hj2), if_pos hj2]
      · rw [List.getElem?_append_right (by rw [u8s_len, HLEN.out]; omega), if_neg hj2, u8s_len, HLEN.out, List.getElem?_replicate, if_pos (by omega)]; rfl)]
    exact HC2.out)
  have HS2 := Lib.hid (HS1.out.mod HM2.out (fun h => by have h : p = X := h; omega))
  have HB2 : Hid (Below w.heap.size w w2) := Lib.hid (by rw [← HX.out]; exact HBI.out.trans (HM2.out.below (by have := HI.out.lt; omega) (fun k hk => by have hk : k = X := hk; omega)))
  clear HC2 HM2 HI HCS HS1 HBI
  go_wp2_with fail
  refine (HBLK.out w2 HS2.out).mono ?_
  rintro en w3 ⟨rfl, hb3⟩
  have HC4 := Lib.hid (HC3.out.below hb3 HC3.out.lt)
  have HS4 := Lib.hid (HS2.out.below hb3)
  have HB4 := Lib.hid (HB2.out.trans (hb3.mono HB2.out.size))
  clear hb3 HC3 HS2 HB2
  by_cases hB : B = 1
  · subst hB
    have hen : er0 = n := by rw [HER.out, Nat.one_mul]
    have hNe : Dt + n = N := by omega
    have HEN := Lib.hid hen
    have hE1 := HERR.out w3 HS4.out
    rw [hen] at hE1
    have HE1 := Lib.hid hE1
    have HEC := Lib.hid (HECC.out data Dt HLEN.out.symm (by omega) HD.out (some ⟨bb, bo, none⟩) c w3 (HR.out.below HB4.out))
    have hXl := HC4.out.lt
    clear hen hE1 HERR
    go_wp2_with fail
    refine HE1.out.mono ?_
    rintro en w4 ⟨rfl, rfl⟩
    go_wp2_with fail
    refine HEC.out.mono ?_
    rintro en w4 ⟨EB, rfl, hEA, hEB, hb4⟩
    have HC5 := Lib.hid (HC4.out.below hb4 hXl)
    have HB5 := Lib.hid (HB4.out.trans (hb4.mono HB4.out.size))
    have HEA := Lib.hid hEA
    have HELN : Hid ((lfs n (gd n) data).length = n) := Lib.hid (lfs_length _ _ _)
    have HCS := Lib.hid (u8s_src (data := lfs n (gd n) data) (w := w4) (bb := EB) (bo := 0) (fun j hj => by rw [Nat.zero_add, HEA.out.cell?, u8s_at hj]))
    have HXW : Hid (w.heap.size ≤ X) := Lib.hid (by rw [HX.out]; exact Nat.le_refl _)
    clear hEA hEB hb4 HC4 HB4 HEC HE1
    go_wp2_with (refine wpList_append_arr rfl _ _ 22 rfl 5 (.int .u8 0) 1 Try.underlying22 Try.infoU8D X Dt N (u8s (rowF N (co2 n 1 Dt data 0 0))) rfl HC5.out _ _ _ (u8s (lfs n (gd n) data)) rfl (by rw [u8s_len, HELN.out]) HCS.out (u8s_one _) (by omega) (by rw [u8s_len, rowF_length]; omega) ?_)
    intro w5 HC6 HM6
    have HC7 : Hid (Arr w5 5 X (u8s (rowF N (co2 n 1 Dt data 1 0)))) := Lib.hid (by
      have e1 : (u8s (rowF N (co2 n 1 Dt data 0 0))).take Dt = u8s data := by
        apply List.ext_getElem?
        intro j
        rw [List.getElem?_take]
        by_cases hj : j < Dt
        · rw [if_pos hj, u8s_rowF (by omega), co2_zero, if_pos hj, u8s_at (by rw [HLEN.out]; exact hj)]
        · rw [if_neg hj, List.getElem?_eq_none (by rw [u8s_len, HLEN.out]; omega)]
      have e2 : (u8s (rowF N (co2 n 1 Dt data 0 0))).drop N = [] := List.drop_eq_nil_of_le (by rw [u8s_len, rowF_length]; omega)
      have e3 : u8s data ++ u8s (lfs n (gd n) data) = u8s (rowF N (co2 n 1 Dt data 1 0)) := by
        rw [← u8s_append, dm_one, HLEN.out, hNe]
      have h5 := HC6.out
      rw [← e3]
      first
        | (rw [e1, e2, List.append_nil] at h5; exact h5)
        | (simp only [e1, e2, List.append_nil] at h5; exact h5))
    have HB6 : Hid (Below w.heap.size w w5) := Lib.hid (HB5.out.trans (HM6.out.below HB5.out.size (fun k hk => by have hk : k = X := hk; rw [hk]; exact HXW.out)))
    clear HC6 HM6
    go_wp2_with fail
    go_ret2
    exact ⟨X, rfl, HC7.out, HB6.out⟩
  · have hB11 : ((B : Int) == 1) = false := by simp; omega
    have hNN : (N : Int) ≤ (N : Int) := Int.le_refl _
    have hN0 : (0 : Int) ≤ (N : Int) := by omega
    have hmkB := fun W => run_make1 (P := Try.prog) 57 3 (.int .i64 0) 8 Try.underlying57 Try.infoIntD rfl (by decide) B (by omega) .i64 .i64 (B : Int) rfl W
    go_wp2_with fail
    obtain ⟨W5, hW5⟩ : ∃ W5, W5 = (w3.alloc (.cells (zeros B (.int .i64 0)) 3)).alloc (.cells (zeros B (.int .i64 0)) 3) := ⟨_, rfl⟩
    have hb5 : Below w3.heap.size w3 W5 := by rw [hW5]; exact ((Below.refl _ _).alloc (Nat.le_refl _) _).alloc (by simp) _
    have hD5 : Arr W5 3 w3.heap.size (List.replicate B (.int .i64 0)) := by
      rw [hW5]
      exact (Arr.new w3 3 (List.replicate B (.int .i64 0))).below ((Below.refl _ _).alloc (Nat.le_refl _) (.cells (zeros B (.int .i64 0)) 3)) (by simp)
    have hE5 : Arr W5 3 (w3.heap.size + 1) (List.replicate B (.int .i64 0)) := by
      rw [hW5]
      have h5 := Arr.new (w3.alloc (.cells (zeros B (.int .i64 0)) 3)) 3 (List.replicate B (.int .i64 0))
      rw [show (w3.alloc (.cells (zeros B (.int .i64 0)) 3)).heap.size = w3.heap.size + 1 by simp] at h5
      exact h5
    rw [← hW5]
    have HC5 := Lib.hid (HC4.out.below hb5 HC4.out.lt)
    have HS5 := Lib.hid (HS4.out.below hb5)
    have hXl := HC4.out.lt
    have hpl := HS4.out.lt
    have HB5 := Lib.hid (HB4.out.trans (hb5.mono HB4.out.size))
    have hw3s := HB4.out.size
    obtain ⟨DA, hDA⟩ : ∃ DA, DA = w3.heap.size := ⟨_, rfl⟩
    obtain ⟨EA, hEA⟩ : ∃ EA, EA = w3.heap.size + 1 := ⟨_, rfl⟩
    rw [← hEA] at hE5 ⊢
    rw [← hDA] at hD5 ⊢
    have hDE : DA ≠ EA := by omega
    have hXD : X ≠ DA ∧ X ≠ EA := by omega
    have hpD : p ≠ DA ∧ p ≠ EA := by omega
    have HDEw : Hid (w.heap.size ≤ DA ∧ w.heap.size ≤ EA) := Lib.hid (by omega)
    have HD5 : Hid (Arr W5 3 DA (ints (rowF B (fun j => if j < 0 then m else 0)))) := Lib.hid (by rw [rowF_congr (g := fun _ => 0) (fun j _ => by simp), ints_zeros]; exact hD5)
    have HE5 : Hid (Arr W5 3 EA (ints (rowF B (fun j => if j < 0 then n else 0)))) := Lib.hid (by rw [rowF_congr (g := fun _ => 0) (fun j _ => by simp), ints_zeros]; exact hE5)
    clear hW5 hb5 hD5 hE5 hDA hEA HC4 HS4 HB4 hmkB hXl hpl hw3s
    go_loopw [12] (fun i wr => ∃ q : Nat, q ≤ B ∧ i = .int .i64 q ∧ Hid (Arr wr 3 DA (ints (rowF B (fun j => if j < q then m else 0)))) ∧ Hid (Arr wr 3 EA (ints (rowF B (fun j => if j < q then n else 0)))) ∧ Hid (Mod (fun k => k = DA ∨ k = EA) W5 wr)) (fun i _ => B - (intOf i).toNat)
    case atStart => exact ⟨0, Nat.zero_le _, rfl, HD5, HE5, Lib.hid (Mod.refl _)⟩
    case round =>
      obtain ⟨q, hq, rfl, HDQ, HEQ, HM⟩ := hrel
      clear HD5 HE5
      obtain ⟨wi, hwi⟩ : ∃ wi, wi = wr := ⟨_, rfl⟩
      rw [← hwi] at HDQ HEQ HM ⊢
      clear hwi
      have HSW := Lib.hid (HS5.out.mod HM.out (fun h => by rcases h with h | h <;> omega))
      by_cases hlt : q < B
      · have hqi : (q : Int) < (B : Int) := by omega
        have hq0 : (0 : Int) ≤ (q : Int) := by omega
        have cd := HDQ.out.cell? q
        rw [ints_rowF hlt, if_neg (by omega)] at cd
        have fd := HDQ.out.free q
        have hset : ∀ (v : Nat) (W : World) (Z : Nat), Arr W 3 Z (ints (rowF B (fun j => if j < q then v else 0))) → Arr (W.setCell ⟨Z, q, none⟩ (.int .i64 v)) 3 Z (ints (rowF B (fun j => if j < q + 1 then v else 0))) := fun v W Z hW => by
          rw [← ints_setF (f := fun j => if j < q then v else 0) (g := fun j => if j < q + 1 then v else 0) (i := q) (v := v) hlt (by rw [if_pos (by omega)]) (fun j _ hj => by
            by_cases h9 : j < q
            · rw [if_pos h9, if_pos (by omega)]
            · rw [if_neg h9, if_neg (by omega)])]
          exact hW.set_ q _
        have HDS := Lib.hid (hset m wi DA HDQ.out)
        have hEE : Arr (wi.setCell ⟨DA, q, none⟩ (.int .i64 m)) 3 EA (ints (rowF B (fun j => if j < q then n else 0))) := HEQ.out.mod (Mod.set1 wi DA q _) (fun h => hDE h.symm)
        have ce := hEE.cell? q
        rw [ints_rowF hlt, if_neg (by omega)] at ce
        have fe := hEE.free q
        have HES := Lib.hid (hset n (wi.setCell ⟨DA, q, none⟩ (.int .i64 m)) EA hEE)
        have HDS2 : Hid (Arr ((wi.setCell ⟨DA, q, none⟩ (.int .i64 m)).setCell ⟨EA, q, none⟩ (.int .i64 n)) 3 DA (ints (rowF B (fun j => if j < q + 1 then m else 0)))) := Lib.hid (HDS.out.mod (Mod.set1 _ EA q _) (fun h => hDE h))
        have HSW2 := Lib.hid (HSW.out.mod (Mod.set1 wi DA q (.int .i64 m)) (fun h => hpD.1 h))
        have HM2 : Hid (Mod (fun k => k = DA ∨ k = EA) W5 ((wi.setCell ⟨DA, q, none⟩ (.int .i64 m)).setCell ⟨EA, q, none⟩ (.int .i64 n))) := Lib.hid ((HM.out.setCell (p := ⟨DA, q, none⟩) (.inl (.inl rfl)) _).setCell (p := ⟨EA, q, none⟩) (.inl (.inr rfl)) _)
        clear hset hEE HDQ HEQ HM HDS
        go_wp2_with fail
        refine (HLN.out wi _ HSW.out).mono ?_
        rintro en w6 ⟨rfl, rfl⟩
        go_wp2_with fail
        refine (HEL.out _ _ HSW2.out).mono ?_
        rintro en w6 ⟨rfl, rfl⟩
        go_wp2_with fail
        go_roundw
        case rel => exact ⟨q + 1, by omega, by go_num, HDS2, HES, HM2⟩
        case measure => simp [intOf]; omega
      · obtain rfl : q = B := by omega
        have hqi : ((q : Int) < (q : Int)) = False := by simp
        have HCW := Lib.hid (HC5.out.mod HM.out (fun h => by rcases h with h | h <;> omega))
        have HBW : Hid (Below w.heap.size w wi) := Lib.hid (HB5.out.trans (HM.out.below HB5.out.size (fun k hk => by have := HDEw.out; rcases hk with h | h <;> omega)))
        have hnB : (n : Int) * (q : Int) = (er0 : Int) := by rw [HER.out, Nat.mul_comm]; simp
        clear HC5 HS5 HB5 HM
        go_wp2_with fail
        go_loopw [13] (fun i wr => ∃ b : Nat, b ≤ q ∧ i = .int .i64 b ∧ Hid (Arr wr 5 X (u8s (rowF N (co2 n q Dt data b 0)))) ∧ Hid (Arr wr 3 DA (ints (rowF q (fun j => if j < q then m else 0)))) ∧ Hid (Arr wr 3 EA (ints (rowF q (fun j => if j < q then n else 0)))) ∧ Hid (SymA wr p r Dt er0 m n) ∧ Hid (Below w.heap.size w wr)) (fun i _ => q - (intOf i).toNat)
        case atStart => exact ⟨0, Nat.zero_le _, rfl, HCW, HDQ, HEQ, HSW, HBW⟩
        case round =>
          obtain ⟨b, hb, rfl, HC, HDQ, HEQ, HSW, HBW⟩ := hrel
          clear HCW
          obtain ⟨wj, hwj⟩ : ∃ wj, wj = wr := ⟨_, rfl⟩
          rw [← hwj] at HC HDQ HEQ HSW HBW ⊢
          clear hwj
          by_cases hlt2 : b < q
          · have hbi : (b : Int) < (q : Int) := by omega
            have hb0 : (0 : Int) ≤ (b : Int) := by omega
            have cd := HDQ.out.cell? b
            rw [ints_rowF hlt2, if_pos hlt2] at cd
            have hmb : m ≤ 2000 := by
              have h5 := HDT.out
              have h6 : 1 * m ≤ q * m := Nat.mul_le_mul_right m hB1
              omega
            have hmk := fun W => run_make0 (P := Try.prog) 22 5 (.int .u8 0) 1 Try.underlying22 Try.infoU8D rfl (by decide) m (by omega) .i64 .i64 (m : Int) rfl W
            go_wp2_with fail
            have hown := own_make0 wj 5 (.int .u8 0) m wj.heap.size (Nat.le_refl _) (by unfold maxLen; omega)
            have hbN : Below wj.heap.size wj (wj.alloc (.cells (zeros m (.int .u8 0)) 5)) := (Below.refl _ _).alloc (Nat.le_refl _) _
            obtain ⟨W6, hW6⟩ : ∃ W6, W6 = wj.alloc (.cells (zeros m (.int .u8 0)) 5) := ⟨_, rfl⟩
            rw [← hW6] at hown hbN ⊢
            have HO6 : Hid (OwnU W6 wj.heap.size (.slice (some ⟨wj.heap.size, 0, none⟩) 0 m) (every q b data 0)) := Lib.hid hown
            have HB6 := Lib.hid hbN
            clear hW6 hown hbN hmk cd
            go_loopw [14, 15] (fun u i wr => ∃ t : Nat, t ≤ m ∧ i = .int .i64 ((q * t + b : Nat) : Int) ∧ Hid (OwnU wr wj.heap.size u (every q b data t)) ∧ Hid (Below wj.heap.size wj wr)) (fun _ i _ => Dt + q - (intOf i).toNat)
            case atStart => exact ⟨0, Nat.zero_le _, by simp, HO6, HB6⟩
            case round =>
              obtain ⟨t, ht, rfl, HO, HB7⟩ := hrel
              clear HO6 HB6
              obtain ⟨wk, hwk⟩ : ∃ wk, wk = wr := ⟨_, rfl⟩
              rw [← hwk] at HO HB7 ⊢
              clear hwk
              have HSK := Lib.hid (HSW.out.below HB7.out)
              obtain ⟨d, hde⟩ : ∃ d, d = q * t + b := ⟨_, rfl⟩
              have hdn : q * (t + 1) + b = d + q := by rw [hde, Nat.mul_succ]; omega
              have hdlt : (t < m → d < Dt) ∧ (¬ t < m → Dt ≤ d) := by
                rw [hde, HDT.out]
                refine ⟨fun h9 => ?_, fun h9 => ?_⟩
                · have h8 : q * (t + 1) ≤ q * m := Nat.mul_le_mul_left q (by omega)
                  rw [Nat.mul_succ] at h8; omega
                · have h8 : q * m ≤ q * t := Nat.mul_le_mul_left q (by omega)
                  omega
              rw [← hde]
              have HDE9 := Lib.hid hde
              have HDN9 := Lib.hid hdn
              by_cases hlt3 : t < m
              · have hd1 := hdlt.1 hlt3
                have hdi : (d : Int) < (Dt : Int) := by omega
                have hd0 : (0 : Int) ≤ (d : Int) := by omega
                obtain ⟨b2, o2, he2, hbb2, hbc2⟩ := ((HR.out.below HBW.out).below HB7.out) (by omega)
                injection he2 with he2
                injection he2 with he3 he4
                subst he3 he4
                have cx := hbc2 d hd1
                dsimp only at cx
                obtain ⟨x, hx⟩ : ∃ x, x = nth data d := ⟨_, rfl⟩
                rw [← hx] at cx
                have HXE := Lib.hid hx
                have hlen : (every q b data t).length = t := every_len _ _ _ _
                have hO := HO.out
                unfold OwnU at hO
                rw [hlen] at hO
                have HO8 := Lib.hid hO
                have HSZ := Lib.hid HB7.out.size
                clear hO hlen hdlt hde hdn hbb2 hbc2 hx HO
                go_wp2_with fail
                refine (HCAP.out wk HSK.out).mono ?_
                rintro en w7 ⟨rfl, rfl⟩
                go_wp2_with (at_builtin; refine wpList_push _ _ 22 wj.heap.size 5 (.int .u8 0) 1 _ t _ (.int .u8 x) rfl rfl rfl rfl Try.underlying22 Try.infoU8D rfl rfl (by decide) HO8.out (by omega) HSZ.out ?_)
                intro v' w' hown' hg' hb'
                have HO9 : Hid (OwnU w' wj.heap.size v' (every q b data (t + 1))) := Lib.hid (by
                  unfold OwnU
                  rw [every_len, every_succ, u8s_append, ← HDE9.out, ← HXE.out]
                  exact hown')
                have HB9 := Lib.hid (HB7.out.trans hb')
                clear hown' hg' hb' HO8 HB7
                go_wp2_with fail
                go_roundw
                case rel => exact ⟨t + 1, by omega, by rw [HDN9.out]; go_num, HO9, HB9⟩
                case measure => simp [intOf]; omega
              · obtain rfl : t = m := by omega
                have hd1 := hdlt.2 hlt3
                have hdi : ((d : Int) < (Dt : Int)) = False := by simp; omega
                clear hdlt hde hdn
                obtain ⟨A2, c2, hv, hc2, hr2⟩ := HO.out.rd
                subst hv
                rw [every_len] at hr2 ⊢
                have hEd : ∀ j, nth (every q b data t) j < 256 := fun j => D_el (fun i hi => by
                  unfold every at hi ⊢
                  rw [nth_map_range _ _ _ (by simpa using hi)]
                  exact HD.out _) j
                have HEC := Lib.hid (HECC.out (every q b data t) t (every_len _ _ _ _).symm (by omega) hEd A2 c2 wk hr2)
                have ce := (HEQ.out.below HB7.out HEQ.out.lt).cell? b
                rw [ints_rowF hlt2, if_pos hlt2] at ce
                clear hr2 hEd hc2 HO
                go_wp2_with fail
                refine (HCAP.out wk HSK.out).mono ?_
                rintro en w7 ⟨rfl, rfl⟩
                go_wp2_with fail
                refine HEC.out.mono ?_
                rintro en w8 ⟨CB, rfl, hCB, hCBw, hb8⟩
                have hPE : lfs n (gd n) (every q b data t) = dchk n q Dt data b := by unfold dchk; rw [HDT.out, pick_every hlt2]
                rw [hPE] at hCB
                have hBJ : Below wj.heap.size wj w8 := HB7.out.trans (hb8.mono HB7.out.size)
                have HCK := Lib.hid hCB
                have HC8 := Lib.hid (HC.out.below hBJ HC.out.lt)
                have HD8 := Lib.hid (HDQ.out.below hBJ HDQ.out.lt)
                have HE8 := Lib.hid (HEQ.out.below hBJ HEQ.out.lt)
                have HS8 := Lib.hid (HSW.out.below hBJ)
                have HB8 := Lib.hid (HBW.out.trans (hBJ.mono HBW.out.size))
                have hCX : CB ≠ X ∧ EA ≠ X ∧ DA ≠ X := ⟨by have h5 := HC.out.lt; have h6 := HB7.out.size; omega, fun h => hXD.2 h.symm, fun h => hXD.1 h.symm⟩
                have hpX2 : p ≠ X := by omega
                have HXw : Hid (w.heap.size ≤ X) := Lib.hid (by rw [HX.out]; exact Nat.le_refl _)
                have HKL : Hid ((dchk n q Dt data b).length = n) := Lib.hid (by unfold dchk; exact lfs_length _ _ _)
                have HC8' : Hid (Arr w8 5 X (u8s (rowF N (co2 n q Dt data b (q * 0))))) := Lib.hid (by rw [Nat.mul_zero]; exact HC8.out)
                clear hCB hCBw hb8 hPE hBJ HEC HC HDQ HEQ HSW HBW HB7 HSK ce
                go_wp2_with fail
                go_loopw [18, 19] (fun ps i wr => ∃ k : Nat, k ≤ n ∧ ps = .int .i64 k ∧ i = .int .i64 ((q * k + b : Nat) : Int) ∧ Hid (Arr wr 5 X (u8s (rowF N (co2 n q Dt data b (q * k))))) ∧ Hid (Mod (· = X) w8 wr)) (fun ps _ _ => n - (intOf ps).toNat)
                case atStart => exact ⟨0, Nat.zero_le _, rfl, by simp, HC8', Lib.hid (Mod.refl _)⟩
                case round =>
                  obtain ⟨k, hk, rfl, rfl, HC, HM⟩ := hrel
                  clear HC8'
                  obtain ⟨wl, hwl⟩ : ∃ wl, wl = wr := ⟨_, rfl⟩
                  rw [← hwl] at HC HM ⊢
                  clear hwl
                  obtain ⟨e, hee⟩ : ∃ e, e = q * k + b := ⟨_, rfl⟩
                  have hen : q * (k + 1) + b = e + q := by rw [hee, Nat.mul_succ]; omega
                  have helt : (k < n → e < er0) ∧ (¬ k < n → er0 ≤ e) := by
                    rw [hee, HER.out]
                    refine ⟨fun h9 => ?_, fun h9 => ?_⟩
                    · have h8 : q * (k + 1) ≤ q * n := Nat.mul_le_mul_left q (by omega)
                      rw [Nat.mul_succ] at h8; omega
                    · have h8 : q * n ≤ q * k := Nat.mul_le_mul_left q (by omega)
                      omega
                  rw [← hee]
                  have HEE9 := Lib.hid hee
                  have HEN9 := Lib.hid hen
                  have ce := (HE8.out.mod HM.out hCX.2.1).cell? b
                  rw [ints_rowF hlt2, if_pos hlt2] at ce
                  by_cases hlt4 : k < n
                  · have he1 := helt.1 hlt4
                    have hei : (e : Int) < (er0 : Int) := by omega
                    have he0 : (0 : Int) ≤ (e : Int) := by omega
                    have hk0 : (0 : Int) ≤ (k : Int) := by omega
                    have hkn : (k : Int) < (n : Int) := by omega
                    obtain ⟨de, hde⟩ : ∃ de, de = Dt + e := ⟨_, rfl⟩
                    have hdei : (Dt : Int) + (e : Int) = (de : Int) := by omega
                    have hdeN : de < N := by have := HN.out; omega
                    have hdeNi : (de : Int) < (N : Int) := by omega
                    have hde0 : (0 : Int) ≤ (de : Int) := by omega
                    have hwde : IntKind.i64.wrap (de : Int) = (de : Int) := by rw [IntKind.wrap_i64]; omega
                    have ck := (HCK.out.mod HM.out hCX.1).cell? k
                    rw [u8s_at (by rw [HKL.out]; exact hlt4)] at ck
                    have hland := co2_land n q Dt data b k hlt2
                    rw [← hee, ← hde] at hland
                    obtain ⟨x, hx⟩ : ∃ x, x = nth (dchk n q Dt data b) k := ⟨_, rfl⟩
                    rw [← hx] at ck hland
                    have cx := HC.out.cell? de
                    rw [u8s_rowF hdeN] at cx
                    obtain ⟨old, hold⟩ : ∃ old, old = co2 n q Dt data b (q * k) de := ⟨_, rfl⟩
                    rw [← hold] at cx
                    have hf := HC.out.free de
                    have HCT := Lib.hid ((symCap wl.drew p r Dt er0 _ n (by
                      obtain ⟨a1, a2, a3, hh⟩ := HS8.out.mod HM.out hpX2
                      exact ⟨a1, a2, a3, hh⟩)).mono (R' := fun en w' => en = .returned (.int .i64 Dt) ∧ w' = wl.drew) (fun _ _ h => ⟨h.1, h.2.symm⟩))
                    have HC9 : Hid (Arr (wl.drew.setCell ⟨X, de, none⟩ (.int .u8 x)) 5 X (u8s (rowF N (co2 n q Dt data b (q * (k + 1)))))) := Lib.hid (by
                      rw [← u8s_setF (f := co2 n q Dt data b (q * k)) (g := co2 n q Dt data b (q * (k + 1))) (i := de) (v := x) hdeN hland (fun j _ hj => co2_jump _ _ _ _ _ _ _ hlt2 (by rw [← hee, ← hde]; exact hj))]
                      exact Arr.set_ (w := wl.drew) HC.out de _)
                    have HM9 : Hid (Mod (· = X) w8 (wl.drew.setCell ⟨X, de, none⟩ (.int .u8 x))) := Lib.hid (HM.out.drew.setCell (p := ⟨X, de, none⟩) (.inl rfl) _)
                    clear helt hee hen hde hland hx hold HC HM
                    go_upto_region 32 with (fail)
                    go_still_tail 10, (by kernel_rfl)
                    repeat still_step
                    still_call (HCT.out)
                    repeat still_step
                    try refine wpStill_nil ?_
                    change wpList _ _ _ _ _ wl.drew
                    have cx2 : wl.drew.cell? ⟨X, de, none⟩ = some (.int .u8 old) := cx
                    have hf2 : wl.drew.frozen? ⟨X, de, none⟩ = false := hf
                    obtain ⟨W9, hW9⟩ : ∃ W9, W9 = wl.drew := ⟨_, rfl⟩
                    rw [← hW9] at cx2 hf2 HC9 HM9 ⊢
                    clear hW9 HCT cx hf ck ce
                    go_wp2_with fail
                    go_roundw
                    case rel => exact ⟨k + 1, by omega, by go_num, by rw [HEN9.out]; go_num, HC9, HM9⟩
                    case measure => simp [intOf]; omega
                  · obtain rfl : k = n := by omega
                    have he1 := helt.2 hlt4
                    have hei : ((e : Int) < (er0 : Int)) = False := by simp; omega
                    have HC9 : Hid (Arr wl 5 X (u8s (rowF N (co2 k q Dt data (b + 1) 0)))) := Lib.hid (by
                      rw [rowF_congr (g := co2 k q Dt data b (q * k)) (fun j hj => by rw [← HER.out]; exact (co2_all _ _ _ _ _ _ _ (by rw [← HN.out]; exact hj)).symm)]
                      exact HC.out)
                    have HD9 := Lib.hid (HD8.out.mod HM.out hCX.2.2)
                    have HE9 := Lib.hid (HE8.out.mod HM.out hCX.2.1)
                    have HS9 := Lib.hid (HS8.out.mod HM.out hpX2)
                    have HB9 : Hid (Below w.heap.size w wl) := Lib.hid (HB8.out.trans (HM.out.below HB8.out.size (fun j hj => by have hj : j = X := hj; rw [hj]; exact HXw.out)))
                    clear helt hee hen HC HM HC8 HD8 HE8 HS8 HB8 HCK
                    go_wp2_with fail
                    go_roundw
                    case rel => exact ⟨b + 1, by omega, by go_num, HC9, HD9, HE9, HS9, HB9⟩
                    case measure => simp [intOf]; omega
          · obtain rfl : b = q := by omega
            have hbi : ((b : Int) < (b : Int)) = False := by simp
            go_wp2_with fail
            go_ret2
            exact ⟨X, rfl, HC.out, HBW.out⟩
end Go.Proofs.Ytjpnkdpgdmmkkaa
