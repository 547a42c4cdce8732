/-
  Several texts of this claim in one. No condition beyond the bounds that each theorem states.
-/
import Derived.Test.YtiielblnmfeapaaGFE
namespace Go.Qz.RS
open Go.Qz
set_option linter.unusedVariables false

/-- A series over a field. -/
structure Ser (F : Fld) (h : Six F) where
  c : Nat → Nat
  lt : ∀ n, c n < F.size
variable {F : Fld} {h : Six F}
theorem Ser.same {a b : Ser F h} (e : ∀ n, a.c n = b.c n) : a = b := by
  cases a with
  | mk x hx =>
    cases b with
    | mk y hy =>
      have : x = y := funext e
      subst this; rfl
instance : Add (Ser F h) := ⟨fun a b => ⟨fun n => a.c n ^^^ b.c n, fun n => xor_lt_size h (a.lt n) (b.lt n)⟩⟩
instance : Mul (Ser F h) := ⟨fun a b => ⟨pm F a.c b.c, pm_lt h a.lt⟩⟩
/-- Nothing; a coefficient times a power. -/
def zr : Ser F h := ⟨fun _ => 0, fun _ => by have := h.bounds; omega⟩
def mo (k : Nat) (x : Nat) (hx : x < F.size) : Ser F h := ⟨mon k x, mon_lt h k hx⟩
theorem one_lt : 1 < F.size ∨ ¬ Six F := by
  by_cases hh : Six F
  · left; have := hh.bounds; omega
  · exact .inr hh
def xp (k : Nat) : Ser F h := mo k 1 (by have := h.bounds; omega)
def on : Ser F h := xp 0
theorem add_c (a b : Ser F h) (n : Nat) : (a + b).c n = a.c n ^^^ b.c n := rfl
theorem mul_c (a b : Ser F h) (n : Nat) : (a * b).c n = pm F a.c b.c n := rfl
theorem sadd_comm (a b : Ser F h) : a + b = b + a := Ser.same fun n => Nat.xor_comm _ _
theorem sadd_assoc (a b d : Ser F h) : a + b + d = a + (b + d) := Ser.same fun n => Nat.xor_assoc _ _ _
theorem sadd_self (a : Ser F h) : a + a = zr := Ser.same fun n => Nat.xor_self _
theorem sadd_zr (a : Ser F h) : a + zr = a := Ser.same fun n => Nat.xor_zero _
theorem zr_sadd (a : Ser F h) : zr + a = a := Ser.same fun n => Nat.zero_xor _
theorem sadd_move {a b : Ser F h} (e : a + b = zr) : a = b := by
  have : a + b + b = b := by rw [e, zr_sadd]
  rwa [sadd_assoc, sadd_self, sadd_zr] at this
theorem pm_comm {a b : Nat → Nat} (ha : ∀ n, a n < F.size) (hb : ∀ n, b n < F.size) (h : Six F) (n : Nat) : pm F a b n = pm F b a n := by
  unfold pm
  rw [xs_rev]
  refine xs_congr fun i hi => ?_
  show mul F (a (n + 1 - 1 - i)) (b (n - (n + 1 - 1 - i))) = mul F (b i) (a (n - i))
  rw [show n + 1 - 1 - i = n - i by omega, show n - (n - i) = i by omega, mul_comm h (ha _) (hb _)]
theorem smul_comm (a b : Ser F h) : a * b = b * a := Ser.same fun n => pm_comm a.lt b.lt h n
theorem smul_add (a b d : Ser F h) : a * (b + d) = a * b + a * d := Ser.same fun n => pm_xor_right h a.lt n
theorem sadd_mul (a b d : Ser F h) : (a + b) * d = a * d + b * d := Ser.same fun n => pm_xor_left h a.lt b.lt n
theorem xs_skip (f : Nat → Nat) (k : Nat) (hz : ∀ i, i < k → f i = 0) : ∀ m, xs f (k + m) = xs (fun j => f (k + j)) m
  | 0 => xs_zero hz
  | m + 1 => by
    show xs f (k + m) ^^^ f (k + m) = xs (fun j => f (k + j)) m ^^^ f (k + m)
    rw [xs_skip f k hz m]
theorem pm_shf (h : Six F) {b d : Nat → Nat} (hb : ∀ n, b n < F.size) (hd : ∀ n, d n < F.size) (k : Nat) {x : Nat} (hx : x < F.size) (n : Nat) : pm F (shf F b k x) d n = shf F (pm F b d) k x n := by
  by_cases hk : k ≤ n
  · obtain ⟨m, rfl⟩ : ∃ m, n = k + m := ⟨n - k, by omega⟩
    have e : shf F (pm F b d) k x (k + m) = mul F (pm F b d m) x := by
      unfold shf; rw [if_pos (by omega), show k + m - k = m by omega]
    rw [e]
    unfold pm
    rw [show k + m + 1 = k + (m + 1) by omega, xs_skip _ k (fun i hi => by
      show mul F (shf F b k x i) _ = 0
      unfold shf; rw [if_neg (by omega), zero_mul h]), mul_xs_left h x (fun i _ => mul_lt h (hb i))]
    refine xs_congr fun j hj => ?_
    show mul F (shf F b k x (k + j)) (d (k + m - (k + j))) = mul F (mul F (b j) (d (m - j))) x
    unfold shf
    rw [if_pos (by omega), show k + j - k = j by omega, show k + m - (k + j) = m - j by omega, mul_assoc h (hb j) hx (hd _), mul_assoc h (hb j) (hd _) hx, mul_comm h hx (hd _)]
  · have e : shf F (pm F b d) k x n = 0 := by unfold shf; rw [if_neg hk]
    rw [e]
    refine xs_zero fun i hi => ?_
    show mul F (shf F b k x i) _ = 0
    unfold shf; rw [if_neg (by omega), zero_mul h]
theorem pm_tr {a b : Nat → Nat} {n N : Nat} (hN : n < N) : pm F (tr a N) b n = pm F a b n := xs_congr fun i hi => by
  show mul F (tr a N i) _ = mul F (a i) _
  unfold tr; rw [if_pos (by omega)]
theorem pm_nul (h : Six F) {a b : Nat → Nat} (ha : ∀ i, a i = 0) (n : Nat) : pm F a b n = 0 := xs_zero fun i _ => by
  show mul F (a i) _ = 0
  rw [ha i, zero_mul h]
theorem pm_assoc_tr (h : Six F) {a b d : Nat → Nat} (ha : ∀ n, a n < F.size) (hb : ∀ n, b n < F.size) (hd : ∀ n, d n < F.size) (n : Nat) : ∀ N, pm F (pm F (tr a N) b) d n = pm F (tr a N) (pm F b d) n
  | 0 => by
    have z : ∀ i, tr a 0 i = 0 := fun i => by unfold tr; rw [if_neg (by omega)]
    rw [pm_nul h (fun i => pm_nul h z i), pm_nul h z]
  | N + 1 => by
    have e1 : pm F (tr a (N + 1)) b = fun i => pm F (tr a N) b i ^^^ shf F b N (a N) i := by
      funext i
      rw [tr_succ, pm_xor_left h (tr_lt h ha N) (mon_lt h N (ha N)), pm_mon_left h hb N (ha N)]
    have sl : ∀ i, shf F b N (a N) i < F.size := fun i => by
      unfold shf; split
      · exact mul_lt h (hb _)
      · have := h.bounds; omega
    rw [e1, pm_xor_left h (pm_lt h (tr_lt h ha N)) sl, pm_assoc_tr h ha hb hd n N, pm_shf h hb hd N (ha N), tr_succ, pm_xor_left h (tr_lt h ha N) (mon_lt h N (ha N)), pm_mon_left h (pm_lt h hb) N (ha N)]
theorem smul_assoc (a b d : Ser F h) : a * b * d = a * (b * d) := Ser.same fun n => by
  have := pm_assoc_tr h a.lt b.lt d.lt n (n + 1)
  show pm F (pm F a.c b.c) d.c n = pm F a.c (pm F b.c d.c) n
  rw [← pm_tr (a := a.c) (Nat.lt_succ_self n), ← this]
  refine xs_congr fun i hi => ?_
  show mul F (pm F a.c b.c i) _ = mul F (pm F (tr a.c (n + 1)) b.c i) _
  rw [pm_tr (by omega)]
theorem smul_left_comm (a b d : Ser F h) : a * (b * d) = b * (a * d) := by rw [← smul_assoc, smul_comm a b, smul_assoc]
theorem mo_mul (k : Nat) {x : Nat} (hx : x < F.size) (a : Ser F h) (n : Nat) : (mo k x hx * a).c n = if k ≤ n then mul F (a.c (n - k)) x else 0 := pm_mon_left h a.lt k hx n
theorem xp_mul (k : Nat) (a : Ser F h) (n : Nat) : (xp k * a).c n = if k ≤ n then a.c (n - k) else 0 := by
  unfold xp
  rw [mo_mul]
  split
  · exact mul_one h (a.lt _)
  · rfl
theorem on_mul (a : Ser F h) : on * a = a := Ser.same fun n => by
  show (xp 0 * a).c n = _
  rw [xp_mul, if_pos (by omega)]; rfl
theorem mul_on (a : Ser F h) : a * on = a := by rw [smul_comm, on_mul]
theorem zr_mul (a : Ser F h) : zr * a = zr := Ser.same fun n => pm_nul h (fun _ => rfl) n
theorem mul_zr (a : Ser F h) : a * zr = zr := by rw [smul_comm, zr_mul]
theorem on_c (n : Nat) : (on : Ser F h).c n = if n = 0 then 1 else 0 := rfl

/-- Nothing from a power on. -/
def Deg (p : Ser F h) (n : Nat) : Prop := ∀ i, n ≤ i → p.c i = 0
theorem Deg.mono {p : Ser F h} {n m : Nat} (d : Deg p n) (hm : n ≤ m) : Deg p m := fun i hi => d i (by omega)
theorem Deg.add {p q : Ser F h} {n : Nat} (d : Deg p n) (e : Deg q n) : Deg (p + q) n := fun i hi => by rw [add_c, d i hi, e i hi]; rfl
theorem Deg.mul {p q : Ser F h} {n m : Nat} (d : Deg p n) (e : Deg q m) : Deg (p * q) (n + m - 1) := fun k hk => xs_zero fun i hi => by
  show RS.mul F (p.c i) (q.c (k - i)) = 0
  by_cases h1 : i < n
  · rw [e _ (by omega), RS.mul_zero h (p.lt i)]
  · rw [d _ (by omega), zero_mul h]
theorem Deg.on : Deg (on : Ser F h) 1 := fun i hi => by rw [on_c, if_neg (by omega)]
/-- The value of a series of a degree. -/
def at_ (p : Ser F h) (n x : Nat) : Nat := ve F p.c x n
theorem at_lt (p : Ser F h) (n x : Nat) : at_ p n x < F.size := ve_lt h p.lt x n
theorem at_ext {p : Ser F h} {n m : Nat} (d : Deg p n) (hm : n ≤ m) (x : Nat) : at_ p m x = at_ p n x := ve_ext h hm d
theorem at_mul {p q : Ser F h} {n m : Nat} (d : Deg p n) (e : Deg q m) {x : Nat} (hx : x < F.size) : at_ (p * q) (n + m) x = RS.mul F (at_ p n x) (at_ q m x) := by
  have := ve_pm_tr h p.lt q.lt hx e n
  rw [tr_all d] at this
  exact this
theorem at_add (p q : Ser F h) (n x : Nat) : at_ (p + q) n x = at_ p n x ^^^ at_ q n x := ve_xor h p.lt q.lt x n

/-- A series with a coefficient of the power 0 divides nothing but nothing. -/
theorem unit_cancel {u w : Ser F h} (hu : u.c 0 ≠ 0) (e : u * w = zr) : w = zr := by
  have key : ∀ N n, n < N → w.c n = 0 := by
    intro N
    induction N with
    | zero => intro n hn; omega
    | succ N ih =>
      intro n hn
      by_cases h1 : n < N
      · exact ih n h1
      · obtain rfl : n = N := by omega
        have e2 : (u * w).c n = 0 := by rw [e]; rfl
        rw [mul_c] at e2
        unfold pm at e2
        rw [xs_one (k := 0) (by omega) (fun i hi hne => by
          show RS.mul F (u.c i) (w.c (n - i)) = 0
          rw [ih _ (by omega), RS.mul_zero h (u.lt i)])] at e2
        have e3 : RS.mul F (u.c 0) (w.c n) = 0 := e2
        rcases Nat.eq_zero_or_pos (w.c n) with h2 | h2
        · exact h2
        · exact absurd e3 (mul_ne_zero h (u.lt 0) (w.lt n) hu (by omega))
  exact Ser.same fun n => key (n + 1) n (by omega)
theorem unit_inj {u a b : Ser F h} (hu : u.c 0 ≠ 0) (e : u * a = u * b) : a = b := by
  refine sadd_move (unit_cancel hu ?_)
  rw [smul_add, e, sadd_self]
theorem unit_of {t v : Ser F h} (e : t * v = on) : t.c 0 ≠ 0 := by
  intro h0
  have e2 : (t * v).c 0 = 1 := by rw [e]; rfl
  rw [mul_c] at e2
  have e3 : 0 ^^^ RS.mul F (t.c 0) (v.c 0) = 1 := e2
  rw [h0, zero_mul h] at e3
  cases e3
theorem top_of {p : Ser F h} {i : Nat} (hi : p.c i ≠ 0) : ∀ n, Deg p n → ∃ k, i ≤ k ∧ p.c k ≠ 0 ∧ Deg p (k + 1)
  | 0, d => absurd (d i (by omega)) hi
  | n + 1, d => by
    by_cases h0 : p.c n = 0
    · exact top_of hi n fun j hj => by
        by_cases e : j = n
        · rw [e, h0]
        · exact d j (by omega)
    · refine ⟨n, ?_, h0, d⟩
      rcases Nat.lt_or_ge n i with h1 | h1
      · exact absurd (d i (by omega)) hi
      · exact h1
theorem top_mul {p q : Ser F h} {a b : Nat} (d : Deg p (a + 1)) (e : Deg q (b + 1)) : (p * q).c (a + b) = RS.mul F (p.c a) (q.c b) := by
  rw [mul_c]
  unfold pm
  rw [xs_one (k := a) (by omega) (fun i hi hne => by
    show RS.mul F (p.c i) (q.c (a + b - i)) = 0
    by_cases h1 : i < a
    · rw [e _ (by omega), RS.mul_zero h (p.lt i)]
    · rw [d _ (by omega), zero_mul h])]
  show RS.mul F (p.c a) (q.c (a + b - a)) = _
  rw [show a + b - a = b by omega]
/-- Two polynomials whose product is 1 are constants. -/
theorem const_of {q w : Ser F h} {n m : Nat} (dq : Deg q n) (dw : Deg w m) (e : q * w = on) : Deg q 1 := by
  have q0 := unit_of e
  have w0 := unit_of (by rw [smul_comm]; exact e)
  obtain ⟨a, _, ha, da⟩ := top_of q0 n dq
  obtain ⟨b, _, hb, db⟩ := top_of w0 m dw
  have := top_mul da db
  rw [e, on_c] at this
  by_cases hab : a + b = 0
  · have : a = 0 := by omega
    subst this; exact da
  · rw [if_neg hab] at this
    exact absurd this.symm (mul_ne_zero h (q.lt a) (w.lt b) ha hb)
end Go.Qz.RS
namespace Go.Qz.RS
open Go.Qz
set_option linter.unusedVariables false
variable {F : Fld} {h : Six F}

theorem exl (h : Six F) (j : Nat) : ex F j < F.size := ex_lt F (by have := h.bounds; omega) j
theorem ex_ne (h : Six F) {j : Nat} (hj : j < F.size - 1) : ex F j ≠ 0 := by have := ex_pos h j hj; omega
theorem ex_inj (h : Six F) {i j : Nat} (hi : i < F.size - 1) (hj : j < F.size - 1) (e : ex F i = ex F j) : i = j := by
  rw [← lg_ex h hi, ← lg_ex h hj, e]
/-- The inverse of a power. -/
theorem inv_ex (h : Six F) {j : Nat} (hj : j < F.size - 1) : mul F (ex F j) (inv F (ex F j)) = 1 := mul_inv h (exl h j) (ex_ne h hj)
theorem fac_zero (h : Six F) {j : Nat} (hj : j < F.size - 1) : 1 ^^^ mul F (ex F j) (inv F (ex F j)) = 0 := by rw [inv_ex h hj]; rfl
theorem fac_ne (h : Six F) {i j : Nat} (hi : i < F.size - 1) (hj : j < F.size - 1) (hne : i ≠ j) : 1 ^^^ mul F (ex F i) (inv F (ex F j)) ≠ 0 := by
  intro e
  have e2 : mul F (ex F i) (inv F (ex F j)) = 1 := by
    have : 1 ^^^ (1 ^^^ mul F (ex F i) (inv F (ex F j))) = 1 ^^^ 0 := by rw [e]
    rwa [← Nat.xor_assoc, Nat.xor_self, Nat.zero_xor, Nat.xor_zero] at this
  have e3 : mul F (mul F (ex F i) (inv F (ex F j))) (ex F j) = ex F j := by rw [e2, one_mul h (exl h j)]
  rw [mul_assoc h (exl h i) (inv_lt h _) (exl h j), mul_comm h (inv_lt h _) (exl h j), inv_ex h hj, mul_one h (exl h i)] at e3
  exact hne (ex_inj h hi hj e3)

/-- 1 + X x. -/
def li (X : Nat) (hX : X < F.size) : Ser F h := on + mo 1 X hX
theorem li_mul (X : Nat) (hX : X < F.size) (a : Ser F h) (n : Nat) : (li X hX * a).c n = a.c n ^^^ (if 1 ≤ n then mul F (a.c (n - 1)) X else 0) := by
  unfold li
  rw [sadd_mul, add_c, on_mul, mo_mul]
theorem li_deg (X : Nat) (hX : X < F.size) : Deg (li X hX : Ser F h) 2 := fun i hi => by
  show (on : Ser F h).c i ^^^ mon 1 X i = 0
  rw [on_c, if_neg (by omega)]
  unfold mon; rw [if_neg (by omega)]; rfl
theorem li_at (X : Nat) (hX : X < F.size) {x : Nat} (hx : x < F.size) : at_ (li X hX : Ser F h) 2 x = 1 ^^^ mul F X x := by
  have hs := h.bounds
  show (0 ^^^ mul F (1 ^^^ 0) 1) ^^^ mul F (0 ^^^ X) (mul F 1 x) = _
  rw [Nat.zero_xor, Nat.zero_xor, Nat.xor_zero, mul_one h (by omega), one_mul h hx]
theorem li_1 (X : Nat) (hX : X < F.size) : (li X hX : Ser F h).c 1 = X := by
  show 0 ^^^ X = X
  rw [Nat.zero_xor]

/-- The locator of errors at some powers. -/
def loc : List Nat → Ser F h
  | [] => on
  | j :: J => li (ex F j) (exl h j) * loc J
theorem loc_deg : ∀ J : List Nat, Deg (loc J : Ser F h) (J.length + 1)
  | [] => Deg.on
  | j :: J => (li_deg (ex F j) (exl h j)).mul (loc_deg J) |>.mono (by simp; omega)
theorem loc_0 : ∀ J : List Nat, (loc J : Ser F h).c 0 = 1
  | [] => rfl
  | j :: J => by
    show (li (ex F j) (exl h j) * loc J : Ser F h).c 0 = 1
    rw [li_mul, if_neg (by omega), Nat.xor_zero, loc_0 J]
theorem loc_top : ∀ J : List Nat, (∀ j ∈ J, j < F.size - 1) → (loc J : Ser F h).c J.length ≠ 0
  | [], _ => by show (1 : Nat) ≠ 0; omega
  | j :: J, hJ => by
    have e := top_mul (h := h) (li_deg (ex F j) (exl h j)) (loc_deg J)
    rw [li_1] at e
    show (li (ex F j) (exl h j) * loc J : Ser F h).c (J.length + 1) ≠ 0
    rw [Nat.add_comm, e]
    exact mul_ne_zero h (exl h j) (Ser.lt _ _) (ex_ne h (hJ j (by simp))) (loc_top J (fun k hk => hJ k (by simp [hk])))
/-- The locator's value. -/
def lev (F : Fld) (x : Nat) : List Nat → Nat
  | [] => 1
  | j :: J => mul F (1 ^^^ mul F (ex F j) x) (lev F x J)
theorem fac_lt (h : Six F) (j : Nat) (x : Nat) : 1 ^^^ mul F (ex F j) x < F.size := xor_lt_size h (by have := h.bounds; omega) (mul_lt h (exl h j))
theorem lev_lt (h : Six F) (x : Nat) : ∀ J, lev F x J < F.size
  | [] => by have := h.bounds; show 1 < F.size; omega
  | j :: J => mul_lt h (fac_lt h j x)
theorem loc_at {x : Nat} (hx : x < F.size) : ∀ J : List Nat, at_ (loc J : Ser F h) (J.length + 1) x = lev F x J
  | [] => by
    have hs := h.bounds
    show 0 ^^^ mul F 1 1 = 1
    rw [Nat.zero_xor, mul_one h (by omega)]
  | j :: J => by
    have e := at_mul (h := h) (li_deg (ex F j) (exl h j)) (loc_deg J) hx
    rw [li_at _ _ hx, loc_at hx J] at e
    have e2 := at_ext (m := 2 + (J.length + 1)) (loc_deg (h := h) (j :: J)) (by have : (j :: J).length = J.length + 1 := rfl; omega) x
    exact e2.symm.trans e
theorem lev_zero (h : Six F) {i : Nat} (hi : i < F.size - 1) : ∀ J : List Nat, i ∈ J → lev F (inv F (ex F i)) J = 0
  | j :: J, hm => by
    show mul F (1 ^^^ mul F (ex F j) _) (lev F _ J) = 0
    by_cases e : j = i
    · subst e
      rw [fac_zero h hi, zero_mul h]
    · have : i ∈ J := by
        rcases List.mem_cons.1 hm with h1 | h1
        · exact absurd h1.symm e
        · exact h1
      rw [lev_zero h hi J this, mul_zero h (fac_lt h _ _)]
theorem lev_ne (h : Six F) {i : Nat} (hi : i < F.size - 1) : ∀ J : List Nat, (∀ j ∈ J, j < F.size - 1) → i ∉ J → lev F (inv F (ex F i)) J ≠ 0
  | [], _, _ => by show (1 : Nat) ≠ 0; omega
  | j :: J, hJ, hm => by
    have h1 : j ≠ i := fun e => hm (by simp [e])
    exact mul_ne_zero h (fac_lt h _ _) (lev_lt h _ J) (fac_ne h (hJ j (by simp)) hi h1) (lev_ne h hi J (fun k hk => hJ k (by simp [hk])) (fun hk => hm (by simp [hk])))

/-- What errors make of all roots, as a series. -/
def geo (j b y : Nat) (hy : y < F.size) : Ser F h := ⟨fun i => mul F y (ex F (j * (i + b))), fun _ => mul_lt h hy⟩
def syn (Y : Nat → Nat) (hY : ∀ j, Y j < F.size) (b : Nat) : List Nat → Ser F h
  | [] => zr
  | j :: J => geo j b (Y j) (hY j) + syn Y hY b J
/-- The evaluator. -/
def evl (Y : Nat → Nat) (hY : ∀ j, Y j < F.size) (b : Nat) : List Nat → Ser F h
  | [] => zr
  | j :: J => li (ex F j) (exl h j) * evl Y hY b J + mo 0 (mul F (Y j) (ex F (j * b))) (mul_lt h (hY j)) * loc J
theorem geo_li (j b y : Nat) (hy : y < F.size) : li (ex F j) (exl h j) * geo j b y hy = (mo 0 (mul F y (ex F (j * b))) (mul_lt h hy) : Ser F h) := Ser.same fun n => by
  rw [li_mul]
  show mul F y (ex F (j * (n + b))) ^^^ (if 1 ≤ n then mul F (mul F y (ex F (j * (n - 1 + b)))) (ex F j) else 0) = if n = 0 then mul F y (ex F (j * b)) else 0
  by_cases hn : n = 0
  · subst hn
    rw [if_neg (by omega), if_pos rfl, Nat.zero_add, Nat.xor_zero]
  · rw [if_pos (by omega), if_neg hn, mul_assoc h hy (exl h _) (exl h j), mul_ex h, ← Nat.mul_succ, show (n - 1 + b).succ = n + b by omega, Nat.xor_self]
variable {Y : Nat → Nat} {hY : ∀ j, Y j < F.size} {b : Nat}
theorem syn_loc : ∀ J : List Nat, (syn Y hY b J * loc J : Ser F h) = evl Y hY b J
  | [] => zr_mul _
  | j :: J => by
    show (geo j b (Y j) (hY j) + syn Y hY b J) * (li (ex F j) (exl h j) * loc J) = li (ex F j) (exl h j) * evl Y hY b J + _ * loc J
    rw [sadd_mul, ← geo_li j b (Y j) (hY j), ← syn_loc J, sadd_comm]
    congr 1
    · rw [smul_left_comm]
    · rw [← smul_assoc, smul_comm (geo j b (Y j) (hY j))]
theorem mo0_deg (x : Nat) (hx : x < F.size) : Deg (mo 0 x hx : Ser F h) 1 := fun i hi => by
  show mon 0 x i = 0
  unfold mon; rw [if_neg (by omega)]
theorem mo0_at (x : Nat) (hx : x < F.size) (y : Nat) : at_ (mo 0 x hx : Ser F h) 1 y = x := by
  show 0 ^^^ mul F x 1 = x
  rw [Nat.zero_xor, mul_one h hx]
theorem evl_deg : ∀ J : List Nat, Deg (evl Y hY b J : Ser F h) J.length
  | [] => fun _ _ => rfl
  | j :: J => by
    refine Deg.add ?_ ?_
    · exact ((li_deg (ex F j) (exl h j)).mul (evl_deg J)).mono (by have : (j :: J).length = J.length + 1 := rfl; omega)
    · exact ((mo0_deg _ _).mul (loc_deg J)).mono (by have : (j :: J).length = J.length + 1 := rfl; omega)
/-- The locator's value but for one power. -/
def levx (F : Fld) (x i : Nat) : List Nat → Nat
  | [] => 1
  | j :: J => if j = i then levx F x i J else mul F (1 ^^^ mul F (ex F j) x) (levx F x i J)
theorem levx_lt (h : Six F) (x i : Nat) : ∀ J, levx F x i J < F.size
  | [] => by have := h.bounds; show 1 < F.size; omega
  | j :: J => by
    unfold levx
    split
    · exact levx_lt h x i J
    · exact mul_lt h (fac_lt h j x)
theorem levx_out (x i : Nat) : ∀ J : List Nat, i ∉ J → levx F x i J = lev F x J
  | [], _ => rfl
  | j :: J, hm => by
    unfold levx
    rw [if_neg (fun e => hm (by simp [e])), levx_out x i J (fun hk => hm (by simp [hk]))]; rfl
theorem levx_ne (h : Six F) {i : Nat} (hi : i < F.size - 1) : ∀ J : List Nat, (∀ j ∈ J, j < F.size - 1) → levx F (inv F (ex F i)) i J ≠ 0
  | [], _ => by show (1 : Nat) ≠ 0; omega
  | j :: J, hJ => by
    have ih := levx_ne h hi J (fun k hk => hJ k (by simp [hk]))
    unfold levx
    split
    · exact ih
    · rename_i e
      exact mul_ne_zero h (fac_lt h _ _) (levx_lt h _ _ J) (fac_ne h (hJ j (by simp)) hi e) ih
theorem at_same {p : Ser F h} {n m : Nat} (d : Deg p n) (e : Deg p m) (x : Nat) : at_ p n x = at_ p m x := by
  rw [← at_ext d (Nat.le_max_left n m), ← at_ext e (Nat.le_max_right n m)]
theorem evl_at {i : Nat} (hi : i < F.size - 1) : ∀ J : List Nat, J.Nodup → i ∈ J → at_ (evl Y hY b J : Ser F h) J.length (inv F (ex F i)) = mul F (mul F (Y i) (ex F (i * b))) (levx F (inv F (ex F i)) i J)
  | j :: J, nd, hm => by
    have hxl := inv_lt h (ex F i)
    obtain ⟨nj, nd'⟩ := List.nodup_cons.1 nd
    have e1 : at_ (li (ex F j) (exl h j) * evl Y hY b J : Ser F h) (J.length + 1) (inv F (ex F i)) = mul F (1 ^^^ mul F (ex F j) (inv F (ex F i))) (at_ (evl Y hY b J : Ser F h) J.length (inv F (ex F i))) := by
      have e := at_mul (h := h) (li_deg (ex F j) (exl h j)) (evl_deg (Y := Y) (hY := hY) (b := b) J) hxl
      rw [li_at _ _ hxl] at e
      rw [← e]
      exact (at_ext (((li_deg (ex F j) (exl h j)).mul (evl_deg J)).mono (by omega)) (by omega) _).symm
    have e2 : at_ (mo 0 (mul F (Y j) (ex F (j * b))) (mul_lt h (hY j)) * loc J : Ser F h) (J.length + 1) (inv F (ex F i)) = mul F (mul F (Y j) (ex F (j * b))) (lev F (inv F (ex F i)) J) := by
      have e := at_mul (h := h) (mo0_deg (mul F (Y j) (ex F (j * b))) (mul_lt h (hY j))) (loc_deg J) hxl
      rw [mo0_at, loc_at hxl] at e
      rw [← e]
      exact (at_ext (((mo0_deg _ _).mul (loc_deg J)).mono (by omega)) (by omega) _).symm
    show at_ (li (ex F j) (exl h j) * evl Y hY b J + _ * loc J : Ser F h) (J.length + 1) _ = _
    rw [at_add, e1, e2]
    by_cases e : j = i
    · subst e
      rw [fac_zero h hi, zero_mul h, Nat.zero_xor]
      unfold levx
      rw [if_pos rfl, levx_out _ _ J nj]
    · have hm' : i ∈ J := by
        rcases List.mem_cons.1 hm with h1 | h1
        · exact absurd h1.symm e
        · exact h1
      rw [lev_zero h hi J hm', RS.mul_zero h (mul_lt h (hY j)), Nat.xor_zero, evl_at hi J nd' hm']
      have hyl : mul F (Y i) (ex F (i * b)) < F.size := mul_lt h (hY i)
      have hll := levx_lt h (inv F (ex F i)) i J
      have hfl := fac_lt h j (inv F (ex F i))
      show mul F _ (mul F _ (levx F _ i J)) = mul F _ (if j = i then _ else mul F _ (levx F _ i J))
      rw [if_neg e, ← mul_assoc h hfl hyl hll, mul_comm h hfl hyl, mul_assoc h hyl hfl hll]
theorem evl_ne (hY0 : ∀ j, Y j ≠ 0) {i : Nat} (hi : i < F.size - 1) (hib : ex F (i * b) ≠ 0) {J : List Nat} (nd : J.Nodup) (hJ : ∀ j ∈ J, j < F.size - 1) (hm : i ∈ J) : at_ (evl Y hY b J : Ser F h) J.length (inv F (ex F i)) ≠ 0 := by
  rw [evl_at hi J nd hm]
  exact mul_ne_zero h (mul_lt h (hY i)) (levx_lt h _ _ J) (mul_ne_zero h (hY i) (exl h _) (hY0 i) hib) (levx_ne h hi J hJ)

/-- The quotient by 1 + X x. -/
def quo (F : Fld) (p : Nat → Nat) (X : Nat) : Nat → Nat
  | 0 => p 0
  | k + 1 => p (k + 1) ^^^ mul F (quo F p X k) X
theorem quo_lt (h : Six F) {p : Nat → Nat} (hp : ∀ n, p n < F.size) {X : Nat} : ∀ k, quo F p X k < F.size
  | 0 => hp 0
  | k + 1 => xor_lt_size h (hp _) (mul_lt h (quo_lt h hp k))
theorem quo_ve (h : Six F) {p : Nat → Nat} (hp : ∀ n, p n < F.size) {X x : Nat} (hX : X < F.size) (hx : x < F.size) (hXx : mul F X x = 1) : ∀ k, mul F (quo F p X k) (pw F x k) = ve F p x (k + 1)
  | 0 => by
    show mul F (p 0) 1 = 0 ^^^ mul F (p 0) 1
    rw [Nat.zero_xor]
  | k + 1 => by
    have q := quo_lt h hp (X := X) k
    have pl := pw_lt h (x := x) k
    rw [ve_succ, ← quo_ve h hp hX hx hXx k]
    show mul F (p (k + 1) ^^^ mul F (quo F p X k) X) (pw F x (k + 1)) = _
    rw [mul_xor_left h (hp _) (mul_lt h q), Nat.xor_comm]
    congr 1
    show mul F (mul F (quo F p X k) X) (mul F (pw F x k) x) = mul F (quo F p X k) (pw F x k)
    rw [mul_comm h pl hx, mul_assoc h q hX (mul_lt h hx), ← mul_assoc h hX hx pl, hXx, one_mul h pl]
theorem pw_ne (h : Six F) {x : Nat} (hx : x < F.size) (h0 : x ≠ 0) : ∀ k, pw F x k ≠ 0
  | 0 => by show (1 : Nat) ≠ 0; omega
  | k + 1 => mul_ne_zero h (pw_lt h k) hx (pw_ne h hx h0 k) h0
theorem factor (p : Ser F h) (n : Nat) (d : Deg p (n + 1)) {X x : Nat} (hX : X < F.size) (hx : x < F.size) (hXx : mul F X x = 1) (hz : at_ p (n + 1) x = 0) : ∃ q : Ser F h, Deg q n ∧ p = li X hX * q := by
  refine ⟨⟨quo F p.c X, quo_lt h p.lt⟩, fun k hk => ?_, Ser.same fun k => ?_⟩
  · have x0 : x ≠ 0 := by intro e; rw [e, mul_zero h hX] at hXx; cases hXx
    have e := quo_ve h p.lt hX hx hXx k
    have e2 : ve F p.c x (k + 1) = 0 := (at_ext d (by omega) x).trans hz
    rw [e2] at e
    rcases Nat.eq_zero_or_pos (quo F p.c X k) with h1 | h1
    · exact h1
    · exact absurd e (mul_ne_zero h (quo_lt h p.lt k) (pw_lt h k) (by omega) (pw_ne h hx x0 k))
  · rw [li_mul]
    show p.c k = quo F p.c X k ^^^ (if 1 ≤ k then mul F (quo F p.c X (k - 1)) X else 0)
    rcases k with _ | k
    · rw [if_neg (by omega), Nat.xor_zero]; rfl
    · rw [if_pos (by omega), Nat.add_sub_cancel]
      show p.c (k + 1) = (p.c (k + 1) ^^^ mul F (quo F p.c X k) X) ^^^ mul F (quo F p.c X k) X
      rw [Nat.xor_assoc, Nat.xor_self, Nat.xor_zero]
theorem factor_all : ∀ J : List Nat, J.Nodup → (∀ j ∈ J, j < F.size - 1) → ∀ (n : Nat) (p : Ser F h), Deg p (n + J.length) → (∀ j ∈ J, at_ p (n + J.length) (inv F (ex F j)) = 0) → ∃ q : Ser F h, Deg q n ∧ p = q * loc J
  | [], _, _, n, p, d, _ => ⟨p, d, (mul_on p).symm⟩
  | j :: J, nd, hJ, n, p, d, hz => by
    obtain ⟨nj, nd'⟩ := List.nodup_cons.1 nd
    have hjl := hJ j (by simp)
    obtain ⟨q1, d1, e1⟩ := factor p (n + J.length) d (exl h j) (inv_lt h _) (inv_ex h hjl) (hz j (by simp))
    obtain ⟨q, d2, e2⟩ := factor_all J nd' (fun k hk => hJ k (by simp [hk])) n q1 d1 (fun i hi => by
      have hil := hJ i (by simp [hi])
      have z := hz i (by simp [hi])
      have e := at_mul (h := h) (li_deg (ex F j) (exl h j)) d1 (inv_lt h (ex F i))
      rw [← e1, at_ext d (by have : (j :: J).length = J.length + 1 := rfl; omega), z, li_at _ _ (inv_lt h _)] at e
      rcases Nat.eq_zero_or_pos (at_ q1 (n + J.length) (inv F (ex F i))) with h1 | h1
      · exact h1
      · exact absurd e.symm (mul_ne_zero h (fac_lt h _ _) (at_lt _ _ _) (fac_ne h hjl hil (fun e => nj (e ▸ hi))) (by omega)))
    refine ⟨q, d2, ?_⟩
    rw [e1, e2]
    show _ = q * (li (ex F j) (exl h j) * loc J)
    rw [smul_left_comm]

/-- What Euclid's algorithm ends with: a multiple of the locator and of the evaluator. -/
theorem euclid_end (hY0 : ∀ j, Y j ≠ 0) {J : List Nat} (nd : J.Nodup) (hJ : ∀ j ∈ J, j < F.size - 1) (hJb : ∀ j ∈ J, ex F (j * b) ≠ 0) {M : Nat} (hν : 2 * J.length ≤ M)
    (S t r s tL sL : Ser F h) (hS : ∀ i, i < M → S.c i = (syn Y hY b J : Ser F h).c i) (dS : Deg S M)
    (e1 : r = s * xp M + t * S) (e3 : s * tL + sL * t = on) {nr nt nl nm : Nat} (dr : Deg r nr) (dt : Deg t nt) (dtL : Deg tL nl) (dsL : Deg sL nm) (br : 2 * nr ≤ M + 1) (bt : 2 * nt ≤ M + 2) :
    ∃ k, k < F.size ∧ k ≠ 0 ∧ (∀ i, t.c i = mul F ((loc J : Ser F h).c i) k) ∧ (∀ i, r.c i = mul F ((evl Y hY b J : Ser F h).c i) k) := by
  obtain ⟨Sh, hSh⟩ : ∃ Sh : Ser F h, Sh = syn Y hY b J := ⟨_, rfl⟩
  obtain ⟨T, hT⟩ : ∃ T : Ser F h, T = ⟨fun i => Sh.c (i + M), fun i => Sh.lt _⟩ := ⟨_, rfl⟩
  have hsum : Sh = S + xp M * T := Ser.same fun n => by
    rw [add_c, xp_mul]
    by_cases hn : M ≤ n
    · rw [if_pos hn, dS n hn, Nat.zero_xor, hT]
      show Sh.c n = Sh.c (n - M + M)
      congr 1; omega
    · rw [if_neg hn, Nat.xor_zero, hS n (by omega), hSh]
  have hl : Sh * loc J = evl Y hY b J := by rw [hSh]; exact syn_loc J
  have hl0 : (loc J : Ser F h).c 0 ≠ 0 := by rw [loc_0]; omega
  have hA : r + t * Sh = xp M * (s + t * T) := by
    rw [e1, hsum, smul_add t, sadd_assoc, ← sadd_assoc (t * S), sadd_self, zr_sadd, smul_add, smul_comm s, smul_left_comm]
  have hB : r * loc J + t * evl Y hY b J = xp M * ((s + t * T) * loc J) := by
    rw [← hl, ← smul_assoc t, ← sadd_mul, hA, smul_assoc]
  have dB : Deg (r * loc J + t * evl Y hY b J) M := Deg.add ((dr.mul (loc_deg J)).mono (by omega)) ((dt.mul (evl_deg J)).mono (by omega))
  have hC : (s + t * T) * loc J = zr := Ser.same fun n => by
    have e := dB (n + M) (by omega)
    rw [hB, xp_mul, if_pos (by omega), Nat.add_sub_cancel] at e
    exact e
  have hD : s = t * T := sadd_move (unit_cancel hl0 (by rw [smul_comm]; exact hC))
  have hE : r = t * Sh := sadd_move (by rw [hA, hD, sadd_self, mul_zr])
  have hF : t * (T * tL + sL) = on := by rw [← e3, hD, smul_add, smul_assoc, smul_comm sL]
  have ht0 := unit_of hF
  have hG : t * evl Y hY b J = r * loc J := by rw [← hl, hE, smul_assoc]
  have hroot : ∀ j ∈ J, at_ t nt (inv F (ex F j)) = 0 := fun j hj => by
    have hjl := hJ j hj
    have xl := inv_lt h (ex F j)
    have a1 := at_mul dt (evl_deg (Y := Y) (hY := hY) (b := b) J) xl
    have a2 := at_mul dr (loc_deg (h := h) J) xl
    rw [loc_at xl, lev_zero h hjl J hj, RS.mul_zero h (at_lt _ _ _)] at a2
    have d1 : Deg (t * evl Y hY b J) (nt + J.length) := (dt.mul (evl_deg J)).mono (by omega)
    have d2 : Deg (t * evl Y hY b J) (nr + (J.length + 1)) := by rw [hG]; exact (dr.mul (loc_deg J)).mono (by omega)
    rw [at_same d1 d2, hG, a2] at a1
    rcases Nat.eq_zero_or_pos (at_ t nt (inv F (ex F j))) with h1 | h1
    · exact h1
    · exact absurd a1.symm (mul_ne_zero h (at_lt _ _ _) (at_lt _ _ _) (by omega) (evl_ne hY0 hjl (hJb j hj) nd hJ hj))
  obtain ⟨q, dq, hq⟩ := factor_all J nd hJ nt t (dt.mono (by omega)) (fun j hj => by rw [at_ext dt (by omega)]; exact hroot j hj)
  have hR : r = q * evl Y hY b J := by rw [hE, hq, smul_assoc, smul_comm (loc J), hl]
  have dU : Deg (loc J * T) (J.length + M) := fun i hi => by
    have e : xp M * (loc J * T) = evl Y hY b J + loc J * S := by
      rw [smul_left_comm, ← hl, smul_comm Sh, ← smul_add, hsum, sadd_comm (S + xp M * T), ← sadd_assoc, sadd_self, zr_sadd]
    have e2 : (xp M * (loc J * T)).c (i + M) = (loc J * T).c i := by rw [xp_mul, if_pos (by omega), Nat.add_sub_cancel]
    rw [← e2, e]
    exact Deg.add ((evl_deg J).mono (by omega)) (((loc_deg J).mul dS).mono (by omega)) (i + M) (Nat.le_refl _)
  have hW : q * (loc J * T * tL + sL * loc J) = on := by
    rw [← e3, hD, hq, smul_add, smul_assoc, smul_assoc, smul_left_comm q sL, smul_assoc]
  have dW : Deg (loc J * T * tL + sL * loc J) (max (J.length + M + nl) (nm + (J.length + 1))) := Deg.add ((dU.mul dtL).mono (by omega)) ((dsL.mul (loc_deg J)).mono (by omega))
  have dq1 := const_of dq dW hW
  have hq1 : q = mo 0 (q.c 0) (q.lt 0) := Ser.same fun n => by
    show q.c n = if n = 0 then q.c 0 else 0
    split
    · rename_i e; rw [e]
    · exact dq1 n (by omega)
  refine ⟨q.c 0, q.lt 0, unit_of hW, fun i => ?_, fun i => ?_⟩
  · rw [hq, hq1, mo_mul, if_pos (Nat.zero_le _)]; rfl
  · rw [hR, hq1, mo_mul, if_pos (Nat.zero_le _)]; rfl
end Go.Qz.RS
namespace Go.Qz.RS
open Go.Qz
set_option linter.unusedVariables false
variable {F : Fld} {h : Six F}

/-- A list as a series. -/
def sr (l : List Nat) : Ser F h := ⟨fun n => if co l n < F.size then co l n else 0, fun n => by
  have := h.bounds
  show (if _ then _ else _) < _
  split <;> omega⟩
theorem sr_c {l : List Nat} (hl : El F l) (n : Nat) : (sr l : Ser F h).c n = co l n := by
  show (if co l n < F.size then co l n else 0) = _
  rw [if_pos (co_lt hl n)]
theorem sr_deg {l : List Nat} (hl : El F l) : Deg (sr l : Ser F h) l.length := fun i hi => by rw [sr_c hl, co_past hi]
theorem el_one (h : Six F) : El F [1] := gen_el h 0
theorem el_zero (h : Six F) : El F [0] := fun j => by
  have := h.bounds
  rcases j with _ | j
  · show 0 < F.size; omega
  · show 0 < F.size; omega
theorem sr_one : (sr [1] : Ser F h) = on := Ser.same fun n => by
  rw [sr_c (el_one h), on_c, co_cons]
  rcases n with _ | n
  · rfl
  · rw [if_neg (by simp), co_past (by simp), if_neg (by omega)]
theorem sr_zero : (sr [0] : Ser F h) = zr := Ser.same fun n => by
  rw [sr_c (el_zero h)]
  exact co_zeros 1 n
theorem sr_mon (M : Nat) : (sr (monL M 1) : Ser F h) = xp M := Ser.same fun n => by
  rw [sr_c (monL_el h M (by have := h.bounds; omega)), co_monL]; rfl
theorem sr_plus {a b : List Nat} (ha : El F a) (hb : El F b) : (sr (plus a b) : Ser F h) = sr a + sr b := Ser.same fun n => by
  rw [sr_c (plus_el h ha hb), co_plus, add_c, sr_c ha, sr_c hb]
theorem sr_prod {a b : List Nat} (ha : El F a) (hb : El F b) (han : a ≠ []) (hbn : b ≠ []) : (sr (prod F a b) : Ser F h) = sr a * sr b := Ser.same fun n => by
  rw [sr_c (prod_el h ha hb), co_prod h ha hb han hbn, mul_c]
  exact xs_congr fun i _ => by
    show mul F (co a i) (co b (n - i)) = mul F ((sr a : Ser F h).c i) ((sr b : Ser F h).c (n - i))
    rw [sr_c ha, sr_c hb]

/-- The quotient of a division is no longer than it must be. -/
theorem Dv.quot (h : Six F) {p d q r : List Nat} (v : Dv F p d q r) (hd : tidy d = d) (hdn : d ≠ []) (hde : El F d) (hd0 : d ≠ [0]) (hle : d.length ≤ p.length) (hr : r.length < d.length ∨ r = [0]) : q.length + d.length ≤ p.length + 1 := by
  have hql := List.length_pos_iff.2 v.qn
  have hdl := List.length_pos_iff.2 hdn
  by_cases hq0 : q = [0]
  · rw [hq0]; show 1 + d.length ≤ _; omega
  · have e1 := co_top v.qt v.qn hq0
    have e2 := co_top hd hdn hd0
    have e3 := v.eq (q.length - 1 + (d.length - 1))
    have er : co r (q.length - 1 + (d.length - 1)) = 0 := by
      rcases hr with h1 | h1
      · exact co_past (by omega)
      · rw [h1]; exact co_zeros 1 _
    rw [er, Nat.xor_zero] at e3
    have e4 : pm F (co q) (co d) (q.length - 1 + (d.length - 1)) = mul F (co q (q.length - 1)) (co d (d.length - 1)) := by
      unfold pm
      rw [xs_one (k := q.length - 1) (by omega) (fun i hi hne => by
        show mul F (co q i) (co d (q.length - 1 + (d.length - 1) - i)) = 0
        by_cases h1 : i < q.length - 1
        · rw [co_past (l := d) (by omega), mul_zero h (co_lt v.qe i)]
        · rw [co_past (l := q) (by omega), zero_mul h])]
      show mul F (co q (q.length - 1)) (co d (q.length - 1 + (d.length - 1) - (q.length - 1))) = _
      rw [show q.length - 1 + (d.length - 1) - (q.length - 1) = d.length - 1 by omega]
    have e5 := mul_ne_zero h (co_lt v.qe _) (co_lt hde _) e1 e2
    rcases Nat.lt_or_ge (q.length - 1 + (d.length - 1)) p.length with h1 | h1
    · omega
    · rw [co_past (l := p) h1] at e3
      rw [e4] at e3
      exact absurd e3 e5

/-- What Euclid's algorithm keeps. -/
structure EuInv (S : Ser F h) (M : Nat) (rl rr tl tt : List Nat) : Prop where
  eL : El F rl
  eR : El F rr
  eT : El F tl
  eU : El F tt
  tL : tidy rl = rl
  tR : tidy rr = rr
  tT : tidy tl = tl
  tU : tidy tt = tt
  nL : rl ≠ []
  nR : rr ≠ []
  nT : tl ≠ []
  nU : tt ≠ []
  ll : rl.length ≤ M + 1
  lt : rr.length < rl.length
  b1 : tt.length + rl.length ≤ M + 2
  b2 : tl.length + rl.length ≤ M + 2
  b3 : M + 2 ≤ 2 * rl.length
  hx : ∃ (s sL : Ser F h) (n : Nat), Deg s n ∧ Deg sL n ∧ sr rr = s * xp M + sr tt * S ∧ sr rl = sL * xp M + sr tl * S ∧ s * sr tl + sL * sr tt = on
theorem monL_len (M : Nat) : (monL M 1).length = M + 1 := by simp [monL]
theorem EuInv.start {S : Ser F h} {M : Nat} (hM : 1 ≤ M) {l : List Nat} (el : El F l) (tl : tidy l = l) (nl : l ≠ []) (hl : l.length ≤ M) (hS : ∀ n, co l n = S.c n) : EuInv S M (monL M 1) l [0] [1] := by
  have e : (sr l : Ser F h) = S := Ser.same fun n => by rw [sr_c el, hS]
  refine ⟨monL_el h M (by have := h.bounds; omega), el, el_zero h, el_one h, monL_tidy M 1, tl, rfl, rfl, monL_ne M 1, nl, by simp, by simp, by rw [monL_len]; omega, by rw [monL_len]; omega, by rw [monL_len]; show 1 + _ ≤ _; omega, by rw [monL_len]; show 1 + _ ≤ _; omega, by rw [monL_len]; omega, zr, on, 1, fun _ _ => rfl, Deg.on, ?_, ?_, ?_⟩
  · rw [zr_mul, zr_sadd, sr_one, on_mul, e]
  · rw [sr_mon, on_mul, sr_zero, zr_mul, sadd_zr]
  · rw [zr_mul, zr_sadd, sr_one, on_mul]
theorem EuInv.next {S : Ser F h} {M : Nat} {rl rr tl tt q r : List Nat} (I : EuInv S M rl rr tl tt) (hr2 : 2 * (rr.length - 1) ≥ M) (hM : 2 ≤ M) (v : Dv F rl rr q r) (hr : r.length < rr.length ∨ r = [0]) : EuInv S M rr r tt (plus (prod F q tt) tl) := by
  have hrr0 : rr ≠ [0] := by intro e; rw [e] at hr2; simp at hr2; omega
  have hq := v.quot h I.tR I.nR I.eR hrr0 (by have := I.lt; omega) hr
  have hp := prod_length F q tt
  have hs := plus_length (prod F q tt) tl
  have hql := List.length_pos_iff.2 v.qn
  have htl := List.length_pos_iff.2 I.nU
  have hlr := I.lt
  have hb1 := I.b1
  have hb2 := I.b2
  have hrrl := List.length_pos_iff.2 I.nR
  obtain ⟨s, sL, ns, d1, d2, i1, i2, i3⟩ := I.hx
  have e1 : (sr rl : Ser F h) = sr q * sr rr + sr r := by
    have := Dv.law h I.tL I.nL I.nR I.eR v
    rw [← this, sr_plus (prod_el h v.qe I.eR) v.re, sr_prod v.qe I.eR v.qn I.nR]
  have e2 : (sr (plus (prod F q tt) tl) : Ser F h) = sr q * sr tt + sr tl := by
    rw [sr_plus (prod_el h v.qe I.eU) I.eT, sr_prod v.qe I.eU v.qn I.nU]
  have e3 : (sr r : Ser F h) = sr q * sr rr + sr rl := by rw [e1, ← sadd_assoc, sadd_self, zr_sadd]
  refine ⟨I.eR, v.re, I.eU, plus_el h (prod_el h v.qe I.eU) I.eT, I.tR, v.rt, I.tU, plus_tidy _ _, I.nR, v.rn, I.nU, plus_ne (.inr I.nT), by have := I.ll; omega, ?_, by omega, by omega, by omega, sr q * s + sL, s, q.length + ns, Deg.add (((sr_deg v.qe).mul d1).mono (by omega)) (d2.mono (by omega)), d1.mono (by omega), ?_, i1, ?_⟩
  · rcases hr with h1 | h1
    · exact h1
    · rw [h1]; show 1 < rr.length; omega
  · rw [e3, e2, i1, i2, smul_add, sadd_mul, sadd_mul, smul_assoc, smul_assoc, sadd_assoc, sadd_assoc]
    congr 1
    rw [← sadd_assoc, ← sadd_assoc, sadd_comm (sr q * (sr tt * S))]
  · rw [e2, sadd_mul, smul_add, smul_assoc, smul_left_comm (sr q), ← i3]
    rw [sadd_comm (s * (sr q * sr tt)), ← sadd_assoc]
    rw [sadd_assoc (sL * sr tt), sadd_self, sadd_zr, sadd_comm]
/-- What is left at the end. -/
theorem EuInv.final {Y : Nat → Nat} {hY : ∀ j, Y j < F.size} {b : Nat} (hY0 : ∀ j, Y j ≠ 0) {J : List Nat} (nd : J.Nodup) (hJ : ∀ j ∈ J, j < F.size - 1) (hJb : ∀ j ∈ J, ex F (j * b) ≠ 0) {M : Nat} (hν : 2 * J.length ≤ M)
    {S : Ser F h} (hS : ∀ i, i < M → S.c i = (syn Y hY b J : Ser F h).c i) (dS : Deg S M) {rl rr tl tt : List Nat} (I : EuInv S M rl rr tl tt) (hend : 2 * (rr.length - 1) < M) :
    ∃ k, k < F.size ∧ k ≠ 0 ∧ (∀ i, co tt i = mul F ((loc J : Ser F h).c i) k) ∧ (∀ i, co rr i = mul F ((evl Y hY b J : Ser F h).c i) k) := by
  obtain ⟨s, sL, ns, d1, d2, i1, i2, i3⟩ := I.hx
  have hrl := List.length_pos_iff.2 I.nR
  have b1 := I.b1
  have b3 := I.b3
  obtain ⟨k, k1, k2, k3, k4⟩ := euclid_end hY0 nd hJ hJb hν S (sr tt) (sr rr) s (sr tl) sL hS dS i1 i3 (sr_deg I.eR) (sr_deg I.eU) (sr_deg I.eT) d2 (by omega) (by omega)
  exact ⟨k, k1, k2, fun i => by rw [← k3, sr_c I.eU], fun i => by rw [← k4, sr_c I.eR]⟩
end Go.Qz.RS
