/-
  Plain facts on power series over a field: a ring of characteristic 2; degrees, values, units. No program in sight.
-/
import Derived.Test.YthagfgfefkpikaaGFE
namespace Go.Qz.RS
open Go.Qz
set_option linter.unusedVariables false

/-- A series over a field. -/
structure Ser (F : Fld) (h : Six F) where
  c : Nat → Nat
  lt : ∀ n, c n < F.size
variable {F : Fld} {h : Six F}
theorem Ser.same {a b : Ser F h} (e : ∀ n, a.c n = b.c n) : a = b := by
  cases a with
  | mk x hx =>
    cases b with
    | mk y hy =>
      have : x = y := funext e
      subst this; rfl
instance : Add (Ser F h) := ⟨fun a b => ⟨fun n => a.c n ^^^ b.c n, fun n => xor_lt_size h (a.lt n) (b.lt n)⟩⟩
instance : Mul (Ser F h) := ⟨fun a b => ⟨pm F a.c b.c, pm_lt h a.lt⟩⟩
/-- Nothing; a coefficient times a power. -/
def zr : Ser F h := ⟨fun _ => 0, fun _ => by have := h.bounds; omega⟩
def mo (k : Nat) (x : Nat) (hx : x < F.size) : Ser F h := ⟨mon k x, mon_lt h k hx⟩
theorem one_lt : 1 < F.size ∨ ¬ Six F := by
  by_cases hh : Six F
  · left; have := hh.bounds; omega
  · exact .inr hh
def xp (k : Nat) : Ser F h := mo k 1 (by have := h.bounds; omega)
def on : Ser F h := xp 0
theorem add_c (a b : Ser F h) (n : Nat) : (a + b).c n = a.c n ^^^ b.c n := rfl
theorem mul_c (a b : Ser F h) (n : Nat) : (a * b).c n = pm F a.c b.c n := rfl
theorem sadd_comm (a b : Ser F h) : a + b = b + a := Ser.same fun n => Nat.xor_comm _ _
theorem sadd_assoc (a b d : Ser F h) : a + b + d = a + (b + d) := Ser.same fun n => Nat.xor_assoc _ _ _
theorem sadd_self (a : Ser F h) : a + a = zr := Ser.same fun n => Nat.xor_self _
theorem sadd_zr (a : Ser F h) : a + zr = a := Ser.same fun n => Nat.xor_zero _
theorem zr_sadd (a : Ser F h) : zr + a = a := Ser.same fun n => Nat.zero_xor _
theorem sadd_move {a b : Ser F h} (e : a + b = zr) : a = b := by
  have : a + b + b = b := by rw [e, zr_sadd]
  rwa [sadd_assoc, sadd_self, sadd_zr] at this
theorem pm_comm {a b : Nat → Nat} (ha : ∀ n, a n < F.size) (hb : ∀ n, b n < F.size) (h : Six F) (n : Nat) : pm F a b n = pm F b a n := by
  unfold pm
  rw [xs_rev]
  refine xs_congr fun i hi => ?_
  show mul F (a (n + 1 - 1 - i)) (b (n - (n + 1 - 1 - i))) = mul F (b i) (a (n - i))
  rw [show n + 1 - 1 - i = n - i by omega, show n - (n - i) = i by omega, mul_comm h (ha _) (hb _)]
theorem smul_comm (a b : Ser F h) : a * b = b * a := Ser.same fun n => pm_comm a.lt b.lt h n
theorem smul_add (a b d : Ser F h) : a * (b + d) = a * b + a * d := Ser.same fun n => pm_xor_right h a.lt n
theorem sadd_mul (a b d : Ser F h) : (a + b) * d = a * d + b * d := Ser.same fun n => pm_xor_left h a.lt b.lt n
theorem xs_skip (f : Nat → Nat) (k : Nat) (hz : ∀ i, i < k → f i = 0) : ∀ m, xs f (k + m) = xs (fun j => f (k + j)) m
  | 0 => xs_zero hz
  | m + 1 => by
    show xs f (k + m) ^^^ f (k + m) = xs (fun j => f (k + j)) m ^^^ f (k + m)
    rw [xs_skip f k hz m]
theorem pm_shf (h : Six F) {b d : Nat → Nat} (hb : ∀ n, b n < F.size) (hd : ∀ n, d n < F.size) (k : Nat) {x : Nat} (hx : x < F.size) (n : Nat) : pm F (shf F b k x) d n = shf F (pm F b d) k x n := by
  by_cases hk : k ≤ n
  · obtain ⟨m, rfl⟩ : ∃ m, n = k + m := ⟨n - k, by omega⟩
    have e : shf F (pm F b d) k x (k + m) = mul F (pm F b d m) x := by
      unfold shf; rw [if_pos (by omega), show k + m - k = m by omega]
    rw [e]
    unfold pm
    rw [show k + m + 1 = k + (m + 1) by omega, xs_skip _ k (fun i hi => by
      show mul F (shf F b k x i) _ = 0
      unfold shf; rw [if_neg (by omega), zero_mul h]), mul_xs_left h x (fun i _ => mul_lt h (hb i))]
    refine xs_congr fun j hj => ?_
    show mul F (shf F b k x (k + j)) (d (k + m - (k + j))) = mul F (mul F (b j) (d (m - j))) x
    unfold shf
    rw [if_pos (by omega), show k + j - k = j by omega, show k + m - (k + j) = m - j by omega, mul_assoc h (hb j) hx (hd _), mul_assoc h (hb j) (hd _) hx, mul_comm h hx (hd _)]
  · have e : shf F (pm F b d) k x n = 0 := by unfold shf; rw [if_neg hk]
    rw [e]
    refine xs_zero fun i hi => ?_
    show mul F (shf F b k x i) _ = 0
    unfold shf; rw [if_neg (by omega), zero_mul h]
theorem pm_tr {a b : Nat → Nat} {n N : Nat} (hN : n < N) : pm F (tr a N) b n = pm F a b n := xs_congr fun i hi => by
  show mul F (tr a N i) _ = mul F (a i) _
  unfold tr; rw [if_pos (by omega)]
theorem pm_nul (h : Six F) {a b : Nat → Nat} (ha : ∀ i, a i = 0) (n : Nat) : pm F a b n = 0 := xs_zero fun i _ => by
  show mul F (a i) _ = 0
  rw [ha i, zero_mul h]
theorem pm_assoc_tr (h : Six F) {a b d : Nat → Nat} (ha : ∀ n, a n < F.size) (hb : ∀ n, b n < F.size) (hd : ∀ n, d n < F.size) (n : Nat) : ∀ N, pm F (pm F (tr a N) b) d n = pm F (tr a N) (pm F b d) n
  | 0 => by
    have z : ∀ i, tr a 0 i = 0 := fun i => by unfold tr; rw [if_neg (by omega)]
    rw [pm_nul h (fun i => pm_nul h z i), pm_nul h z]
  | N + 1 => by
    have e1 : pm F (tr a (N + 1)) b = fun i => pm F (tr a N) b i ^^^ shf F b N (a N) i := by
      funext i
      rw [tr_succ, pm_xor_left h (tr_lt h ha N) (mon_lt h N (ha N)), pm_mon_left h hb N (ha N)]
    have sl : ∀ i, shf F b N (a N) i < F.size := fun i => by
      unfold shf; split
      · exact mul_lt h (hb _)
      · have := h.bounds; omega
    rw [e1, pm_xor_left h (pm_lt h (tr_lt h ha N)) sl, pm_assoc_tr h ha hb hd n N, pm_shf h hb hd N (ha N), tr_succ, pm_xor_left h (tr_lt h ha N) (mon_lt h N (ha N)), pm_mon_left h (pm_lt h hb) N (ha N)]
theorem smul_assoc (a b d : Ser F h) : a * b * d = a * (b * d) := Ser.same fun n => by
  have := pm_assoc_tr h a.lt b.lt d.lt n (n + 1)
  show pm F (pm F a.c b.c) d.c n = pm F a.c (pm F b.c d.c) n
  rw [← pm_tr (a := a.c) (Nat.lt_succ_self n), ← this]
  refine xs_congr fun i hi => ?_
  show mul F (pm F a.c b.c i) _ = mul F (pm F (tr a.c (n + 1)) b.c i) _
  rw [pm_tr (by omega)]
theorem smul_left_comm (a b d : Ser F h) : a * (b * d) = b * (a * d) := by rw [← smul_assoc, smul_comm a b, smul_assoc]
theorem mo_mul (k : Nat) {x : Nat} (hx : x < F.size) (a : Ser F h) (n : Nat) : (mo k x hx * a).c n = if k ≤ n then mul F (a.c (n - k)) x else 0 := pm_mon_left h a.lt k hx n
theorem xp_mul (k : Nat) (a : Ser F h) (n : Nat) : (xp k * a).c n = if k ≤ n then a.c (n - k) else 0 := by
  unfold xp
  rw [mo_mul]
  split
  · exact mul_one h (a.lt _)
  · rfl
theorem on_mul (a : Ser F h) : on * a = a := Ser.same fun n => by
  show (xp 0 * a).c n = _
  rw [xp_mul, if_pos (by omega)]; rfl
theorem mul_on (a : Ser F h) : a * on = a := by rw [smul_comm, on_mul]
theorem zr_mul (a : Ser F h) : zr * a = zr := Ser.same fun n => pm_nul h (fun _ => rfl) n
theorem mul_zr (a : Ser F h) : a * zr = zr := by rw [smul_comm, zr_mul]
theorem on_c (n : Nat) : (on : Ser F h).c n = if n = 0 then 1 else 0 := rfl

/-- Nothing from a power on. -/
def Deg (p : Ser F h) (n : Nat) : Prop := ∀ i, n ≤ i → p.c i = 0
theorem Deg.mono {p : Ser F h} {n m : Nat} (d : Deg p n) (hm : n ≤ m) : Deg p m := fun i hi => d i (by omega)
theorem Deg.add {p q : Ser F h} {n : Nat} (d : Deg p n) (e : Deg q n) : Deg (p + q) n := fun i hi => by rw [add_c, d i hi, e i hi]; rfl
theorem Deg.mul {p q : Ser F h} {n m : Nat} (d : Deg p n) (e : Deg q m) : Deg (p * q) (n + m - 1) := fun k hk => xs_zero fun i hi => by
  show RS.mul F (p.c i) (q.c (k - i)) = 0
  by_cases h1 : i < n
  · rw [e _ (by omega), RS.mul_zero h (p.lt i)]
  · rw [d _ (by omega), zero_mul h]
theorem Deg.on : Deg (on : Ser F h) 1 := fun i hi => by rw [on_c, if_neg (by omega)]
/-- The value of a series of a degree. -/
def at_ (p : Ser F h) (n x : Nat) : Nat := ve F p.c x n
theorem at_lt (p : Ser F h) (n x : Nat) : at_ p n x < F.size := ve_lt h p.lt x n
theorem at_ext {p : Ser F h} {n m : Nat} (d : Deg p n) (hm : n ≤ m) (x : Nat) : at_ p m x = at_ p n x := ve_ext h hm d
theorem at_mul {p q : Ser F h} {n m : Nat} (d : Deg p n) (e : Deg q m) {x : Nat} (hx : x < F.size) : at_ (p * q) (n + m) x = RS.mul F (at_ p n x) (at_ q m x) := by
  have := ve_pm_tr h p.lt q.lt hx e n
  rw [tr_all d] at this
  exact this
theorem at_add (p q : Ser F h) (n x : Nat) : at_ (p + q) n x = at_ p n x ^^^ at_ q n x := ve_xor h p.lt q.lt x n

/-- A series with a coefficient of the power 0 divides nothing but nothing. -/
theorem unit_cancel {u w : Ser F h} (hu : u.c 0 ≠ 0) (e : u * w = zr) : w = zr := by
  have key : ∀ N n, n < N → w.c n = 0 := by
    intro N
    induction N with
    | zero => intro n hn; omega
    | succ N ih =>
      intro n hn
      by_cases h1 : n < N
      · exact ih n h1
      · obtain rfl : n = N := by omega
        have e2 : (u * w).c n = 0 := by rw [e]; rfl
        rw [mul_c] at e2
        unfold pm at e2
        rw [xs_one (k := 0) (by omega) (fun i hi hne => by
          show RS.mul F (u.c i) (w.c (n - i)) = 0
          rw [ih _ (by omega), RS.mul_zero h (u.lt i)])] at e2
        have e3 : RS.mul F (u.c 0) (w.c n) = 0 := e2
        rcases Nat.eq_zero_or_pos (w.c n) with h2 | h2
        · exact h2
        · exact absurd e3 (mul_ne_zero h (u.lt 0) (w.lt n) hu (by omega))
  exact Ser.same fun n => key (n + 1) n (by omega)
theorem unit_inj {u a b : Ser F h} (hu : u.c 0 ≠ 0) (e : u * a = u * b) : a = b := by
  refine sadd_move (unit_cancel hu ?_)
  rw [smul_add, e, sadd_self]
theorem unit_of {t v : Ser F h} (e : t * v = on) : t.c 0 ≠ 0 := by
  intro h0
  have e2 : (t * v).c 0 = 1 := by rw [e]; rfl
  rw [mul_c] at e2
  have e3 : 0 ^^^ RS.mul F (t.c 0) (v.c 0) = 1 := e2
  rw [h0, zero_mul h] at e3
  cases e3
theorem top_of {p : Ser F h} {i : Nat} (hi : p.c i ≠ 0) : ∀ n, Deg p n → ∃ k, i ≤ k ∧ p.c k ≠ 0 ∧ Deg p (k + 1)
  | 0, d => absurd (d i (by omega)) hi
  | n + 1, d => by
    by_cases h0 : p.c n = 0
    · exact top_of hi n fun j hj => by
        by_cases e : j = n
        · rw [e, h0]
        · exact d j (by omega)
    · refine ⟨n, ?_, h0, d⟩
      rcases Nat.lt_or_ge n i with h1 | h1
      · exact absurd (d i (by omega)) hi
      · exact h1
theorem top_mul {p q : Ser F h} {a b : Nat} (d : Deg p (a + 1)) (e : Deg q (b + 1)) : (p * q).c (a + b) = RS.mul F (p.c a) (q.c b) := by
  rw [mul_c]
  unfold pm
  rw [xs_one (k := a) (by omega) (fun i hi hne => by
    show RS.mul F (p.c i) (q.c (a + b - i)) = 0
    by_cases h1 : i < a
    · rw [e _ (by omega), RS.mul_zero h (p.lt i)]
    · rw [d _ (by omega), zero_mul h])]
  show RS.mul F (p.c a) (q.c (a + b - a)) = _
  rw [show a + b - a = b by omega]
/-- Two polynomials whose product is 1 are constants. -/
theorem const_of {q w : Ser F h} {n m : Nat} (dq : Deg q n) (dw : Deg w m) (e : q * w = on) : Deg q 1 := by
  have q0 := unit_of e
  have w0 := unit_of (by rw [smul_comm]; exact e)
  obtain ⟨a, _, ha, da⟩ := top_of q0 n dq
  obtain ⟨b, _, hb, db⟩ := top_of w0 m dw
  have := top_mul da db
  rw [e, on_c] at this
  by_cases hab : a + b = 0
  · have : a = 0 := by omega
    subst this; exact da
  · rw [if_neg hab] at this
    exact absurd this.symm (mul_ne_zero h (q.lt a) (w.lt b) ha hb)
end Go.Qz.RS
