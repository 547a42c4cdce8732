/-
  Plain facts on errors in a code: the locator, the evaluator, and what Euclid's algorithm ends with. No program in sight.
-/
import Derived.Test.YthagfgfefkpikaaGFR
namespace Go.Qz.RS
open Go.Qz
set_option linter.unusedVariables false
variable {F : Fld} {h : Six F}

theorem exl (h : Six F) (j : Nat) : ex F j < F.size := ex_lt F (by have := h.bounds; omega) j
theorem ex_ne (h : Six F) {j : Nat} (hj : j < F.size - 1) : ex F j ≠ 0 := by have := ex_pos h j hj; omega
theorem ex_inj (h : Six F) {i j : Nat} (hi : i < F.size - 1) (hj : j < F.size - 1) (e : ex F i = ex F j) : i = j := by
  rw [← lg_ex h hi, ← lg_ex h hj, e]
/-- The inverse of a power. -/
theorem inv_ex (h : Six F) {j : Nat} (hj : j < F.size - 1) : mul F (ex F j) (inv F (ex F j)) = 1 := mul_inv h (exl h j) (ex_ne h hj)
theorem fac_zero (h : Six F) {j : Nat} (hj : j < F.size - 1) : 1 ^^^ mul F (ex F j) (inv F (ex F j)) = 0 := by rw [inv_ex h hj]; rfl
theorem fac_ne (h : Six F) {i j : Nat} (hi : i < F.size - 1) (hj : j < F.size - 1) (hne : i ≠ j) : 1 ^^^ mul F (ex F i) (inv F (ex F j)) ≠ 0 := by
  intro e
  have e2 : mul F (ex F i) (inv F (ex F j)) = 1 := by
    have : 1 ^^^ (1 ^^^ mul F (ex F i) (inv F (ex F j))) = 1 ^^^ 0 := by rw [e]
    rwa [← Nat.xor_assoc, Nat.xor_self, Nat.zero_xor, Nat.xor_zero] at this
  have e3 : mul F (mul F (ex F i) (inv F (ex F j))) (ex F j) = ex F j := by rw [e2, one_mul h (exl h j)]
  rw [mul_assoc h (exl h i) (inv_lt h _) (exl h j), mul_comm h (inv_lt h _) (exl h j), inv_ex h hj, mul_one h (exl h i)] at e3
  exact hne (ex_inj h hi hj e3)

/-- 1 + X x. -/
def li (X : Nat) (hX : X < F.size) : Ser F h := on + mo 1 X hX
theorem li_mul (X : Nat) (hX : X < F.size) (a : Ser F h) (n : Nat) : (li X hX * a).c n = a.c n ^^^ (if 1 ≤ n then mul F (a.c (n - 1)) X else 0) := by
  unfold li
  rw [sadd_mul, add_c, on_mul, mo_mul]
theorem li_deg (X : Nat) (hX : X < F.size) : Deg (li X hX : Ser F h) 2 := fun i hi => by
  show (on : Ser F h).c i ^^^ mon 1 X i = 0
  rw [on_c, if_neg (by omega)]
  unfold mon; rw [if_neg (by omega)]; rfl
theorem li_at (X : Nat) (hX : X < F.size) {x : Nat} (hx : x < F.size) : at_ (li X hX : Ser F h) 2 x = 1 ^^^ mul F X x := by
  have hs := h.bounds
  show (0 ^^^ mul F (1 ^^^ 0) 1) ^^^ mul F (0 ^^^ X) (mul F 1 x) = _
  rw [Nat.zero_xor, Nat.zero_xor, Nat.xor_zero, mul_one h (by omega), one_mul h hx]
theorem li_1 (X : Nat) (hX : X < F.size) : (li X hX : Ser F h).c 1 = X := by
  show 0 ^^^ X = X
  rw [Nat.zero_xor]

/-- The locator of errors at some powers. -/
def loc : List Nat → Ser F h
  | [] => on
  | j :: J => li (ex F j) (exl h j) * loc J
theorem loc_deg : ∀ J : List Nat, Deg (loc J : Ser F h) (J.length + 1)
  | [] => Deg.on
  | j :: J => (li_deg (ex F j) (exl h j)).mul (loc_deg J) |>.mono (by simp; omega)
theorem loc_0 : ∀ J : List Nat, (loc J : Ser F h).c 0 = 1
  | [] => rfl
  | j :: J => by
    show (li (ex F j) (exl h j) * loc J : Ser F h).c 0 = 1
    rw [li_mul, if_neg (by omega), Nat.xor_zero, loc_0 J]
theorem loc_top : ∀ J : List Nat, (∀ j ∈ J, j < F.size - 1) → (loc J : Ser F h).c J.length ≠ 0
  | [], _ => by show (1 : Nat) ≠ 0; omega
  | j :: J, hJ => by
    have e := top_mul (h := h) (li_deg (ex F j) (exl h j)) (loc_deg J)
    rw [li_1] at e
    show (li (ex F j) (exl h j) * loc J : Ser F h).c (J.length + 1) ≠ 0
    rw [Nat.add_comm, e]
    exact mul_ne_zero h (exl h j) (Ser.lt _ _) (ex_ne h (hJ j (by simp))) (loc_top J (fun k hk => hJ k (by simp [hk])))
/-- The locator's value. -/
def lev (F : Fld) (x : Nat) : List Nat → Nat
  | [] => 1
  | j :: J => mul F (1 ^^^ mul F (ex F j) x) (lev F x J)
theorem fac_lt (h : Six F) (j : Nat) (x : Nat) : 1 ^^^ mul F (ex F j) x < F.size := xor_lt_size h (by have := h.bounds; omega) (mul_lt h (exl h j))
theorem lev_lt (h : Six F) (x : Nat) : ∀ J, lev F x J < F.size
  | [] => by have := h.bounds; show 1 < F.size; omega
  | j :: J => mul_lt h (fac_lt h j x)
theorem loc_at {x : Nat} (hx : x < F.size) : ∀ J : List Nat, at_ (loc J : Ser F h) (J.length + 1) x = lev F x J
  | [] => by
    have hs := h.bounds
    show 0 ^^^ mul F 1 1 = 1
    rw [Nat.zero_xor, mul_one h (by omega)]
  | j :: J => by
    have e := at_mul (h := h) (li_deg (ex F j) (exl h j)) (loc_deg J) hx
    rw [li_at _ _ hx, loc_at hx J] at e
    have e2 := at_ext (m := 2 + (J.length + 1)) (loc_deg (h := h) (j :: J)) (by have : (j :: J).length = J.length + 1 := rfl; omega) x
    exact e2.symm.trans e
theorem lev_zero (h : Six F) {i : Nat} (hi : i < F.size - 1) : ∀ J : List Nat, i ∈ J → lev F (inv F (ex F i)) J = 0
  | j :: J, hm => by
    show mul F (1 ^^^ mul F (ex F j) _) (lev F _ J) = 0
    by_cases e : j = i
    · subst e
      rw [fac_zero h hi, zero_mul h]
    · have : i ∈ J := by
        rcases List.mem_cons.1 hm with h1 | h1
        · exact absurd h1.symm e
        · exact h1
      rw [lev_zero h hi J this, mul_zero h (fac_lt h _ _)]
theorem lev_ne (h : Six F) {i : Nat} (hi : i < F.size - 1) : ∀ J : List Nat, (∀ j ∈ J, j < F.size - 1) → i ∉ J → lev F (inv F (ex F i)) J ≠ 0
  | [], _, _ => by show (1 : Nat) ≠ 0; omega
  | j :: J, hJ, hm => by
    have h1 : j ≠ i := fun e => hm (by simp [e])
    exact mul_ne_zero h (fac_lt h _ _) (lev_lt h _ J) (fac_ne h (hJ j (by simp)) hi h1) (lev_ne h hi J (fun k hk => hJ k (by simp [hk])) (fun hk => hm (by simp [hk])))

/-- What errors make of all roots, as a series. -/
def geo (j b y : Nat) (hy : y < F.size) : Ser F h := ⟨fun i => mul F y (ex F (j * (i + b))), fun _ => mul_lt h hy⟩
def syn (Y : Nat → Nat) (hY : ∀ j, Y j < F.size) (b : Nat) : List Nat → Ser F h
  | [] => zr
  | j :: J => geo j b (Y j) (hY j) + syn Y hY b J
/-- The evaluator. -/
def evl (Y : Nat → Nat) (hY : ∀ j, Y j < F.size) (b : Nat) : List Nat → Ser F h
  | [] => zr
  | j :: J => li (ex F j) (exl h j) * evl Y hY b J + mo 0 (mul F (Y j) (ex F (j * b))) (mul_lt h (hY j)) * loc J
theorem geo_li (j b y : Nat) (hy : y < F.size) : li (ex F j) (exl h j) * geo j b y hy = (mo 0 (mul F y (ex F (j * b))) (mul_lt h hy) : Ser F h) := Ser.same fun n => by
  rw [li_mul]
  show mul F y (ex F (j * (n + b))) ^^^ (if 1 ≤ n then mul F (mul F y (ex F (j * (n - 1 + b)))) (ex F j) else 0) = if n = 0 then mul F y (ex F (j * b)) else 0
  by_cases hn : n = 0
  · subst hn
    rw [if_neg (by omega), if_pos rfl, Nat.zero_add, Nat.xor_zero]
  · rw [if_pos (by omega), if_neg hn, mul_assoc h hy (exl h _) (exl h j), mul_ex h, ← Nat.mul_succ, show (n - 1 + b).succ = n + b by omega, Nat.xor_self]
variable {Y : Nat → Nat} {hY : ∀ j, Y j < F.size} {b : Nat}
theorem syn_loc : ∀ J : List Nat, (syn Y hY b J * loc J : Ser F h) = evl Y hY b J
  | [] => zr_mul _
  | j :: J => by
    show (geo j b (Y j) (hY j) + syn Y hY b J) * (li (ex F j) (exl h j) * loc J) = li (ex F j) (exl h j) * evl Y hY b J + _ * loc J
    rw [sadd_mul, ← geo_li j b (Y j) (hY j), ← syn_loc J, sadd_comm]
    congr 1
    · rw [smul_left_comm]
    · rw [← smul_assoc, smul_comm (geo j b (Y j) (hY j))]
theorem mo0_deg (x : Nat) (hx : x < F.size) : Deg (mo 0 x hx : Ser F h) 1 := fun i hi => by
  show mon 0 x i = 0
  unfold mon; rw [if_neg (by omega)]
theorem mo0_at (x : Nat) (hx : x < F.size) (y : Nat) : at_ (mo 0 x hx : Ser F h) 1 y = x := by
  show 0 ^^^ mul F x 1 = x
  rw [Nat.zero_xor, mul_one h hx]
theorem evl_deg : ∀ J : List Nat, Deg (evl Y hY b J : Ser F h) J.length
  | [] => fun _ _ => rfl
  | j :: J => by
    refine Deg.add ?_ ?_
    · exact ((li_deg (ex F j) (exl h j)).mul (evl_deg J)).mono (by have : (j :: J).length = J.length + 1 := rfl; omega)
    · exact ((mo0_deg _ _).mul (loc_deg J)).mono (by have : (j :: J).length = J.length + 1 := rfl; omega)
/-- The locator's value but for one power. -/
def levx (F : Fld) (x i : Nat) : List Nat → Nat
  | [] => 1
  | j :: J => if j = i then levx F x i J else mul F (1 ^^^ mul F (ex F j) x) (levx F x i J)
theorem levx_lt (h : Six F) (x i : Nat) : ∀ J, levx F x i J < F.size
  | [] => by have := h.bounds; show 1 < F.size; omega
  | j :: J => by
    unfold levx
    split
    · exact levx_lt h x i J
    · exact mul_lt h (fac_lt h j x)
theorem levx_out (x i : Nat) : ∀ J : List Nat, i ∉ J → levx F x i J = lev F x J
  | [], _ => rfl
  | j :: J, hm => by
    unfold levx
    rw [if_neg (fun e => hm (by simp [e])), levx_out x i J (fun hk => hm (by simp [hk]))]; rfl
theorem levx_ne (h : Six F) {i : Nat} (hi : i < F.size - 1) : ∀ J : List Nat, (∀ j ∈ J, j < F.size - 1) → levx F (inv F (ex F i)) i J ≠ 0
  | [], _ => by show (1 : Nat) ≠ 0; omega
  | j :: J, hJ => by
    have ih := levx_ne h hi J (fun k hk => hJ k (by simp [hk]))
    unfold levx
    split
    · exact ih
    · rename_i e
      exact mul_ne_zero h (fac_lt h _ _) (levx_lt h _ _ J) (fac_ne h (hJ j (by simp)) hi e) ih
theorem at_same {p : Ser F h} {n m : Nat} (d : Deg p n) (e : Deg p m) (x : Nat) : at_ p n x = at_ p m x := by
  rw [← at_ext d (Nat.le_max_left n m), ← at_ext e (Nat.le_max_right n m)]
theorem evl_at {i : Nat} (hi : i < F.size - 1) : ∀ J : List Nat, J.Nodup → i ∈ J → at_ (evl Y hY b J : Ser F h) J.length (inv F (ex F i)) = mul F (mul F (Y i) (ex F (i * b))) (levx F (inv F (ex F i)) i J)
  | j :: J, nd, hm => by
    have hxl := inv_lt h (ex F i)
    obtain ⟨nj, nd'⟩ := List.nodup_cons.1 nd
    have e1 : at_ (li (ex F j) (exl h j) * evl Y hY b J : Ser F h) (J.length + 1) (inv F (ex F i)) = mul F (1 ^^^ mul F (ex F j) (inv F (ex F i))) (at_ (evl Y hY b J : Ser F h) J.length (inv F (ex F i))) := by
      have e := at_mul (h := h) (li_deg (ex F j) (exl h j)) (evl_deg (Y := Y) (hY := hY) (b := b) J) hxl
      rw [li_at _ _ hxl] at e
      rw [← e]
      exact (at_ext (((li_deg (ex F j) (exl h j)).mul (evl_deg J)).mono (by omega)) (by omega) _).symm
    have e2 : at_ (mo 0 (mul F (Y j) (ex F (j * b))) (mul_lt h (hY j)) * loc J : Ser F h) (J.length + 1) (inv F (ex F i)) = mul F (mul F (Y j) (ex F (j * b))) (lev F (inv F (ex F i)) J) := by
      have e := at_mul (h := h) (mo0_deg (mul F (Y j) (ex F (j * b))) (mul_lt h (hY j))) (loc_deg J) hxl
      rw [mo0_at, loc_at hxl] at e
      rw [← e]
      exact (at_ext (((mo0_deg _ _).mul (loc_deg J)).mono (by omega)) (by omega) _).symm
    show at_ (li (ex F j) (exl h j) * evl Y hY b J + _ * loc J : Ser F h) (J.length + 1) _ = _
    rw [at_add, e1, e2]
    by_cases e : j = i
    · subst e
      rw [fac_zero h hi, zero_mul h, Nat.zero_xor]
      unfold levx
      rw [if_pos rfl, levx_out _ _ J nj]
    · have hm' : i ∈ J := by
        rcases List.mem_cons.1 hm with h1 | h1
        · exact absurd h1.symm e
        · exact h1
      rw [lev_zero h hi J hm', RS.mul_zero h (mul_lt h (hY j)), Nat.xor_zero, evl_at hi J nd' hm']
      have hyl : mul F (Y i) (ex F (i * b)) < F.size := mul_lt h (hY i)
      have hll := levx_lt h (inv F (ex F i)) i J
      have hfl := fac_lt h j (inv F (ex F i))
      show mul F _ (mul F _ (levx F _ i J)) = mul F _ (if j = i then _ else mul F _ (levx F _ i J))
      rw [if_neg e, ← mul_assoc h hfl hyl hll, mul_comm h hfl hyl, mul_assoc h hyl hfl hll]
theorem evl_ne (hY0 : ∀ j, Y j ≠ 0) {i : Nat} (hi : i < F.size - 1) (hib : ex F (i * b) ≠ 0) {J : List Nat} (nd : J.Nodup) (hJ : ∀ j ∈ J, j < F.size - 1) (hm : i ∈ J) : at_ (evl Y hY b J : Ser F h) J.length (inv F (ex F i)) ≠ 0 := by
  rw [evl_at hi J nd hm]
  exact mul_ne_zero h (mul_lt h (hY i)) (levx_lt h _ _ J) (mul_ne_zero h (hY i) (exl h _) (hY0 i) hib) (levx_ne h hi J hJ)

/-- The quotient by 1 + X x. -/
def quo (F : Fld) (p : Nat → Nat) (X : Nat) : Nat → Nat
  | 0 => p 0
  | k + 1 => p (k + 1) ^^^ mul F (quo F p X k) X
theorem quo_lt (h : Six F) {p : Nat → Nat} (hp : ∀ n, p n < F.size) {X : Nat} : ∀ k, quo F p X k < F.size
  | 0 => hp 0
  | k + 1 => xor_lt_size h (hp _) (mul_lt h (quo_lt h hp k))
theorem quo_ve (h : Six F) {p : Nat → Nat} (hp : ∀ n, p n < F.size) {X x : Nat} (hX : X < F.size) (hx : x < F.size) (hXx : mul F X x = 1) : ∀ k, mul F (quo F p X k) (pw F x k) = ve F p x (k + 1)
  | 0 => by
    show mul F (p 0) 1 = 0 ^^^ mul F (p 0) 1
    rw [Nat.zero_xor]
  | k + 1 => by
    have q := quo_lt h hp (X := X) k
    have pl := pw_lt h (x := x) k
    rw [ve_succ, ← quo_ve h hp hX hx hXx k]
    show mul F (p (k + 1) ^^^ mul F (quo F p X k) X) (pw F x (k + 1)) = _
    rw [mul_xor_left h (hp _) (mul_lt h q), Nat.xor_comm]
    congr 1
    show mul F (mul F (quo F p X k) X) (mul F (pw F x k) x) = mul F (quo F p X k) (pw F x k)
    rw [mul_comm h pl hx, mul_assoc h q hX (mul_lt h hx), ← mul_assoc h hX hx pl, hXx, one_mul h pl]
theorem pw_ne (h : Six F) {x : Nat} (hx : x < F.size) (h0 : x ≠ 0) : ∀ k, pw F x k ≠ 0
  | 0 => by show (1 : Nat) ≠ 0; omega
  | k + 1 => mul_ne_zero h (pw_lt h k) hx (pw_ne h hx h0 k) h0
theorem factor (p : Ser F h) (n : Nat) (d : Deg p (n + 1)) {X x : Nat} (hX : X < F.size) (hx : x < F.size) (hXx : mul F X x = 1) (hz : at_ p (n + 1) x = 0) : ∃ q : Ser F h, Deg q n ∧ p = li X hX * q := by
  refine ⟨⟨quo F p.c X, quo_lt h p.lt⟩, fun k hk => ?_, Ser.same fun k => ?_⟩
  · have x0 : x ≠ 0 := by intro e; rw [e, mul_zero h hX] at hXx; cases hXx
    have e := quo_ve h p.lt hX hx hXx k
    have e2 : ve F p.c x (k + 1) = 0 := (at_ext d (by omega) x).trans hz
    rw [e2] at e
    rcases Nat.eq_zero_or_pos (quo F p.c X k) with h1 | h1
    · exact h1
    · exact absurd e (mul_ne_zero h (quo_lt h p.lt k) (pw_lt h k) (by omega) (pw_ne h hx x0 k))
  · rw [li_mul]
    show p.c k = quo F p.c X k ^^^ (if 1 ≤ k then mul F (quo F p.c X (k - 1)) X else 0)
    rcases k with _ | k
    · rw [if_neg (by omega), Nat.xor_zero]; rfl
    · rw [if_pos (by omega), Nat.add_sub_cancel]
      show p.c (k + 1) = (p.c (k + 1) ^^^ mul F (quo F p.c X k) X) ^^^ mul F (quo F p.c X k) X
      rw [Nat.xor_assoc, Nat.xor_self, Nat.xor_zero]
theorem factor_all : ∀ J : List Nat, J.Nodup → (∀ j ∈ J, j < F.size - 1) → ∀ (n : Nat) (p : Ser F h), Deg p (n + J.length) → (∀ j ∈ J, at_ p (n + J.length) (inv F (ex F j)) = 0) → ∃ q : Ser F h, Deg q n ∧ p = q * loc J
  | [], _, _, n, p, d, _ => ⟨p, d, (mul_on p).symm⟩
  | j :: J, nd, hJ, n, p, d, hz => by
    obtain ⟨nj, nd'⟩ := List.nodup_cons.1 nd
    have hjl := hJ j (by simp)
    obtain ⟨q1, d1, e1⟩ := factor p (n + J.length) d (exl h j) (inv_lt h _) (inv_ex h hjl) (hz j (by simp))
    obtain ⟨q, d2, e2⟩ := factor_all J nd' (fun k hk => hJ k (by simp [hk])) n q1 d1 (fun i hi => by
      have hil := hJ i (by simp [hi])
      have z := hz i (by simp [hi])
      have e := at_mul (h := h) (li_deg (ex F j) (exl h j)) d1 (inv_lt h (ex F i))
      rw [← e1, at_ext d (by have : (j :: J).length = J.length + 1 := rfl; omega), z, li_at _ _ (inv_lt h _)] at e
      rcases Nat.eq_zero_or_pos (at_ q1 (n + J.length) (inv F (ex F i))) with h1 | h1
      · exact h1
      · exact absurd e.symm (mul_ne_zero h (fac_lt h _ _) (at_lt _ _ _) (fac_ne h hjl hil (fun e => nj (e ▸ hi))) (by omega)))
    refine ⟨q, d2, ?_⟩
    rw [e1, e2]
    show _ = q * (li (ex F j) (exl h j) * loc J)
    rw [smul_left_comm]

/-- What Euclid's algorithm ends with: a multiple of the locator and of the evaluator. -/
theorem euclid_end (hY0 : ∀ j, Y j ≠ 0) {J : List Nat} (nd : J.Nodup) (hJ : ∀ j ∈ J, j < F.size - 1) (hJb : ∀ j ∈ J, ex F (j * b) ≠ 0) {M : Nat} (hν : 2 * J.length ≤ M)
    (S t r s tL sL : Ser F h) (hS : ∀ i, i < M → S.c i = (syn Y hY b J : Ser F h).c i) (dS : Deg S M)
    (e1 : r = s * xp M + t * S) (e3 : s * tL + sL * t = on) {nr nt nl nm : Nat} (dr : Deg r nr) (dt : Deg t nt) (dtL : Deg tL nl) (dsL : Deg sL nm) (br : 2 * nr ≤ M + 1) (bt : 2 * nt ≤ M + 2) :
    ∃ k, k < F.size ∧ k ≠ 0 ∧ (∀ i, t.c i = mul F ((loc J : Ser F h).c i) k) ∧ (∀ i, r.c i = mul F ((evl Y hY b J : Ser F h).c i) k) := by
  obtain ⟨Sh, hSh⟩ : ∃ Sh : Ser F h, Sh = syn Y hY b J := ⟨_, rfl⟩
  obtain ⟨T, hT⟩ : ∃ T : Ser F h, T = ⟨fun i => Sh.c (i + M), fun i => Sh.lt _⟩ := ⟨_, rfl⟩
  have hsum : Sh = S + xp M * T := Ser.same fun n => by
    rw [add_c, xp_mul]
    by_cases hn : M ≤ n
    · rw [if_pos hn, dS n hn, Nat.zero_xor, hT]
      show Sh.c n = Sh.c (n - M + M)
      congr 1; omega
    · rw [if_neg hn, Nat.xor_zero, hS n (by omega), hSh]
  have hl : Sh * loc J = evl Y hY b J := by rw [hSh]; exact syn_loc J
  have hl0 : (loc J : Ser F h).c 0 ≠ 0 := by rw [loc_0]; omega
  have hA : r + t * Sh = xp M * (s + t * T) := by
    rw [e1, hsum, smul_add t, sadd_assoc, ← sadd_assoc (t * S), sadd_self, zr_sadd, smul_add, smul_comm s, smul_left_comm]
  have hB : r * loc J + t * evl Y hY b J = xp M * ((s + t * T) * loc J) := by
    rw [← hl, ← smul_assoc t, ← sadd_mul, hA, smul_assoc]
  have dB : Deg (r * loc J + t * evl Y hY b J) M := Deg.add ((dr.mul (loc_deg J)).mono (by omega)) ((dt.mul (evl_deg J)).mono (by omega))
  have hC : (s + t * T) * loc J = zr := Ser.same fun n => by
    have e := dB (n + M) (by omega)
    rw [hB, xp_mul, if_pos (by omega), Nat.add_sub_cancel] at e
    exact e
  have hD : s = t * T := sadd_move (unit_cancel hl0 (by rw [smul_comm]; exact hC))
  have hE : r = t * Sh := sadd_move (by rw [hA, hD, sadd_self, mul_zr])
  have hF : t * (T * tL + sL) = on := by rw [← e3, hD, smul_add, smul_assoc, smul_comm sL]
  have ht0 := unit_of hF
  have hG : t * evl Y hY b J = r * loc J := by rw [← hl, hE, smul_assoc]
  have hroot : ∀ j ∈ J, at_ t nt (inv F (ex F j)) = 0 := fun j hj => by
    have hjl := hJ j hj
    have xl := inv_lt h (ex F j)
    have a1 := at_mul dt (evl_deg (Y := Y) (hY := hY) (b := b) J) xl
    have a2 := at_mul dr (loc_deg (h := h) J) xl
    rw [loc_at xl, lev_zero h hjl J hj, RS.mul_zero h (at_lt _ _ _)] at a2
    have d1 : Deg (t * evl Y hY b J) (nt + J.length) := (dt.mul (evl_deg J)).mono (by omega)
    have d2 : Deg (t * evl Y hY b J) (nr + (J.length + 1)) := by rw [hG]; exact (dr.mul (loc_deg J)).mono (by omega)
    rw [at_same d1 d2, hG, a2] at a1
    rcases Nat.eq_zero_or_pos (at_ t nt (inv F (ex F j))) with h1 | h1
    · exact h1
    · exact absurd a1.symm (mul_ne_zero h (at_lt _ _ _) (at_lt _ _ _) (by omega) (evl_ne hY0 hjl (hJb j hj) nd hJ hj))
  obtain ⟨q, dq, hq⟩ := factor_all J nd hJ nt t (dt.mono (by omega)) (fun j hj => by rw [at_ext dt (by omega)]; exact hroot j hj)
  have hR : r = q * evl Y hY b J := by rw [hE, hq, smul_assoc, smul_comm (loc J), hl]
  have dU : Deg (loc J * T) (J.length + M) := fun i hi => by
    have e : xp M * (loc J * T) = evl Y hY b J + loc J * S := by
      rw [smul_left_comm, ← hl, smul_comm Sh, ← smul_add, hsum, sadd_comm (S + xp M * T), ← sadd_assoc, sadd_self, zr_sadd]
    have e2 : (xp M * (loc J * T)).c (i + M) = (loc J * T).c i := by rw [xp_mul, if_pos (by omega), Nat.add_sub_cancel]
    rw [← e2, e]
    exact Deg.add ((evl_deg J).mono (by omega)) (((loc_deg J).mul dS).mono (by omega)) (i + M) (Nat.le_refl _)
  have hW : q * (loc J * T * tL + sL * loc J) = on := by
    rw [← e3, hD, hq, smul_add, smul_assoc, smul_assoc, smul_left_comm q sL, smul_assoc]
  have dW : Deg (loc J * T * tL + sL * loc J) (max (J.length + M + nl) (nm + (J.length + 1))) := Deg.add ((dU.mul dtL).mono (by omega)) ((dsL.mul (loc_deg J)).mono (by omega))
  have dq1 := const_of dq dW hW
  have hq1 : q = mo 0 (q.c 0) (q.lt 0) := Ser.same fun n => by
    show q.c n = if n = 0 then q.c 0 else 0
    split
    · rename_i e; rw [e]
    · exact dq1 n (by omega)
  refine ⟨q.c 0, q.lt 0, unit_of hW, fun i => ?_, fun i => ?_⟩
  · rw [hq, hq1, mo_mul, if_pos (Nat.zero_le _)]; rfl
  · rw [hR, hq1, mo_mul, if_pos (Nat.zero_le _)]; rfl
end Go.Qz.RS
