/-
  Several texts of this claim in one. No condition beyond the bounds that each theorem states.
-/
import Derived.Test.YtcadknfcahmdcaaGreatBase
namespace Go.Qz.DV
open Go.Qz
set_option linter.unusedVariables false

/-- The byte of a value: basic set, second set, third set. -/
def say0 (lower : Bool) (v : Nat) : Nat := if v = 3 then 32 else if v < 14 then 44 + v else if lower then 83 + v else 51 + v
def say2 (v : Nat) : Nat := if v < 15 then 33 + v else if v < 22 then 43 + v else 69 + v
def say3 (lower : Bool) (v : Nat) : Nat := if lower = true ∧ 1 ≤ v ∧ v ≤ 26 then 64 + v else 96 + v
/-- One value of C40 (1), Text (2), X12 (3) in a set: what it says, the next set. -/
def val (mode set v : Nat) : Option (List Nat × Nat) :=
  if mode = 3 then (if v < 3 then some ([nth [13, 42, 62] v], set) else some ([say0 false v], set))
  else if set = 1 then some ([v], 0)
  else if set = 2 then (if v < 27 then some ([say2 v], 0) else none)
  else if set = 3 then (if v ≤ 31 then some ([say3 (mode == 2) v], 0) else none)
  else if v < 3 then some ([], v + 1) else some ([say0 (mode == 2) v], 0)
def run (mode : Nat) : Nat → List Nat → Option (List Nat × Nat)
  | set, [] => some ([], set)
  | set, v :: l => match val mode set v with
    | none => none
    | some (o, s) => match run mode s l with
      | none => none
      | some (o', s') => some (o ++ o', s')
theorem run_append (mode : Nat) : ∀ (l : List Nat) (set : Nat) (r : List Nat) (o : List Nat) (s : Nat) (o' : List Nat) (s' : Nat), run mode set l = some (o, s) → run mode s r = some (o', s') → run mode set (l ++ r) = some (o ++ o', s')
  | [], set, r, o, s, o', s', h, h' => by
    simp only [run, Option.some.injEq, Prod.mk.injEq] at h
    obtain ⟨rfl, rfl⟩ := h
    exact h'
  | v :: l, set, r, o, s, o', s', h, h' => by
    simp only [run, List.cons_append] at h ⊢
    cases hv : val mode set v with
    | none => rw [hv] at h; cases h
    | some p =>
      obtain ⟨o1, s1⟩ := p
      rw [hv] at h
      simp only at h ⊢
      cases hr : run mode s1 l with
      | none => rw [hr] at h; cases h
      | some q =>
        obtain ⟨o2, s2⟩ := q
        rw [hr] at h
        simp only [Option.some.injEq, Prod.mk.injEq] at h
        obtain ⟨rfl, rfl⟩ := h
        rw [run_append mode l s1 r o2 s2 o' s' hr h']
        simp [List.append_assoc]
/-- Words of C40, Text, X12: what they say, what is left. -/
inductive Threes (mode : Nat) : Nat → List Nat → List Nat → List Nat → Prop where
  | nil {s : Nat} : Threes mode s [] [] []
  | one {s c : Nat} (h : c ≠ 254) : Threes mode s [c] [] [c]
  | last {s : Nat} : Threes mode s [254] [] []
  | unl {s : Nat} {r : List Nat} (h : r ≠ []) : Threes mode s (254 :: r) [] r
  | pair {s a b n s' : Nat} {o r o' rest : List Nat} (ha : a < 254) (hb : b < 256) (hn : 256 * a + b = n + 1) (h2 : n < 64000) (hr : run mode s [n / 1600, n / 40 % 40, n % 40] = some (o, s')) (t : Threes mode s' r o' rest) : Threes mode s (a :: b :: r) (o ++ o') rest
/-- The byte of a value of EDIFACT. -/
def six (v : Nat) : Nat := if v < 32 then v + 64 else v
/-- The four values of three words. -/
def quad (a b c : Nat) : List Nat := [a / 4, a % 4 * 16 + b / 16, b % 16 * 4 + c / 64, c % 64]
/-- Words of EDIFACT: what they say, what is left. -/
inductive Sixes : List Nat → List Nat → List Nat → Prop where
  | short {ws : List Nat} (h : ws.length ≤ 2) : Sixes ws [] ws
  | full {a b c : Nat} {r o rest : List Nat} (ha : a < 256) (hb : b < 256) (hc : c < 256) (h : ∀ v ∈ quad a b c, v ≠ 31) (t : Sixes r o rest) : Sixes (a :: b :: c :: r) ((quad a b c).map six ++ o) rest
  | unl {a b c k : Nat} {r : List Nat} (ha : a < 256) (hb : b < 256) (hc : c < 256) (hk : k < 4) (h : ∀ v ∈ (quad a b c).take k, v ≠ 31) (h31 : nth (quad a b c) k = 31) : Sixes (a :: b :: c :: r) (((quad a b c).take k).map six) ((a :: b :: c :: r).drop (min (k + 1) 3))
def latch (mode : Nat) : Nat := if mode = 1 then 230 else if mode = 2 then 239 else if mode = 3 then 238 else 240
/-- Words from the state ASCII on: what they say, how many stand ahead of the first pad. -/
inductive Say : List Nat → List Nat → Nat → Prop where
  | nil : Say [] [] 0
  | pad {r : List Nat} : Say (129 :: r) [] 0
  | chr {c k : Nat} {r o : List Nat} (h : c < 128) (t : Say r o k) : Say ((c + 1) :: r) (c :: o) (k + 1)
  | two {v k : Nat} {r o : List Nat} (h : v < 100) (t : Say r o k) : Say ((130 + v) :: r) ((48 + v / 10) :: (48 + v % 10) :: o) (k + 1)
  | threes {mode k : Nat} {r o rest o' : List Nat} (h1 : 1 ≤ mode) (h3 : mode ≤ 3) (h : Threes mode 0 r o rest) (t : Say rest o' k) : Say (latch mode :: r) (o ++ o') (1 + (r.length - rest.length) + k)
  | sixes {k : Nat} {r o rest o' : List Nat} (h : Sixes r o rest) (t : Say rest o' k) : Say (240 :: r) (o ++ o') (1 + (r.length - rest.length) + k)
theorem Say.not254 {r o : List Nat} {k : Nat} : ¬ Say (254 :: r) o k := by
  intro h
  generalize e : 254 :: r = ws at h
  cases h with
  | nil => cases e
  | pad => cases e
  | chr h t => injection e with e _; omega
  | two h t => injection e with e _; omega
  | threes h1 h3 h t => injection e with e _; unfold latch at e; split at e <;> (try split at e) <;> (try split at e) <;> omega
  | sixes h t => injection e with e _; omega
theorem Threes.len {mode s : Nat} {ws o rest : List Nat} (h : Threes mode s ws o rest) : rest.length ≤ ws.length := by
  induction h with
  | nil => simp
  | one => simp
  | last => simp
  | unl => simp
  | pair _ _ _ _ _ _ ih => simp; omega
theorem Sixes.len {ws o rest : List Nat} (h : Sixes ws o rest) : rest.length ≤ ws.length := by
  induction h with
  | short => simp
  | full _ _ _ _ _ ih => simp; omega
  | unl => simp

/-- Capacities by shape: any, squares, rectangles. -/
def caps (shape : Nat) : List Nat :=
  if shape = 0 then [3, 5, 8, 10, 12, 16, 18, 22, 30, 32, 36, 44, 49, 62, 86, 114, 144, 174, 204, 280, 368, 456, 576, 696, 816, 1050, 1304, 1558]
  else if shape = 1 then [3, 5, 8, 12, 18, 22, 30, 36, 44, 62, 86, 114, 144, 174, 204, 280, 368, 456, 576, 696, 816, 1050, 1304, 1558]
  else [5, 10, 16, 22, 32, 49]
def firstGe (n : Nat) : List Nat → Nat
  | [] => 0
  | c :: l => if n ≤ c then c else firstGe n l
/-- The least capacity that holds n words. -/
def capFor (shape n : Nat) : Nat := firstGe n (caps shape)
def mostOf (shape : Nat) : Nat := if shape = 2 then 49 else 1558
theorem firstGe_mem {n : Nat} : ∀ {l : List Nat}, (∃ c ∈ l, n ≤ c) → firstGe n l ∈ l ∧ n ≤ firstGe n l
  | [], h => by obtain ⟨c, hc, _⟩ := h; cases hc
  | c :: l, h => by
    unfold firstGe
    by_cases h1 : n ≤ c
    · rw [if_pos h1]; exact ⟨List.mem_cons_self, h1⟩
    · rw [if_neg h1]
      obtain ⟨d, hd, hn⟩ := h
      rcases List.mem_cons.1 hd with rfl | hd
      · exact absurd hn h1
      · have := firstGe_mem (l := l) ⟨d, hd, hn⟩
        exact ⟨List.mem_cons_of_mem _ this.1, this.2⟩
theorem firstGe_stay {m n : Nat} : ∀ {l : List Nat}, m ≤ n → n ≤ firstGe m l → firstGe n l = firstGe m l
  | [], _, _ => rfl
  | c :: l, h, h2 => by
    unfold firstGe at h2 ⊢
    by_cases h1 : m ≤ c
    · rw [if_pos h1] at h2 ⊢
      rw [if_pos h2]
    · rw [if_neg h1] at h2 ⊢
      rw [if_neg (by omega)]
      exact firstGe_stay h h2
/-- Sorted, each two apart. -/
def apart : List Nat → Bool
  | c :: d :: l => decide (c + 2 ≤ d) && apart (d :: l)
  | _ => true
theorem firstGe_next {n : Nat} : ∀ {l : List Nat}, apart l = true → ∀ c ∈ l, c < n → firstGe n l = 0 ∨ c + 2 ≤ firstGe n l
  | [], _, c, hc, _ => by cases hc
  | [d], _, c, hc, hn => by
    rw [List.mem_singleton.1 hc] at hn
    left; unfold firstGe; rw [if_neg (by omega)]; rfl
  | d :: e :: l, h, c, hc, hn => by
    simp only [apart, Bool.and_eq_true, decide_eq_true_eq] at h
    obtain ⟨h1, h2⟩ := h
    have hall : ∀ {l : List Nat} {d : Nat}, apart (d :: l) = true → ∀ x ∈ l, d + 2 ≤ x := by
      intro l
      induction l with
      | nil => intro d _ x hx; cases hx
      | cons a l ih =>
        intro d h x hx
        simp only [apart, Bool.and_eq_true, decide_eq_true_eq] at h
        rcases List.mem_cons.1 hx with rfl | hx
        · exact h.1
        · have := ih h.2 x hx; omega
    unfold firstGe
    rcases List.mem_cons.1 hc with rfl | hc
    · rw [if_neg (by omega)]
      by_cases he : ∃ x ∈ e :: l, n ≤ x
      · right
        have hm := (firstGe_mem he).1
        rcases List.mem_cons.1 hm with e1 | hm
        · omega
        · have := hall h2 _ hm; omega
      · left
        have : ∀ {l : List Nat}, (¬ ∃ x ∈ l, n ≤ x) → firstGe n l = 0 := by
          intro l
          induction l with
          | nil => intro _; rfl
          | cons a l ih =>
            intro h
            unfold firstGe
            rw [if_neg (fun h1 => h ⟨a, List.mem_cons_self, h1⟩)]
            exact ih fun ⟨x, hx, h1⟩ => h ⟨x, List.mem_cons_of_mem _ hx, h1⟩
        exact this he
    · have hd : d < n := by have := hall (d := d) (l := e :: l) (by simp [apart, h1, h2]) c hc; omega
      rw [if_neg (by omega)]
      exact firstGe_next h2 c hc hn
theorem apart_caps (shape : Nat) : apart (caps shape) = true := by
  unfold caps; split
  · rfl
  · split <;> rfl
theorem most_mem (shape : Nat) (h : shape ≤ 2) : mostOf shape ∈ caps shape := by
  obtain rfl | rfl | rfl : shape = 0 ∨ shape = 1 ∨ shape = 2 := by omega
  · decide
  · decide
  · decide
theorem capFor_mem {shape n : Nat} (hs : shape ≤ 2) (hn : n ≤ mostOf shape) : capFor shape n ∈ caps shape ∧ n ≤ capFor shape n := firstGe_mem ⟨_, most_mem shape hs, hn⟩
theorem capFor_stay {shape m n : Nat} (h : m ≤ n) (h2 : n ≤ capFor shape m) : capFor shape n = capFor shape m := firstGe_stay h h2
/-- A greater number needs no smaller symbol; past a capacity the next one is two greater at least. -/
theorem capFor_next {shape m n : Nat} (hs : shape ≤ 2) (hm : m ≤ mostOf shape) (hn : n ≤ mostOf shape) (h : capFor shape m < n) : capFor shape m + 2 ≤ capFor shape n := by
  rcases firstGe_next (apart_caps shape) _ (capFor_mem hs hm).1 h with h0 | h0
  · have := (capFor_mem hs hn).2; unfold capFor at this h; omega
  · exact h0
theorem capFor_mono {shape m n : Nat} (hs : shape ≤ 2) (hn : n ≤ mostOf shape) (h : m ≤ n) : capFor shape m ≤ capFor shape n := by
  by_cases h1 : n ≤ capFor shape m
  · rw [capFor_stay h h1]; exact Nat.le_refl _
  · have := capFor_next hs (Nat.le_trans h hn) hn (by omega); omega
theorem caps_le {shape c : Nat} (hs : shape ≤ 2) (h : c ∈ caps shape) : c ≤ mostOf shape := by
  obtain rfl | rfl | rfl : shape = 0 ∨ shape = 1 ∨ shape = 2 := by omega
  · revert c; decide
  · revert c; decide
  · revert c; decide
theorem capFor_le {shape n : Nat} (hs : shape ≤ 2) (hn : n ≤ mostOf shape) : capFor shape n ≤ mostOf shape := caps_le hs (capFor_mem hs hn).1
end Go.Qz.DV
namespace Go.Qz.DV
open Go.Qz
set_option linter.unusedVariables false

/-- What may follow: wl words stand, the text is said up to pos; the whole will be cl words longer. -/
def Fits (sh T wl pos cl : Nat) : Prop := ∃ n, wl ≤ n ∧ T ≤ pos + 2 * (n - wl) ∧ (T ≤ pos + 2 → n + pos ≤ wl + T) ∧ n ≤ mostOf sh ∧ wl + cl = capFor sh n
/-- The text s from p on, up to q. -/
def part (s : List Nat) (p q : Nat) : List Nat := (s.take q).drop p
theorem part_self (s : List Nat) (p : Nat) : part s p p = [] := by unfold part; rw [List.drop_eq_nil_of_le]; simp; omega
theorem part_add {s : List Nat} {p q r : Nat} (h : p ≤ q) (h2 : q ≤ r) (hr : r ≤ s.length) : part s p r = part s p q ++ part s q r := by
  unfold part
  rw [show s.take q = (s.take r).take q by rw [List.take_take, Nat.min_eq_left h2]]
  generalize s.take r = l
  have e : l.drop p = (l.take q).drop p ++ l.drop q := by
    rw [List.drop_take]
    have := List.take_append_drop (q - p) (l.drop p)
    rw [List.drop_drop, show p + (q - p) = q by omega] at this
    exact this.symm
  exact e
theorem part_one {s : List Nat} {p : Nat} (h : p < s.length) : part s p (p + 1) = [nth s p] := by
  unfold part
  rw [List.drop_take, show p + 1 - p = 1 by omega, drop_nth h]
  rfl
theorem part_two {s : List Nat} {p : Nat} (h : p + 1 < s.length) : part s p (p + 2) = [nth s p, nth s (p + 1)] := by
  rw [part_add (q := p + 1) (by omega) (by omega) (by omega), part_one (by omega), part_one h]
  rfl
theorem part_len {s : List Nat} {p q : Nat} (hq : q ≤ s.length) : (part s p q).length = q - p := by
  unfold part; simp; omega
/-- In the state ASCII: words w stand (m of them the macro's), the text is said from p0 up to pos, whatever follows. -/
def InvA (sh T p0 : Nat) (s mac w : List Nat) (pos : Nat) : Prop := ∃ v, w = mac ++ v ∧ ∀ c o k, Say c o k → (∀ x ∈ c, x < 256) → Fits sh T w.length pos c.length → Say (v ++ c) (part s p0 pos ++ o) (v.length + k)
theorem InvA.start (sh T p0 : Nat) (s mac : List Nat) : InvA sh T p0 s mac mac p0 := ⟨[], by simp, fun c o k h _ _ => by rw [part_self]; simpa using h⟩
theorem InvA.step {sh T p0 : Nat} {s mac w L : List Nat} {pos pos' : Nat} (h : InvA sh T p0 s mac w pos) (h0 : p0 ≤ pos) (h1 : pos ≤ pos') (h2 : pos' ≤ s.length) (h3 : pos' ≤ pos + 2 * L.length) (h4 : T ≤ pos + 2 → L.length + pos ≤ pos') (hLb : ∀ x ∈ L, x < 256)
    (hL : ∀ c o k, Say c o k → (∀ x ∈ c, x < 256) → Fits sh T (w.length + L.length) pos' c.length → Say (L ++ c) (part s pos pos' ++ o) (L.length + k)) : InvA sh T p0 s mac (w ++ L) pos' := by
  obtain ⟨v, rfl, hv⟩ := h
  refine ⟨v ++ L, by simp, fun c o k hs hb hf => ?_⟩
  rw [List.length_append] at hf
  have := hv (L ++ c) (part s pos pos' ++ o) (L.length + k) (hL c o k hs hb hf) (fun x hx => by
    rcases List.mem_append.1 hx with hx | hx
    · exact hLb x hx
    · exact hb x hx) (by
    obtain ⟨n, a1, a2, a3, a4, a5⟩ := hf
    refine ⟨n, by omega, by omega, fun ht => ?_, a4, by have e : (L ++ c).length = L.length + c.length := List.length_append; omega⟩
    have := h4 ht
    have := a3 (by omega)
    omega)
  rw [part_add h0 h1 h2, List.append_assoc, List.append_assoc, List.length_append, Nat.add_assoc]
  exact this
theorem InvA.chr {sh T p0 : Nat} {s mac w : List Nat} {pos : Nat} (h : InvA sh T p0 s mac w pos) (h0 : p0 ≤ pos) (h1 : pos < s.length) (hc : nth s pos < 128) : InvA sh T p0 s mac (w ++ [nth s pos + 1]) (pos + 1) :=
  h.step h0 (by omega) (by omega) (by simp) (fun _ => by simp; omega) (fun x hx => by rw [List.mem_singleton.1 hx]; omega) fun c o k hs _ _ => by
    rw [part_one h1]
    have := Say.chr hc hs
    simpa [Nat.add_comm] using this
theorem InvA.two {sh T p0 : Nat} {s mac w : List Nat} {pos : Nat} (h : InvA sh T p0 s mac w pos) (h0 : p0 ≤ pos) (h1 : pos + 1 < s.length) (ha : 48 ≤ nth s pos ∧ nth s pos ≤ 57) (hb : 48 ≤ nth s (pos + 1) ∧ nth s (pos + 1) ≤ 57) :
    InvA sh T p0 s mac (w ++ [130 + ((nth s pos - 48) * 10 + (nth s (pos + 1) - 48))]) (pos + 2) :=
  h.step h0 (by omega) (by omega) (by simp) (fun _ => by simp; omega) (fun x hx => by rw [List.mem_singleton.1 hx]; omega) fun c o k hs _ _ => by
    rw [part_two h1]
    have := Say.two (v := (nth s pos - 48) * 10 + (nth s (pos + 1) - 48)) (by omega) hs
    rw [show 48 + ((nth s pos - 48) * 10 + (nth s (pos + 1) - 48)) / 10 = nth s pos by omega, show 48 + ((nth s pos - 48) * 10 + (nth s (pos + 1) - 48)) % 10 = nth s (pos + 1) by omega] at this
    simpa [Nat.add_comm] using this
/-- The pad at a place (from 0 on). -/
def padAt (i : Nat) : Nat := if 129 + (149 * (i + 1) % 253 + 1) ≤ 254 then 129 + (149 * (i + 1) % 253 + 1) else 129 + (149 * (i + 1) % 253 + 1) - 254
/-- Words behind so many, up to n. -/
def pads (n m : Nat) : List Nat := (List.range (m - n)).map fun j => if j = 0 then 129 else padAt (n + j)
theorem pads_say (n m : Nat) : Say (pads n m) [] 0 := by
  unfold pads
  cases h : m - n with
  | zero => exact .nil
  | succ k => rw [List.range_succ_eq_map, List.map_cons, if_pos rfl]; exact .pad
theorem padAt_lt (i : Nat) : padAt i < 256 := by unfold padAt; split <;> omega
theorem pads_lt (n m : Nat) : ∀ x ∈ pads n m, x < 256 := by
  intro x hx
  obtain ⟨j, _, rfl⟩ := List.mem_map.1 hx
  split
  · omega
  · exact padAt_lt _
theorem InvA.end {sh T p0 : Nat} {s mac w : List Nat} (h : InvA sh T p0 s mac w T) (hs : sh ≤ 2) (hw : w.length ≤ mostOf sh) : ∃ v, w = mac ++ v ∧ Say (v ++ pads w.length (capFor sh w.length)) (part s p0 T) v.length := by
  obtain ⟨v, hv, hx⟩ := h
  refine ⟨v, hv, ?_⟩
  have := hx _ [] 0 (pads_say w.length (capFor sh w.length)) (pads_lt _ _) ⟨w.length, Nat.le_refl _, by omega, fun _ => by omega, hw, by
    have := (capFor_mem hs hw).2
    unfold pads; simp; omega⟩
  simpa using this

/-- Two words for three values. -/
def trip (a b c : Nat) : List Nat := [(1600 * a + 40 * b + c + 1) / 256, (1600 * a + 40 * b + c + 1) % 256]
def trips : List Nat → List Nat
  | a :: b :: c :: l => trip a b c ++ trips l
  | _ => []
theorem trips_len : ∀ (n : Nat) (l : List Nat), l.length = 3 * n → (trips l).length = 2 * n
  | 0, [], _ => rfl
  | n + 1, a :: b :: c :: l, h => by
    have := trips_len n l (by simp at h; omega)
    simp [trips, trip, this]; omega
  | 0, _ :: _, h => by simp at h
  | n + 1, [], h => by simp at h
  | n + 1, [_], h => by simp at h; omega
  | n + 1, [_, _], h => by simp at h; omega
theorem trips_append : ∀ (n : Nat) (l r : List Nat), l.length = 3 * n → trips (l ++ r) = trips l ++ trips r
  | 0, [], _, _ => rfl
  | n + 1, a :: b :: c :: l, r, h => by
    have := trips_append n l r (by simp at h; omega)
    simp [trips, this]
  | 0, _ :: _, _, h => by simp at h
  | n + 1, [], _, h => by simp at h
  | n + 1, [_], _, h => by simp at h; omega
  | n + 1, [_, _], _, h => by simp at h; omega
theorem trips_lt : ∀ (n : Nat) (l : List Nat), l.length ≤ n → (∀ x ∈ l, x < 40) → ∀ x ∈ trips l, x < 256
  | n + 1, a :: b :: c :: l, h, hl => by
    intro x hx
    simp only [trips, trip, List.mem_append, List.mem_cons, List.not_mem_nil, or_false] at hx
    have ha := hl a (by simp)
    have hb := hl b (by simp)
    have hc := hl c (by simp)
    rcases hx with (rfl | rfl) | hx
    · omega
    · omega
    · exact trips_lt n l (by simp at h; omega) (fun x hx => hl x (by simp [hx])) x hx
  | _, [], _, _ => by simp [trips]
  | _, [_], _, _ => by simp [trips]
  | _, [_, _], _, _ => by simp [trips]
theorem latch_lt (mode : Nat) : latch mode < 256 := by unfold latch; split <;> (try split) <;> (try split) <;> omega
theorem run_cut {mode : Nat} : ∀ (l : List Nat) (set : Nat) (r o : List Nat) (s : Nat), run mode set (l ++ r) = some (o, s) → ∃ o1 s1 o2, run mode set l = some (o1, s1) ∧ run mode s1 r = some (o2, s) ∧ o = o1 ++ o2
  | [], set, r, o, s, h => ⟨[], set, o, rfl, h, rfl⟩
  | v :: l, set, r, o, s, h => by
    simp only [run, List.cons_append] at h ⊢
    cases hv : val mode set v with
    | none => rw [hv] at h; cases h
    | some p =>
      obtain ⟨o1, s1⟩ := p
      rw [hv] at h
      simp only at h ⊢
      cases hr : run mode s1 (l ++ r) with
      | none => rw [hr] at h; cases h
      | some q =>
        obtain ⟨o2, s2⟩ := q
        rw [hr] at h
        simp only [Option.some.injEq, Prod.mk.injEq] at h
        obtain ⟨rfl, rfl⟩ := h
        obtain ⟨a1, a2, a3, e1, e2, rfl⟩ := run_cut l s1 r o2 s2 hr
        exact ⟨o1 ++ a1, a2, a3, by rw [e1], e2, by simp [List.append_assoc]⟩
/-- Words of triples say what their values say; what follows is read by 'tail'. -/
theorem threes_say {mode : Nat} : ∀ (n : Nat) (V : List Nat) (set : Nat) (o : List Nat) (s' : Nat) (tl o' rest : List Nat), V.length = 3 * n → (∀ x ∈ V, x < 40) → run mode set V = some (o, s') → (∀ s, Threes mode s tl o' rest) → Threes mode set (trips V ++ tl) (o ++ o') rest
  | 0, [], set, o, s', tl, o', rest, _, _, hr, ht => by
    simp only [run, Option.some.injEq, Prod.mk.injEq] at hr
    obtain ⟨rfl, rfl⟩ := hr
    exact ht set
  | n + 1, a :: b :: c :: l, set, o, s', tl, o', rest, h, hV, hr, ht => by
    obtain ⟨o1, s1, o2, e1, e2, rfl⟩ := run_cut [a, b, c] set l o s' hr
    have ha := hV a (by simp)
    have hb := hV b (by simp)
    have hc := hV c (by simp)
    have ih := threes_say n l s1 o2 s' tl o' rest (by simp at h; omega) (fun x hx => hV x (by simp [hx])) e2 ht
    have e3 : (1600 * a + 40 * b + c) / 1600 = a := by omega
    have e4 : (1600 * a + 40 * b + c) / 40 % 40 = b := by omega
    have e5 : (1600 * a + 40 * b + c) % 40 = c := by omega
    have := Threes.pair (mode := mode) (s := set) (a := (1600 * a + 40 * b + c + 1) / 256) (b := (1600 * a + 40 * b + c + 1) % 256) (n := 1600 * a + 40 * b + c) (by omega) (Nat.mod_lt _ (by omega)) (by omega) (by omega)
      (by rw [e3, e4, e5]; exact e1) ih
    simpa [trips, trip, List.append_assoc] using this
  | 0, _ :: _, _, _, _, _, _, _, h, _, _, _ => by simp at h
  | n + 1, [], _, _, _, _, _, _, h, _, _, _ => by simp at h
  | n + 1, [_], _, _, _, _, _, _, h, _, _, _ => by simp at h; omega
  | n + 1, [_, _], _, _, _, _, _, _, h, _, _, _ => by simp at h; omega
theorem threes_unl (mode : Nat) (c : List Nat) (s : Nat) : Threes mode s (254 :: c) [] c := by
  cases c with
  | nil => exact .last
  | cons a l => exact .unl (by simp)
theorem threes_tail {mode k : Nat} {c o : List Nat} (h : Say c o k) (hc : c.length ≤ 1) (s : Nat) : Threes mode s c [] c := by
  match c, hc with
  | [], _ => exact .nil
  | [x], _ =>
    refine .one fun e => ?_
    subst e
    exact Say.not254 h
/-- A segment of triples behind its latch: with the unlatch; without it where one word at most follows. -/
theorem seg_unl {mode n : Nat} {V o c o' : List Nat} {s' k : Nat} (h1 : 1 ≤ mode) (h3 : mode ≤ 3) (hn : V.length = 3 * n) (hV : ∀ x ∈ V, x < 40) (hr : run mode 0 V = some (o, s')) (h : Say c o' k) :
    Say (latch mode :: (trips V ++ [254]) ++ c) (o ++ o') ((latch mode :: (trips V ++ [254])).length + k) := by
  have ht := threes_say (mode := mode) n V 0 o s' (254 :: c) [] c hn hV hr (threes_unl mode c)
  have := Say.threes h1 h3 ht h
  rw [List.append_nil] at this
  have e : 1 + ((trips V ++ 254 :: c).length - c.length) + k = (latch mode :: (trips V ++ [254])).length + k := by simp; omega
  rw [e] at this
  simpa [List.append_assoc] using this
theorem seg_full {mode n : Nat} {V o c o' : List Nat} {s' k : Nat} (h1 : 1 ≤ mode) (h3 : mode ≤ 3) (hn : V.length = 3 * n) (hV : ∀ x ∈ V, x < 40) (hr : run mode 0 V = some (o, s')) (h : Say c o' k) (hc : c.length ≤ 1) :
    Say (latch mode :: trips V ++ c) (o ++ o') ((latch mode :: trips V).length + k) := by
  have ht := threes_say (mode := mode) n V 0 o s' c [] c hn hV hr (threes_tail h hc)
  have := Say.threes h1 h3 ht h
  rw [List.append_nil] at this
  have e : 1 + ((trips V ++ c).length - c.length) + k = (latch mode :: trips V).length + k := by simp; omega
  rw [e] at this
  exact this
end Go.Qz.DV
namespace Go.Qz.DV
open Go.Qz
set_option linter.unusedVariables false

/-- The values of a byte in C40 (1), Text (2). -/
def ev (mode c : Nat) : List Nat :=
  if c = 32 then [3] else if 48 ≤ c ∧ c ≤ 57 then [c - 48 + 4]
  else if mode = 1 then
    (if 65 ≤ c ∧ c ≤ 90 then [c - 65 + 14] else if c < 32 then [0, c] else if c ≤ 47 then [1, c - 33] else if c ≤ 64 then [1, c - 58 + 15] else if c ≤ 95 then [1, c - 91 + 22] else [2, c - 96])
  else if 97 ≤ c ∧ c ≤ 122 then [c - 97 + 14] else if c < 32 then [0, c] else if c ≤ 47 then [1, c - 33] else if c ≤ 64 then [1, c - 58 + 15]
  else if 91 ≤ c ∧ c ≤ 95 then [1, c - 91 + 22] else if c = 96 then [2, 0] else if c ≤ 90 then [2, c - 65 + 1] else [2, c - 123 + 27]
def evOk (mode c : Nat) : Bool := decide (run mode 0 (ev mode c) = some ([c], 0)) && ((ev mode c).all fun x => decide (x < 40)) && (decide ((ev mode c).length = 1) || (decide ((ev mode c).length = 2) && decide (nth (ev mode c) 0 < 3)))
theorem evOk_all : ((List.range 128).all fun c => evOk 1 c && evOk 2 c) = true := by decide +kernel
theorem ev_ok {mode c : Nat} (hm : mode = 1 ∨ mode = 2) (hc : c < 128) : run mode 0 (ev mode c) = some ([c], 0) ∧ (∀ x ∈ ev mode c, x < 40) ∧ ((ev mode c).length = 1 ∨ ((ev mode c).length = 2 ∧ nth (ev mode c) 0 < 3)) := by
  have h := List.all_eq_true.1 evOk_all c (List.mem_range.2 hc)
  have h2 : evOk mode c = true := by
    rw [Bool.and_eq_true] at h
    rcases hm with rfl | rfl
    · exact h.1
    · exact h.2
  unfold evOk at h2
  simp only [Bool.and_eq_true, Bool.or_eq_true, decide_eq_true_eq, List.all_eq_true] at h2
  exact ⟨h2.1.1, h2.1.2, h2.2⟩
def evs (mode : Nat) (l : List Nat) : List Nat := l.flatMap (ev mode)
theorem evs_append (mode : Nat) (l r : List Nat) : evs mode (l ++ r) = evs mode l ++ evs mode r := by unfold evs; rw [List.flatMap_append]
theorem evs_one (mode c : Nat) : evs mode [c] = ev mode c := by simp [evs]
theorem evs_run {mode : Nat} (hm : mode = 1 ∨ mode = 2) : ∀ (l : List Nat), (∀ x ∈ l, x < 128) → run mode 0 (evs mode l) = some (l, 0)
  | [], _ => rfl
  | c :: l, h => by
    have h1 := (ev_ok hm (h c (by simp))).1
    have h2 := evs_run hm l fun x hx => h x (by simp [hx])
    exact run_append mode (ev mode c) 0 (evs mode l) [c] 0 l 0 h1 h2
theorem evs_lt {mode : Nat} (hm : mode = 1 ∨ mode = 2) {l : List Nat} (h : ∀ x ∈ l, x < 128) : ∀ x ∈ evs mode l, x < 40 := by
  intro x hx
  obtain ⟨c, hc, hx⟩ := List.mem_flatMap.1 hx
  exact (ev_ok hm (h c hc)).2.1 x hx
theorem evs_len {mode : Nat} (hm : mode = 1 ∨ mode = 2) : ∀ (l : List Nat), (∀ x ∈ l, x < 128) → l.length ≤ (evs mode l).length ∧ (evs mode l).length ≤ 2 * l.length
  | [], _ => by simp [evs]
  | c :: l, h => by
    have h1 := (ev_ok hm (h c (by simp))).2.2
    have h2 := evs_len hm l fun x hx => h x (by simp [hx])
    have e : (evs mode (c :: l)).length = (ev mode c).length + (evs mode l).length := by simp [evs]
    rw [e, List.length_cons]; omega
theorem shift_run {mode d : Nat} (hm : mode = 1 ∨ mode = 2) (hd : d < 3) : run mode 0 [d] = some ([], d + 1) := by
  have h3 : mode ≠ 3 := by omega
  simp [run, val, h3, hd]
/-- A dangling shift, or none. -/
def Dang (D : List Nat) : Prop := D = [] ∨ ∃ d, d < 3 ∧ D = [d]
theorem dang_run {mode : Nat} {l D : List Nat} (hm : mode = 1 ∨ mode = 2) (hl : ∀ x ∈ l, x < 128) (hD : Dang D) : ∃ s, run mode 0 (evs mode l ++ D) = some (l, s) := by
  rcases hD with rfl | ⟨d, hd, rfl⟩
  · exact ⟨0, by rw [List.append_nil]; exact evs_run hm l hl⟩
  · refine ⟨d + 1, ?_⟩
    have := run_append mode (evs mode l) 0 [d] l 0 [] (d + 1) (evs_run hm l hl) (shift_run hm hd)
    rwa [List.append_nil] at this
theorem dang_lt {mode : Nat} {l D : List Nat} (hm : mode = 1 ∨ mode = 2) (hl : ∀ x ∈ l, x < 128) (hD : Dang D) : ∀ x ∈ evs mode l ++ D, x < 40 := by
  intro x hx
  rcases List.mem_append.1 hx with hx | hx
  · exact evs_lt hm hl x hx
  · rcases hD with rfl | ⟨d, hd, rfl⟩
    · cases hx
    · rw [List.mem_singleton.1 hx]; omega
theorem part_mem {s : List Nat} {p q : Nat} {P : Nat → Prop} (h : ∀ i, p ≤ i → i < q → i < s.length → P (nth s i)) : ∀ x ∈ part s p q, P x := by
  intro x hx
  obtain ⟨j, hj, e⟩ := List.getElem_of_mem hx
  unfold part at hj e
  simp at hj
  rw [List.getElem_drop, List.getElem_take] at e
  have := h (p + j) (by omega) (by omega) (by omega)
  rw [nth_eq (by omega)] at this
  rw [← e]; exact this
section
variable {sh T p0 : Nat} {s mac w : List Nat} {pos q mode n : Nat} {D : List Nat}
/-- What comes behind a text that is written with the unlatch. -/
theorem InvA.c40u (h : InvA sh T p0 s mac w pos) (h0 : p0 ≤ pos) (hq : pos ≤ q) (hqs : q ≤ s.length) (hT : pos + 2 < T) (hm : mode = 1 ∨ mode = 2) (hs : ∀ i, i < s.length → nth s i < 128) (hD : Dang D) (hn : (evs mode (part s pos q) ++ D).length = 3 * n) :
    InvA sh T p0 s mac (w ++ (latch mode :: (trips (evs mode (part s pos q) ++ D) ++ [254]))) q := by
  have hp : ∀ x ∈ part s pos q, x < 128 := part_mem fun i _ _ h => hs i h
  obtain ⟨s', hr⟩ := dang_run hm hp hD
  have hl := evs_len hm _ hp
  rw [part_len hqs] at hl
  have ht := trips_len n _ hn
  rw [List.length_append] at hn
  refine h.step h0 hq hqs ?_ (fun h => by omega) (fun x hx => by
    rcases List.mem_cons.1 hx with rfl | hx
    · exact latch_lt _
    rcases List.mem_append.1 hx with hx | hx
    · exact trips_lt _ _ (Nat.le_refl _) (dang_lt hm hp hD) x hx
    · rw [List.mem_singleton.1 hx]; omega) fun c o k hc _ _ => ?_
  · simp only [List.length_cons, List.length_append, List.length_nil, ht]; omega
  · exact seg_unl (by omega) (by omega) (by rw [List.length_append]; exact hn) (dang_lt hm hp hD) hr hc
/-- The same without it: the symbol is full, or one word is left. -/
theorem InvA.c40f (h : InvA sh T p0 s mac w pos) (h0 : p0 ≤ pos) (hq : pos ≤ q) (hqs : q ≤ s.length) (hT : pos + 2 < T) (hm : mode = 1 ∨ mode = 2) (hs : ∀ i, i < s.length → nth s i < 128) (hD : Dang D) (hn : (evs mode (part s pos q) ++ D).length = 3 * n)
    (hsh : sh ≤ 2) (hTq : T ≤ q + 2) (hqT : q ≤ T) (hmo : w.length + 1 + 2 * n + (T - q) ≤ mostOf sh) (hcap : capFor sh (w.length + 1 + 2 * n + (T - q)) ≤ w.length + 1 + 2 * n + 1) :
    InvA sh T p0 s mac (w ++ (latch mode :: trips (evs mode (part s pos q) ++ D))) q := by
  have hp : ∀ x ∈ part s pos q, x < 128 := part_mem fun i _ _ h => hs i h
  obtain ⟨s', hr⟩ := dang_run hm hp hD
  have hl := evs_len hm _ hp
  rw [part_len hqs] at hl
  have ht := trips_len n _ hn
  rw [List.length_append] at hn
  refine h.step h0 hq hqs ?_ (fun h => by omega) (fun x hx => by
    rcases List.mem_cons.1 hx with rfl | hx
    · exact latch_lt _
    · exact trips_lt _ _ (Nat.le_refl _) (dang_lt hm hp hD) x hx) fun c o k hc _ hf => ?_
  · simp only [List.length_cons, ht]; omega
  · refine seg_full (by omega) (by omega) (by rw [List.length_append]; exact hn) (dang_lt hm hp hD) hr hc ?_
    obtain ⟨N, a1, a2, a3, a4, a5⟩ := hf
    simp only [List.length_cons, ht] at a1 a2 a3 a5
    have := a3 hTq
    have := capFor_mono hsh hmo (show N ≤ w.length + 1 + 2 * n + (T - q) by omega)
    omega
end

/-- The value of a byte in X12. -/
def xv (c : Nat) : Nat := if c = 13 then 0 else if c = 42 then 1 else if c = 62 then 2 else if c = 32 then 3 else if c ≤ 57 then c - 48 + 4 else c - 65 + 14
def isX (c : Nat) : Bool := decide (c = 13) || decide (c = 42) || decide (c = 62) || decide (c = 32) || (decide (48 ≤ c) && decide (c ≤ 57)) || (decide (65 ≤ c) && decide (c ≤ 90))
theorem xv_all : ((List.range 128).all fun c => !isX c || (decide (xv c < 40) && decide (val 3 0 (xv c) = some ([c], 0)))) = true := by decide +kernel
theorem xv_ok {c : Nat} (h : c < 128) (hx : isX c = true) : xv c < 40 ∧ val 3 0 (xv c) = some ([c], 0) := by
  have := List.all_eq_true.1 xv_all c (List.mem_range.2 h)
  simpa [hx] using this
theorem xs_run : ∀ (l : List Nat), (∀ x ∈ l, x < 128 ∧ isX x = true) → run 3 0 (l.map xv) = some (l, 0)
  | [], _ => rfl
  | c :: l, h => by
    have h1 := (xv_ok (h c (by simp)).1 (h c (by simp)).2).2
    have h2 := xs_run l fun x hx => h x (by simp [hx])
    simp [run, h1, h2]
section
variable {sh T p0 : Nat} {s mac w : List Nat} {pos q n : Nat}
theorem InvA.x12u (h : InvA sh T p0 s mac w pos) (h0 : p0 ≤ pos) (hq : pos ≤ q) (hqs : q ≤ s.length) (hT : pos + 2 < T) (hs : ∀ i, pos ≤ i → i < q → nth s i < 128 ∧ isX (nth s i) = true) (hn : q - pos = 3 * n) :
    InvA sh T p0 s mac (w ++ (latch 3 :: (trips ((part s pos q).map xv) ++ [254]))) q := by
  have hp : ∀ x ∈ part s pos q, x < 128 ∧ isX x = true := part_mem fun i h1 h2 _ => hs i h1 h2
  have hl : ((part s pos q).map xv).length = 3 * n := by rw [List.length_map, part_len hqs, hn]
  have ht := trips_len n _ hl
  refine h.step h0 hq hqs ?_ (fun h => by omega) (fun x hx => by
    rcases List.mem_cons.1 hx with rfl | hx
    · exact latch_lt _
    rcases List.mem_append.1 hx with hx | hx
    · exact trips_lt _ _ (Nat.le_refl _) (fun y hy => by obtain ⟨c, hc, rfl⟩ := List.mem_map.1 hy; exact (xv_ok (hp c hc).1 (hp c hc).2).1) x hx
    · rw [List.mem_singleton.1 hx]; omega) fun c o k hc _ _ => ?_
  · simp only [List.length_cons, List.length_append, List.length_nil, ht]; omega
  · exact seg_unl (by omega) (by omega) hl (fun x hx => by obtain ⟨c, hc, rfl⟩ := List.mem_map.1 hx; exact (xv_ok (hp c hc).1 (hp c hc).2).1) (xs_run _ hp) hc
theorem InvA.x12f (h : InvA sh T p0 s mac w pos) (h0 : p0 ≤ pos) (hq : pos ≤ q) (hqs : q ≤ s.length) (hT : pos + 2 < T) (hs : ∀ i, pos ≤ i → i < q → nth s i < 128 ∧ isX (nth s i) = true) (hn : q - pos = 3 * n)
    (hsh : sh ≤ 2) (hTq : T ≤ q + 2) (hqT : q ≤ T) (hmo : w.length + 1 + 2 * n + (T - q) ≤ mostOf sh) (hcap : capFor sh (w.length + 1 + 2 * n + (T - q)) ≤ w.length + 1 + 2 * n + 1) :
    InvA sh T p0 s mac (w ++ (latch 3 :: trips ((part s pos q).map xv))) q := by
  have hp : ∀ x ∈ part s pos q, x < 128 ∧ isX x = true := part_mem fun i h1 h2 _ => hs i h1 h2
  have hl : ((part s pos q).map xv).length = 3 * n := by rw [List.length_map, part_len hqs, hn]
  have ht := trips_len n _ hl
  refine h.step h0 hq hqs ?_ (fun h => by omega) (fun x hx => by
    rcases List.mem_cons.1 hx with rfl | hx
    · exact latch_lt _
    · exact trips_lt _ _ (Nat.le_refl _) (fun y hy => by obtain ⟨c, hc, rfl⟩ := List.mem_map.1 hy; exact (xv_ok (hp c hc).1 (hp c hc).2).1) x hx) fun c o k hc _ hf => ?_
  · simp only [List.length_cons, ht]; omega
  · refine seg_full (by omega) (by omega) hl (fun x hx => by obtain ⟨c, hc, rfl⟩ := List.mem_map.1 hx; exact (xv_ok (hp c hc).1 (hp c hc).2).1) (xs_run _ hp) hc ?_
    obtain ⟨N, a1, a2, a3, a4, a5⟩ := hf
    simp only [List.length_cons, ht] at a1 a2 a3 a5
    have := a3 hTq
    have := capFor_mono hsh hmo (show N ≤ w.length + 1 + 2 * n + (T - q) by omega)
    omega
end
end Go.Qz.DV
namespace Go.Qz.DV
open Go.Qz
set_option linter.unusedVariables false

/-- Six bits of a byte. -/
def e6 (c : Nat) : Nat := if c ≤ 63 then c else c - 64
def isE (c : Nat) : Bool := decide (32 ≤ c) && decide (c ≤ 94)
theorem e6_ok {c : Nat} (h : isE c = true) : e6 c < 64 ∧ e6 c ≠ 31 ∧ six (e6 c) = c := by
  unfold isE at h
  simp only [Bool.and_eq_true, decide_eq_true_eq] at h
  unfold six e6
  refine ⟨?_, ?_, ?_⟩
  · split <;> omega
  · split <;> omega
  · split
    · rw [if_neg (by omega)]
    · rw [if_pos (by omega)]; omega
/-- Three words of four values. -/
def six3 (a b c d : Nat) : List Nat := [a * 4 + b / 16, b % 16 * 16 + c / 4, c % 4 * 64 + d]
theorem quad_six {a b c d : Nat} (ha : a < 64) (hb : b < 64) (hc : c < 64) (hd : d < 64) : quad (a * 4 + b / 16) (b % 16 * 16 + c / 4) (c % 4 * 64 + d) = [a, b, c, d] := by
  unfold quad
  rw [show (a * 4 + b / 16) / 4 = a by omega, show (a * 4 + b / 16) % 4 * 16 + (b % 16 * 16 + c / 4) / 16 = b by omega, show (b % 16 * 16 + c / 4) % 16 * 4 + (c % 4 * 64 + d) / 64 = c by omega, show (c % 4 * 64 + d) % 64 = d by omega]
def sixes : List Nat → List Nat
  | a :: b :: c :: d :: l => six3 (e6 a) (e6 b) (e6 c) (e6 d) ++ sixes l
  | _ => []
theorem sixes_len : ∀ (n : Nat) (l : List Nat), l.length = 4 * n → (sixes l).length = 3 * n
  | 0, [], _ => rfl
  | n + 1, a :: b :: c :: d :: l, h => by
    have := sixes_len n l (by simp at h; omega)
    simp [sixes, six3, this]; omega
  | 0, _ :: _, h => by simp at h
  | n + 1, [], h => by simp at h
  | n + 1, [_], h => by simp at h; omega
  | n + 1, [_, _], h => by simp at h; omega
  | n + 1, [_, _, _], h => by simp at h; omega
theorem sixes_append : ∀ (n : Nat) (l r : List Nat), l.length = 4 * n → sixes (l ++ r) = sixes l ++ sixes r
  | 0, [], _, _ => rfl
  | n + 1, a :: b :: c :: d :: l, r, h => by
    have := sixes_append n l r (by simp at h; omega)
    simp [sixes, this]
  | 0, _ :: _, _, h => by simp at h
  | n + 1, [], _, h => by simp at h
  | n + 1, [_], _, h => by simp at h; omega
  | n + 1, [_, _], _, h => by simp at h; omega
  | n + 1, [_, _, _], _, h => by simp at h; omega
theorem sixes_say : ∀ (n : Nat) (l tl o' rest : List Nat), l.length = 4 * n → (∀ x ∈ l, isE x = true) → Sixes tl o' rest → Sixes (sixes l ++ tl) (l ++ o') rest
  | 0, [], tl, o', rest, _, _, ht => ht
  | n + 1, a :: b :: c :: d :: l, tl, o', rest, h, hl, ht => by
    have ih := sixes_say n l tl o' rest (by simp at h; omega) (fun x hx => hl x (by simp [hx])) ht
    obtain ⟨a1, a2, a3⟩ := e6_ok (hl a (by simp))
    obtain ⟨b1, b2, b3⟩ := e6_ok (hl b (by simp))
    obtain ⟨c1, c2, c3⟩ := e6_ok (hl c (by simp))
    obtain ⟨d1, d2, d3⟩ := e6_ok (hl d (by simp))
    have hq := quad_six a1 b1 c1 d1
    have := Sixes.full (a := e6 a * 4 + e6 b / 16) (b := e6 b % 16 * 16 + e6 c / 4) (c := e6 c % 4 * 64 + e6 d) (by omega) (by omega) (by omega) (by
      rw [hq]; intro v hv; simp at hv; rcases hv with rfl | rfl | rfl | rfl <;> assumption) ih
    rw [hq] at this
    simp only [List.map_cons, List.map_nil, a3, b3, c3, d3] at this
    simpa [sixes, six3] using this
  | 0, _ :: _, _, _, _, h, _, _ => by simp at h
  | n + 1, [], _, _, _, h, _, _ => by simp at h
  | n + 1, [_], _, _, _, h, _, _ => by simp at h; omega
  | n + 1, [_, _], _, _, _, h, _, _ => by simp at h; omega
  | n + 1, [_, _, _], _, _, _, h, _, _ => by simp at h; omega
/-- The unlatch alone, behind one, two, three bytes. -/
theorem unl0 {c : List Nat} (hc : 2 ≤ c.length) (hb : ∀ x ∈ c, x < 256) : Sixes (124 :: c) [] c := by
  match c, hc with
  | x :: y :: r, _ => exact Sixes.unl (a := 124) (b := x) (c := y) (k := 0) (r := r) (by omega) (hb x (by simp)) (hb y (by simp)) (by omega) (by simp) rfl
theorem unl1 {a : Nat} {c : List Nat} (ha : isE a = true) (hc : 1 ≤ c.length) (hb : ∀ x ∈ c, x < 256) : Sixes ([e6 a * 4 + 31 / 16, 31 % 16 * 16] ++ c) [a] c := by
  obtain ⟨a1, a2, a3⟩ := e6_ok ha
  match c, hc with
  | x :: r, _ =>
    have hx := hb x (by simp)
    have e1 : (e6 a * 4 + 31 / 16) / 4 = e6 a := by omega
    have e2 : (e6 a * 4 + 31 / 16) % 4 * 16 + (31 % 16 * 16) / 16 = 31 := by omega
    have := Sixes.unl (a := e6 a * 4 + 31 / 16) (b := 31 % 16 * 16) (c := x) (k := 1) (r := r) (by omega) (by omega) hx (by omega) (by
      unfold quad; rw [e1]; intro v hv; simp at hv; rw [hv]; exact a2) (by unfold quad; rw [e2]; rfl)
    unfold quad at this
    rw [e1] at this
    simpa [a3] using this
theorem unl2 {a b : Nat} {c : List Nat} (ha : isE a = true) (hb : isE b = true) : Sixes (six3 (e6 a) (e6 b) 31 0 ++ c) [a, b] c := by
  obtain ⟨a1, a2, a3⟩ := e6_ok ha
  obtain ⟨b1, b2, b3⟩ := e6_ok hb
  have hq := quad_six a1 b1 (show 31 < 64 by omega) (show 0 < 64 by omega)
  have := Sixes.unl (a := e6 a * 4 + e6 b / 16) (b := e6 b % 16 * 16 + 31 / 4) (c := 31 % 4 * 64 + 0) (k := 2) (r := c) (by omega) (by omega) (by omega) (by omega) (by
    rw [hq]; intro v hv; simp at hv; rcases hv with rfl | rfl <;> assumption) (by rw [hq]; rfl)
  rw [hq] at this
  simpa [six3, a3, b3] using this
theorem unl3 {a b d : Nat} {c : List Nat} (ha : isE a = true) (hb : isE b = true) (hd : isE d = true) : Sixes (six3 (e6 a) (e6 b) (e6 d) 31 ++ c) [a, b, d] c := by
  obtain ⟨a1, a2, a3⟩ := e6_ok ha
  obtain ⟨b1, b2, b3⟩ := e6_ok hb
  obtain ⟨d1, d2, d3⟩ := e6_ok hd
  have hq := quad_six a1 b1 d1 (show 31 < 64 by omega)
  have := Sixes.unl (a := e6 a * 4 + e6 b / 16) (b := e6 b % 16 * 16 + e6 d / 4) (c := e6 d % 4 * 64 + 31) (k := 3) (r := c) (by omega) (by omega) (by omega) (by omega) (by
    rw [hq]; intro v hv; simp at hv; rcases hv with rfl | rfl | rfl <;> assumption) (by rw [hq]; rfl)
  rw [hq] at this
  simpa [six3, a3, b3, d3] using this
theorem seg_six {n : Nat} {l tl c o1 o' : List Nat} {k : Nat} (hn : l.length = 4 * n) (hl : ∀ x ∈ l, isE x = true) (ht : Sixes (tl ++ c) o1 c) (h : Say c o' k) :
    Say (240 :: (sixes l ++ tl) ++ c) ((l ++ o1) ++ o') ((240 :: (sixes l ++ tl)).length + k) := by
  have h1 := sixes_say n l (tl ++ c) o1 c hn hl ht
  have := Say.sixes h1 h
  have e : 1 + ((sixes l ++ (tl ++ c)).length - c.length) + k = (240 :: (sixes l ++ tl)).length + k := by simp; omega
  rw [e] at this
  simpa [List.append_assoc] using this
theorem sixes_lt : ∀ (n : Nat) (l : List Nat), l.length ≤ n → (∀ x ∈ l, isE x = true) → ∀ x ∈ sixes l, x < 256
  | n + 1, a :: b :: c :: d :: l, h, hl => by
    intro x hx
    simp only [sixes, six3, List.mem_append, List.mem_cons, List.not_mem_nil, or_false] at hx
    have ha := (e6_ok (hl a (by simp))).1
    have hb := (e6_ok (hl b (by simp))).1
    have hc := (e6_ok (hl c (by simp))).1
    have hd := (e6_ok (hl d (by simp))).1
    rcases hx with (rfl | rfl | rfl) | hx
    · omega
    · omega
    · omega
    · exact sixes_lt n l (by simp at h; omega) (fun x hx => hl x (by simp [hx])) x hx
  | _, [], _, _ => by simp [sixes]
  | _, [_], _, _ => by simp [sixes]
  | _, [_, _], _, _ => by simp [sixes]
  | _, [_, _, _], _, _ => by simp [sixes]
section
variable {sh T p0 : Nat} {s mac w : List Nat} {pos q q' n : Nat} {tl : List Nat}
/-- A segment of EDIFACT: fours up to q, then words tl up to q'. -/
theorem InvA.edi (h : InvA sh T p0 s mac w pos) (h0 : p0 ≤ pos) (hq : pos ≤ q) (hq' : q ≤ q') (hqs : q' ≤ s.length) (hT : pos + 2 < T) (hs : ∀ i, pos ≤ i → i < q → isE (nth s i) = true) (hn : q - pos = 4 * n) (h4 : q' ≤ q + 2 * tl.length) (htb : ∀ x ∈ tl, x < 256)
    (ht : ∀ c o k, Say c o k → (∀ x ∈ c, x < 256) → Fits sh T (w.length + (1 + 3 * n + tl.length)) q' c.length → Sixes (tl ++ c) (part s q q') c) :
    InvA sh T p0 s mac (w ++ (240 :: (sixes (part s pos q) ++ tl))) q' := by
  have hp : ∀ x ∈ part s pos q, isE x = true := part_mem fun i h1 h2 _ => hs i h1 h2
  have hl : (part s pos q).length = 4 * n := by rw [part_len (by omega), hn]
  have hw := sixes_len n _ hl
  refine h.step h0 (by omega) hqs ?_ (fun h => by omega) (fun x hx => ?_) fun c o k hc hb hf => ?_
  · simp only [List.length_cons, List.length_append, hw]; omega
  · rcases List.mem_cons.1 hx with rfl | hx
    · omega
    rcases List.mem_append.1 hx with hx | hx
    · exact sixes_lt _ _ (Nat.le_refl _) hp x hx
    · exact htb x hx
  · have e : (240 :: (sixes (part s pos q) ++ tl)).length = 1 + 3 * n + tl.length := by simp only [List.length_cons, List.length_append, hw]; omega
    rw [e] at hf
    have := seg_six hl hp (ht c o k hc hb hf) hc
    rw [part_add hq hq' hqs]
    exact this
end
end Go.Qz.DV
namespace Go.Qz.DV
open Go.Qz
set_option linter.unusedVariables false

section
variable {sh T p0 : Nat} {s mac w : List Nat} {pos q n : Nat}
/-- No unlatch: at most two words follow. -/
theorem InvA.edi0 (h : InvA sh T p0 s mac w pos) (h0 : p0 ≤ pos) (hq : pos ≤ q) (hqs : q ≤ s.length) (hT : pos + 2 < T) (hs : ∀ i, pos ≤ i → i < q → isE (nth s i) = true) (hn : q - pos = 4 * n)
    (hsh : sh ≤ 2) (hTq : T ≤ q + 2) (hqT : q ≤ T) (hmo : w.length + 1 + 3 * n + (T - q) ≤ mostOf sh) (hcap : capFor sh (w.length + 1 + 3 * n + (T - q)) ≤ w.length + 1 + 3 * n + 2) :
    InvA sh T p0 s mac (w ++ (240 :: (sixes (part s pos q) ++ []))) q := by
  refine h.edi (n := n) h0 hq (Nat.le_refl _) hqs hT hs hn (by omega) (by simp) fun c o k hc hb hf => ?_
  rw [part_self]
  refine .short ?_
  obtain ⟨N, a1, a2, a3, a4, a5⟩ := hf
  rw [List.length_nil, Nat.add_zero] at a1 a2 a3 a5
  have := a3 hTq
  have := capFor_mono hsh hmo (show N ≤ w.length + 1 + 3 * n + (T - q) by omega)
  show c.length ≤ 2
  omega
/-- The unlatch alone. -/
theorem InvA.edi1 (h : InvA sh T p0 s mac w pos) (h0 : p0 ≤ pos) (hq : pos ≤ q) (hqs : q ≤ s.length) (hT : pos + 2 < T) (hs : ∀ i, pos ≤ i → i < q → isE (nth s i) = true) (hn : q - pos = 4 * n)
    (hB : ∀ N, w.length + 1 + 3 * n + 1 ≤ N → T ≤ q + 2 * (N - (w.length + 1 + 3 * n + 1)) → N ≤ mostOf sh → w.length + 1 + 3 * n + 3 ≤ capFor sh N) :
    InvA sh T p0 s mac (w ++ (240 :: (sixes (part s pos q) ++ [124]))) q := by
  refine h.edi (n := n) h0 hq (Nat.le_refl _) hqs hT hs hn (by omega) (by simp) fun c o k hc hb hf => ?_
  rw [part_self]
  show Sixes (124 :: c) [] c
  refine unl0 ?_ hb
  obtain ⟨N, a1, a2, a3, a4, a5⟩ := hf
  simp only [List.length_cons, List.length_nil] at a1 a2 a3 a5
  have := hB N (by omega) (by rw [show w.length + 1 + 3 * n + 1 = w.length + (1 + 3 * n + (0 + 1)) by omega]; exact a2) a4
  omega
/-- The unlatch behind one byte, the last one; at least three words were left. -/
theorem InvA.edi2 (h : InvA sh T p0 s mac w pos) (h0 : p0 ≤ pos) (hq : pos ≤ q) (hqs : q < s.length) (hT : pos + 2 < T) (hs : ∀ i, pos ≤ i → i < q + 1 → isE (nth s i) = true) (hn : q - pos = 4 * n)
    (hsh : sh ≤ 2) (hTq : T = q + 1) (hmo : w.length + 1 + 3 * n + 2 ≤ mostOf sh) (hcap : w.length + 1 + 3 * n + 3 ≤ capFor sh (w.length + 1 + 3 * n + 1)) :
    InvA sh T p0 s mac (w ++ (240 :: (sixes (part s pos q) ++ [e6 (nth s q) * 4 + 31 / 16, 31 % 16 * 16]))) (q + 1) := by
  have hq1 := hs q hq (by omega)
  have hq2 := (e6_ok hq1).1
  refine h.edi (n := n) h0 hq (by omega) hqs hT (fun i h1 h2 => hs i h1 (by omega)) hn (by simp) (fun x hx => by
    simp only [List.mem_cons, List.not_mem_nil, or_false] at hx
    rcases hx with rfl | rfl <;> omega) fun c o k hc hb hf => ?_
  rw [part_one hqs]
  refine unl1 hq1 ?_ hb
  obtain ⟨N, a1, a2, a3, a4, a5⟩ := hf
  simp only [List.length_cons, List.length_nil] at a1 a2 a3 a5
  have := a3 (by omega)
  have := capFor_mono hsh a4 (show w.length + 1 + 3 * n + 1 ≤ N by omega)
  omega
theorem InvA.edi3 (h : InvA sh T p0 s mac w pos) (h0 : p0 ≤ pos) (hq : pos ≤ q) (hqs : q + 1 < s.length) (hT : pos + 2 < T) (hs : ∀ i, pos ≤ i → i < q + 2 → isE (nth s i) = true) (hn : q - pos = 4 * n) :
    InvA sh T p0 s mac (w ++ (240 :: (sixes (part s pos q) ++ six3 (e6 (nth s q)) (e6 (nth s (q + 1))) 31 0))) (q + 2) := by
  have h1 := hs q hq (by omega)
  have h2 := hs (q + 1) (by omega) (by omega)
  have l1 := (e6_ok h1).1
  have l2 := (e6_ok h2).1
  refine h.edi (n := n) h0 hq (by omega) hqs hT (fun i h1 h2 => hs i h1 (by omega)) hn (by simp [six3]) (fun x hx => by
    simp only [six3, List.mem_cons, List.not_mem_nil, or_false] at hx
    rcases hx with rfl | rfl | rfl <;> omega) fun c o k hc hb hf => ?_
  rw [part_two hqs]
  exact unl2 h1 h2
theorem part_three {s : List Nat} {p : Nat} (h : p + 2 < s.length) : part s p (p + 3) = [nth s p, nth s (p + 1), nth s (p + 2)] := by
  rw [part_add (q := p + 2) (by omega) (by omega) (by omega), part_two (by omega), part_one h]
  rfl
theorem InvA.edi4 (h : InvA sh T p0 s mac w pos) (h0 : p0 ≤ pos) (hq : pos ≤ q) (hqs : q + 2 < s.length) (hT : pos + 2 < T) (hs : ∀ i, pos ≤ i → i < q + 3 → isE (nth s i) = true) (hn : q - pos = 4 * n) :
    InvA sh T p0 s mac (w ++ (240 :: (sixes (part s pos q) ++ six3 (e6 (nth s q)) (e6 (nth s (q + 1))) (e6 (nth s (q + 2))) 31))) (q + 3) := by
  have h1 := hs q hq (by omega)
  have h2 := hs (q + 1) (by omega) (by omega)
  have h3 := hs (q + 2) (by omega) (by omega)
  have l1 := (e6_ok h1).1
  have l2 := (e6_ok h2).1
  have l3 := (e6_ok h3).1
  refine h.edi (n := n) h0 hq (by omega) hqs hT (fun i h1 h2 => hs i h1 (by omega)) hn (by simp [six3]) (fun x hx => by
    simp only [six3, List.mem_cons, List.not_mem_nil, or_false] at hx
    rcases hx with rfl | rfl | rfl <;> omega) fun c o k hc hb hf => ?_
  rw [part_three hqs]
  exact unl3 h1 h2 h3
end
/-- The room that the encoder counts behind a segment of EDIFACT: r bytes remain, wl words stand. -/
def ediRoom (sh wl r : Nat) : Nat := if capFor sh wl - wl < r then capFor sh (wl + 1) - wl else capFor sh wl - wl
theorem edi_A {sh wl r : Nat} (hsh : sh ≤ 2) (hm : wl + 1 ≤ mostOf sh) (h : r ≤ ediRoom sh wl r) (h2 : ediRoom sh wl r ≤ 2) : capFor sh (wl + r) ≤ wl + 2 := by
  unfold ediRoom at h h2
  by_cases hr : capFor sh wl - wl < r
  · rw [if_pos hr] at h h2
    have := (capFor_mem hsh hm).2
    rw [capFor_stay (m := wl + 1) (by omega) (by omega)]
    omega
  · rw [if_neg hr] at h h2
    have := (capFor_mem hsh (show wl ≤ mostOf sh by omega)).2
    rw [capFor_stay (m := wl) (by omega) (by omega)]
    omega
theorem edi_B {sh wl r : Nat} (hsh : sh ≤ 2) (hm : wl + 1 ≤ mostOf sh) (h : ¬ (r ≤ ediRoom sh wl r ∧ ediRoom sh wl r ≤ 2)) (N : Nat) (h1 : wl + 1 ≤ N) (hr2 : r ≤ 2 * (N - (wl + 1))) (hN : N ≤ mostOf sh) : wl + 3 ≤ capFor sh N := by
  unfold ediRoom at h
  have hc := (capFor_mem hsh hN).2
  by_cases hr : capFor sh wl - wl < r
  · rw [if_pos hr] at h
    have c1 := (capFor_mem hsh hm).2
    have m1 := capFor_mono hsh hN h1
    by_cases h3 : wl + 3 ≤ capFor sh (wl + 1)
    · omega
    · by_cases h4 : capFor sh (wl + 1) = wl + 1
      · have := capFor_next hsh hm hN (by omega)
        omega
      · omega
  · rw [if_neg hr] at h
    have c1 := (capFor_mem hsh (show wl ≤ mostOf sh by omega)).2
    have m1 := capFor_mono hsh hN (show wl ≤ N by omega)
    omega
end Go.Qz.DV
